import JvmDerived
import JvmDerived.Pilot.@@N@@Statement
import JvmDerived.Pilot.@@N@@Code
set_option linter.unusedVariables false
set_option linter.unusedSimpArgs false
namespace Jvm.RoadKit
open Sem ClassFile Op Lib Jvm.Stand Jvm.Free Jvm.LawKit
section New
variable {p : Program} {l : Launch} {e : Env} {R : Room} {s : State} {m : MethodId} {args : Array Value} {below : List Frame} {meth : Method} {c : Code} {T : State} {locs : List Loc} {cells slots : Nat}
theorem retI (X : Stand p l e R s m args below meth c T locs cells slots) (hx : p.tables.exec = Jvm.exec) {pc : Nat} {Ls : Array Slot} {z : Int32} {rest : List Value} (hret : meth.sig.returnType = some .int) (hd : decode c.code pc = .ok (.ireturn, 1)) {fs : List Frame}
    (hl : ∀ (f : JFrame) (acts : List Action), f.method = m → f.locked = none → f.entered = [] → (doReturn e (T.setTop f) acts (some (.int z))).1 = T.setFrames fs) : Steps p.tables e below (T.setTop (mkF m pc Ls (.int z :: rest))) (T.setFrames fs) := by
  have hm' : T.vm.method? m = some meth := X.method'
  have hn : narrow .int (.int z) = .int z := rfl
  show Steps p.tables e below (T.setTop { method := m, pc := pc, locals := Ls, stack := _ :: rest, locked := none }) _
  jvm_step X.here [X.here.top, hx, hd, hm', hret, hn]
  first | (intro acts; rw [hl _ acts rfl rfl rfl]) | rw [hl _ _ rfl rfl rfl]
  exact Steps.refl _
theorem own_retJ (X : Stand p l e R s m args below meth c T locs cells slots) (hx : p.tables.exec = Jvm.exec) {pc : Nat} {Ls : Array Slot} {z : Int64} {rest : List Value} (hret : meth.sig.returnType = some .long) (hd : decode c.code pc = .ok (.lreturn, 1)) {fs : List Frame}
    (hl : ∀ (f : JFrame) (acts : List Action), f.method = m → f.locked = none → f.entered = [] → (doReturn e (T.setTop f) acts (some (.long z))).1 = T.setFrames fs) : Steps p.tables e below (T.setTop (mkF m pc Ls (.long z :: rest))) (T.setFrames fs) := by
  have hm' : T.vm.method? m = some meth := X.method'
  show Steps p.tables e below (T.setTop { method := m, pc := pc, locals := Ls, stack := _ :: rest, locked := none }) _
  jvm_step X.here [X.here.top, hx, hd, hm', hret, narrow]
  first | (intro acts; rw [hl _ acts rfl rfl rfl]) | rw [hl _ _ rfl rfl rfl]
  exact Steps.refl _
theorem own_join {n0 : Nat} (X : Stand p l e R s m args below meth c T locs cells slots) (N : Fr n0 locs) {h : Heap} (g g' : JFrame)
    (H : ∃ (T' : State) (locs' : List Loc), Stand p l e R s m args below meth c T' locs' cells slots ∧ Fr n0 locs' ∧ T'.heap = h ∧ ∀ t, Steps p.tables e below (T'.setTop g') t → Steps p.tables e below (T.setTop g) t) :
    ∃ (T' : State) (locs' : List Loc), Stand p l e R s m args below meth c T' locs' cells slots ∧ Fr n0 locs' ∧ T'.heap = h ∧ ∀ t, Steps p.tables e below (T'.setTop g') t → Steps p.tables e below (T.setTop g) t := H
theorem own_mono (X : Stand p l e R s m args below meth c T locs cells slots) {c' s' : Nat} (h1 : cells ≤ c') (h2 : slots ≤ s') : Stand p l e R s m args below meth c T locs c' s' :=
  ⟨X.admits, X.cas, X.clock, X.frames, X.room, X.hears, X.method, X.code, X.here, X.tail, X.warmed, X.limits, X.bytes, X.same.mono h1 h2⟩
theorem own_lrem {g : JFrame} {target : State} (X : Stand p l e R s m args below meth c T locs cells slots) (hx : p.tables.exec = Jvm.exec) (hg : g.method = m) {x y : Int64} {rest : List Value} (hd : decode c.code g.pc = .ok (.lrem, 1)) (hs : g.stack = .long y :: .long x :: rest) (hy : y ≠ 0)
    (hr : Steps p.tables e below (T.setTop { g with pc := g.pc + 1, stack := .long (x % y) :: rest }) target) : Steps p.tables e below (T.setTop g) target :=
  Jvm.Free.XS.lrem X.here hx hg hd hs hy (by rw [lrem_mod x y]; exact hr)
def Bya (Z : State) (h : Heap) (a : Addr) (z : Int32) (f : Int32 → Int32) : Prop := ∃ c : Cell, Arr Z h a c .byte ∧ c.slots.size = z.toNatClampNeg ∧ ∀ j : Int32, ¬ j < 0 → j < z → c.slots[j.toNatClampNeg]? = some (.int (f j))
theorem Bya.lt {Z : State} {h : Heap} {a : Addr} {z : Int32} {f : Int32 → Int32} (F : Bya Z h a z f) : a < h.size := by obtain ⟨c, A, -⟩ := F; exact A.lt
theorem Bya.ext {Z : State} {h h' : Heap} {a : Addr} {z : Int32} {f : Int32 → Int32} (F : Bya Z h a z f) (E : Ext h h') : Bya Z h' a z f := by obtain ⟨c, A, r⟩ := F; exact ⟨c, A.ext E, r⟩
theorem Bya.other {Z : State} {h h' : Heap} {a b : Addr} {z : Int32} {f : Int32 → Int32} {sl : Nat} {v : Value} (F : Bya Z h b z f) (W : Wr h h' a sl v) (q : b ≠ a) : Bya Z h' b z f := by obtain ⟨c, A, r⟩ := F; exact ⟨c, A.other W q, r⟩
theorem Bya.keep {Z : State} {h h' : Heap} {a : Addr} {z : Int32} {f : Int32 → Int32} {ws : List Addr} (F : Bya Z h a z f) (K : Keep h h' ws) (q : a ∉ ws) : Bya Z h' a z f := by obtain ⟨c, A, r⟩ := F; exact ⟨c, ⟨K.2.1 a c A.1 q, A.2⟩, r⟩
theorem Bya.set {Z : State} {h h' : Heap} {a : Addr} {z j v : Int32} {f : Int32 → Int32} {c : Cell} (A : Arr Z h a c .byte) (S : c.slots.size = z.toNatClampNeg) (H : ∀ j : Int32, ¬ j < 0 → j < z → c.slots[j.toNatClampNeg]? = some (.int (f j))) (hj : ¬ j < 0 ∧ j < z) (W : Wr h h' a j.toNatClampNeg (.int v)) : Bya Z h' a z (fun i => if i = j then v else f i) := by
  refine ⟨_, A.same W, by rw [sz_set]; exact S, fun i h1 h2 => ?_⟩
  by_cases q : i = j
  · rw [get_hit (inb_of S hj) q]; simp [q]
  · rw [get_miss hj.1 h1 q, H i h1 h2]; simp [q]
theorem Bya.of_arv {Z : State} {h : Heap} {a : Addr} {k : ClassId} {z : Int32} {vs : List Value} {es : List Int32} (F : Arv Z h a k .byte z vs (.int (0 : Int32))) (e : vs = es.map Value.int) : Bya Z h a z (fun i => es.getD i.toNatClampNeg 0) := by
  obtain ⟨c, A, -, S, -, H, -⟩ := F
  refine ⟨c, A, S, fun j h1 h2 => ?_⟩
  refine H.at (inb_of S ⟨h1, h2⟩) ?_
  subst e
  simp only [List.getD_eq_getElem?_getD, List.getElem?_map]
  cases es[j.toNatClampNeg]? <;> rfl
theorem own_b1 {x : Int32} (h : x = 1) : ¬ x = 0 := by rw [h]; decide
theorem own_cons {α : Type} {a b : α} {l m : List α} (h1 : a = b) (h2 : l = m) : a :: l = b :: m := by rw [h1, h2]
theorem own_arv {Z : State} {h : Heap} {a : Addr} {k : ClassId} {ty : FieldType} {z : Int32} {vs ws : List Value} {d : Value} (A : Arv Z h a k ty z vs d) (q : ws = vs) : Arv Z h a k ty z ws d := q ▸ A
theorem own_fld {Z : State} {h : Heap} {a : Addr} {C n d : String} {v w : Value} (F : Fld Z h a C n d v) (q : w = v) : Fld Z h a C n d w := q ▸ F
end New
end Jvm.RoadKit
namespace Jvm.Pilot.@@N@@
open Jvm Jvm.ClassFile Sem Op Lib Jvm.Free Jvm.Stand Jvm.LawKit Jvm.RoadKit Bundle Jvm.Pilot.@@N@@.Jvm.D
theorem ow0 {Z : State} {a0 : Array Value} (hw : ∀ d ∈ tables_1, d.before a0 Z = true) : (Jvm.Cond.constantLong "com/example/motley/motley/CountTreeSumBeforePinLaw" (9 : Nat) (9223372036854775807 : Int64)).before a0 Z = true := hw _ (List.mem_of_getElem? (i := 0) rfl)
theorem ow1 {Z : State} {a0 : Array Value} (hw : ∀ d ∈ tables_1, d.before a0 Z = true) : (Jvm.Cond.classLink "com/example/motley/motley/CountTreeSumBeforePinLaw" (11 : Nat) "com/example/motley/motley/CountTree").before a0 Z = true := hw _ (List.mem_of_getElem? (i := 1) rfl)
theorem ow2 {Z : State} {a0 : Array Value} (hw : ∀ d ∈ tables_1, d.before a0 Z = true) : (Jvm.Cond.instantiable "com/example/motley/motley/CountTree" (3 : Nat)).before a0 Z = true := hw _ (List.mem_of_getElem? (i := 2) rfl)
theorem ow3 {Z : State} {a0 : Array Value} (hw : ∀ d ∈ tables_1, d.before a0 Z = true) : (Jvm.Cond.initialized "com/example/motley/motley/CountTree").before a0 Z = true := hw _ (List.mem_of_getElem? (i := 3) rfl)
theorem ow4 {Z : State} {a0 : Array Value} (hw : ∀ d ∈ tables_1, d.before a0 Z = true) : (Jvm.Cond.methodLink "com/example/motley/motley/CountTreeSumBeforePinLaw" (13 : Nat) ({ cls := "com/example/motley/motley/CountTree", name := "<init>", desc := "()V" } : Jvm.MethodName)).before a0 Z = true := hw _ (List.mem_of_getElem? (i := 4) rfl)
theorem ow5 {Z : State} {a0 : Array Value} (hw : ∀ d ∈ tables_1, d.before a0 Z = true) : (Jvm.Cond.instanceMethod ({ cls := "com/example/motley/motley/CountTree", name := "<init>", desc := "()V" } : Jvm.MethodName)).before a0 Z = true := hw _ (List.mem_of_getElem? (i := 5) rfl)
theorem ow6 {Z : State} {a0 : Array Value} (hw : ∀ d ∈ tables_1, d.before a0 Z = true) : (Jvm.Cond.code ({ cls := "com/example/motley/motley/CountTree", name := "<init>", desc := "()V" } : Jvm.MethodName) prog_14_method_1_code (1 : Nat) (Option.none : Option Jvm.ClassFile.FieldType)).before a0 Z = true := hw _ (List.mem_of_getElem? (i := 6) rfl)
theorem ow7 {Z : State} {a0 : Array Value} (hw : ∀ d ∈ tables_1, d.before a0 Z = true) : (Jvm.Cond.methodLink "com/example/motley/motley/CountTree" (1 : Nat) ({ cls := "java/lang/Object", name := "<init>", desc := "()V" } : Jvm.MethodName)).before a0 Z = true := hw _ (List.mem_of_getElem? (i := 7) rfl)
theorem ow8 {Z : State} {a0 : Array Value} (hw : ∀ d ∈ tables_1, d.before a0 Z = true) : (Jvm.Cond.instanceMethod ({ cls := "java/lang/Object", name := "<init>", desc := "()V" } : Jvm.MethodName)).before a0 Z = true := hw _ (List.mem_of_getElem? (i := 8) rfl)
theorem ow9 {Z : State} {a0 : Array Value} (hw : ∀ d ∈ tables_1, d.before a0 Z = true) : (Jvm.Cond.code ({ cls := "java/lang/Object", name := "<init>", desc := "()V" } : Jvm.MethodName) object_method_1_code (1 : Nat) (Option.none : Option Jvm.ClassFile.FieldType)).before a0 Z = true := hw _ (List.mem_of_getElem? (i := 9) rfl)
theorem ow10 {Z : State} {a0 : Array Value} (hw : ∀ d ∈ tables_1, d.before a0 Z = true) : (Jvm.Cond.arrayClass Jvm.ClassFile.FieldType.long).before a0 Z = true := hw _ (List.mem_of_getElem? (i := 10) rfl)
theorem ow11 {Z : State} {a0 : Array Value} (hw : ∀ d ∈ tables_1, d.before a0 Z = true) : (Jvm.Cond.fieldLink "com/example/motley/motley/CountTree" (7 : Nat) "com/example/motley/motley/CountTree" "tree" "[J").before a0 Z = true := hw _ (List.mem_of_getElem? (i := 11) rfl)
theorem ow12 {Z : State} {a0 : Array Value} (hw : ∀ d ∈ tables_1, d.before a0 Z = true) : (Jvm.Cond.lays "com/example/motley/motley/CountTree" "com/example/motley/motley/CountTree" "tree" "[J").before a0 Z = true := hw _ (List.mem_of_getElem? (i := 12) rfl)
theorem ow13 {Z : State} {a0 : Array Value} (hw : ∀ d ∈ tables_1, d.before a0 Z = true) : (Jvm.Cond.methodLink "com/example/motley/motley/CountTreeSumBeforePinLaw" (14 : Nat) ({ cls := "com/example/motley/motley/CountTree", name := "append", desc := "(J)V" } : Jvm.MethodName)).before a0 Z = true := hw _ (List.mem_of_getElem? (i := 13) rfl)
theorem ow14 {Z : State} {a0 : Array Value} (hw : ∀ d ∈ tables_1, d.before a0 Z = true) : (Jvm.Cond.declares ({ cls := "com/example/motley/motley/CountTree", name := "append", desc := "(J)V" } : Jvm.MethodName)).before a0 Z = true := hw _ (List.mem_of_getElem? (i := 14) rfl)
theorem ow15 {Z : State} {a0 : Array Value} (hw : ∀ d ∈ tables_1, d.before a0 Z = true) : (Jvm.Cond.instanceMethod ({ cls := "com/example/motley/motley/CountTree", name := "append", desc := "(J)V" } : Jvm.MethodName)).before a0 Z = true := hw _ (List.mem_of_getElem? (i := 15) rfl)
theorem ow16 {Z : State} {a0 : Array Value} (hw : ∀ d ∈ tables_1, d.before a0 Z = true) : (Jvm.Cond.selects "com/example/motley/motley/CountTree" ({ cls := "com/example/motley/motley/CountTree", name := "append", desc := "(J)V" } : Jvm.MethodName) ({ cls := "com/example/motley/motley/CountTree", name := "append", desc := "(J)V" } : Jvm.MethodName)).before a0 Z = true := hw _ (List.mem_of_getElem? (i := 16) rfl)
theorem ow17 {Z : State} {a0 : Array Value} (hw : ∀ d ∈ tables_1, d.before a0 Z = true) : (Jvm.Cond.code ({ cls := "com/example/motley/motley/CountTree", name := "append", desc := "(J)V" } : Jvm.MethodName) prog_14_method_4_code (3 : Nat) (Option.none : Option Jvm.ClassFile.FieldType)).before a0 Z = true := hw _ (List.mem_of_getElem? (i := 17) rfl)
theorem ow18 {Z : State} {a0 : Array Value} (hw : ∀ d ∈ tables_1, d.before a0 Z = true) : (Jvm.Cond.methodLink "com/example/motley/motley/CountTree" (37 : Nat) ({ cls := "com/example/motley/motley/CountTree", name := "reserve", desc := "(I)V" } : Jvm.MethodName)).before a0 Z = true := hw _ (List.mem_of_getElem? (i := 18) rfl)
theorem ow19 {Z : State} {a0 : Array Value} (hw : ∀ d ∈ tables_1, d.before a0 Z = true) : (Jvm.Cond.declares ({ cls := "com/example/motley/motley/CountTree", name := "reserve", desc := "(I)V" } : Jvm.MethodName)).before a0 Z = true := hw _ (List.mem_of_getElem? (i := 19) rfl)
theorem ow20 {Z : State} {a0 : Array Value} (hw : ∀ d ∈ tables_1, d.before a0 Z = true) : (Jvm.Cond.instanceMethod ({ cls := "com/example/motley/motley/CountTree", name := "reserve", desc := "(I)V" } : Jvm.MethodName)).before a0 Z = true := hw _ (List.mem_of_getElem? (i := 20) rfl)
theorem ow21 {Z : State} {a0 : Array Value} (hw : ∀ d ∈ tables_1, d.before a0 Z = true) : (Jvm.Cond.selects "com/example/motley/motley/CountTree" ({ cls := "com/example/motley/motley/CountTree", name := "reserve", desc := "(I)V" } : Jvm.MethodName) ({ cls := "com/example/motley/motley/CountTree", name := "reserve", desc := "(I)V" } : Jvm.MethodName)).before a0 Z = true := hw _ (List.mem_of_getElem? (i := 21) rfl)
theorem ow22 {Z : State} {a0 : Array Value} (hw : ∀ d ∈ tables_1, d.before a0 Z = true) : (Jvm.Cond.code ({ cls := "com/example/motley/motley/CountTree", name := "reserve", desc := "(I)V" } : Jvm.MethodName) prog_14_method_3_code (7 : Nat) (Option.none : Option Jvm.ClassFile.FieldType)).before a0 Z = true := hw _ (List.mem_of_getElem? (i := 22) rfl)
theorem ow23 {Z : State} {a0 : Array Value} (hw : ∀ d ∈ tables_1, d.before a0 Z = true) : (Jvm.Cond.fieldLink "com/example/motley/motley/CountTree" (13 : Nat) "com/example/motley/motley/CountTree" "size" "I").before a0 Z = true := hw _ (List.mem_of_getElem? (i := 23) rfl)
theorem ow24 {Z : State} {a0 : Array Value} (hw : ∀ d ∈ tables_1, d.before a0 Z = true) : (Jvm.Cond.lays "com/example/motley/motley/CountTree" "com/example/motley/motley/CountTree" "size" "I").before a0 Z = true := hw _ (List.mem_of_getElem? (i := 24) rfl)
theorem ow25 {Z : State} {a0 : Array Value} (hw : ∀ d ∈ tables_1, d.before a0 Z = true) : (Jvm.Cond.methodLink "com/example/motley/motley/CountTree" (17 : Nat) ({ cls := "java/lang/Math", name := "max", desc := "(II)I" } : Jvm.MethodName)).before a0 Z = true := hw _ (List.mem_of_getElem? (i := 25) rfl)
theorem ow26 {Z : State} {a0 : Array Value} (hw : ∀ d ∈ tables_1, d.before a0 Z = true) : (Jvm.Cond.static ({ cls := "java/lang/Math", name := "max", desc := "(II)I" } : Jvm.MethodName)).before a0 Z = true := hw _ (List.mem_of_getElem? (i := 26) rfl)
theorem ow27 {Z : State} {a0 : Array Value} (hw : ∀ d ∈ tables_1, d.before a0 Z = true) : (Jvm.Cond.initialized "java/lang/Math").before a0 Z = true := hw _ (List.mem_of_getElem? (i := 27) rfl)
theorem ow28 {Z : State} {a0 : Array Value} (hw : ∀ d ∈ tables_1, d.before a0 Z = true) : (Jvm.Cond.code ({ cls := "java/lang/Math", name := "max", desc := "(II)I" } : Jvm.MethodName) jdk_29_method_65_code (2 : Nat) (Option.some Jvm.ClassFile.FieldType.int)).before a0 Z = true := hw _ (List.mem_of_getElem? (i := 28) rfl)
theorem ow29 {Z : State} {a0 : Array Value} (hw : ∀ d ∈ tables_1, d.before a0 Z = true) : (Jvm.Cond.methodLink "com/example/motley/motley/CountTree" (23 : Nat) ({ cls := "java/util/Arrays", name := "copyOf", desc := "([JI)[J" } : Jvm.MethodName)).before a0 Z = true := hw _ (List.mem_of_getElem? (i := 29) rfl)
theorem ow30 {Z : State} {a0 : Array Value} (hw : ∀ d ∈ tables_1, d.before a0 Z = true) : (Jvm.Cond.static ({ cls := "java/util/Arrays", name := "copyOf", desc := "([JI)[J" } : Jvm.MethodName)).before a0 Z = true := hw _ (List.mem_of_getElem? (i := 30) rfl)
theorem ow31 {Z : State} {a0 : Array Value} (hw : ∀ d ∈ tables_1, d.before a0 Z = true) : (Jvm.Cond.initialized "java/util/Arrays").before a0 Z = true := hw _ (List.mem_of_getElem? (i := 31) rfl)
theorem ow32 {Z : State} {a0 : Array Value} (hw : ∀ d ∈ tables_1, d.before a0 Z = true) : (Jvm.Cond.code ({ cls := "java/util/Arrays", name := "copyOf", desc := "([JI)[J" } : Jvm.MethodName) jdk_65_method_124_code (3 : Nat) (Option.some (Jvm.ClassFile.FieldType.array Jvm.ClassFile.FieldType.long))).before a0 Z = true := hw _ (List.mem_of_getElem? (i := 32) rfl)
theorem ow33 {Z : State} {a0 : Array Value} (hw : ∀ d ∈ tables_1, d.before a0 Z = true) : (Jvm.Cond.methodLink "java/util/Arrays" (304 : Nat) ({ cls := "java/lang/Math", name := "min", desc := "(II)I" } : Jvm.MethodName)).before a0 Z = true := hw _ (List.mem_of_getElem? (i := 33) rfl)
theorem ow34 {Z : State} {a0 : Array Value} (hw : ∀ d ∈ tables_1, d.before a0 Z = true) : (Jvm.Cond.static ({ cls := "java/lang/Math", name := "min", desc := "(II)I" } : Jvm.MethodName)).before a0 Z = true := hw _ (List.mem_of_getElem? (i := 34) rfl)
theorem ow35 {Z : State} {a0 : Array Value} (hw : ∀ d ∈ tables_1, d.before a0 Z = true) : (Jvm.Cond.code ({ cls := "java/lang/Math", name := "min", desc := "(II)I" } : Jvm.MethodName) jdk_29_method_69_code (2 : Nat) (Option.some Jvm.ClassFile.FieldType.int)).before a0 Z = true := hw _ (List.mem_of_getElem? (i := 35) rfl)
theorem ow36 {Z : State} {a0 : Array Value} (hw : ∀ d ∈ tables_1, d.before a0 Z = true) : (Jvm.Cond.methodLink "java/util/Arrays" (150 : Nat) ({ cls := "java/lang/System", name := "arraycopy", desc := "(Ljava/lang/Object;ILjava/lang/Object;II)V" } : Jvm.MethodName)).before a0 Z = true := hw _ (List.mem_of_getElem? (i := 36) rfl)
theorem ow37 {Z : State} {a0 : Array Value} (hw : ∀ d ∈ tables_1, d.before a0 Z = true) : (Jvm.Cond.static ({ cls := "java/lang/System", name := "arraycopy", desc := "(Ljava/lang/Object;ILjava/lang/Object;II)V" } : Jvm.MethodName)).before a0 Z = true := hw _ (List.mem_of_getElem? (i := 37) rfl)
theorem ow38 {Z : State} {a0 : Array Value} (hw : ∀ d ∈ tables_1, d.before a0 Z = true) : (Jvm.Cond.initialized "java/lang/System").before a0 Z = true := hw _ (List.mem_of_getElem? (i := 38) rfl)
theorem ow39 {Z : State} {a0 : Array Value} (hw : ∀ d ∈ tables_1, d.before a0 Z = true) : (Jvm.Cond.native ({ cls := "java/lang/System", name := "arraycopy", desc := "(Ljava/lang/Object;ILjava/lang/Object;II)V" } : Jvm.MethodName)).before a0 Z = true := hw _ (List.mem_of_getElem? (i := 39) rfl)
theorem ow40 {Z : State} {a0 : Array Value} (hw : ∀ d ∈ tables_1, d.before a0 Z = true) : (Jvm.Cond.methodLink "com/example/motley/motley/CountTree" (41 : Nat) ({ cls := "com/example/motley/motley/CountTree", name := "add", desc := "(IJ)V" } : Jvm.MethodName)).before a0 Z = true := hw _ (List.mem_of_getElem? (i := 40) rfl)
theorem ow41 {Z : State} {a0 : Array Value} (hw : ∀ d ∈ tables_1, d.before a0 Z = true) : (Jvm.Cond.declares ({ cls := "com/example/motley/motley/CountTree", name := "add", desc := "(IJ)V" } : Jvm.MethodName)).before a0 Z = true := hw _ (List.mem_of_getElem? (i := 41) rfl)
theorem ow42 {Z : State} {a0 : Array Value} (hw : ∀ d ∈ tables_1, d.before a0 Z = true) : (Jvm.Cond.instanceMethod ({ cls := "com/example/motley/motley/CountTree", name := "add", desc := "(IJ)V" } : Jvm.MethodName)).before a0 Z = true := hw _ (List.mem_of_getElem? (i := 42) rfl)
theorem ow43 {Z : State} {a0 : Array Value} (hw : ∀ d ∈ tables_1, d.before a0 Z = true) : (Jvm.Cond.selects "com/example/motley/motley/CountTree" ({ cls := "com/example/motley/motley/CountTree", name := "add", desc := "(IJ)V" } : Jvm.MethodName) ({ cls := "com/example/motley/motley/CountTree", name := "add", desc := "(IJ)V" } : Jvm.MethodName)).before a0 Z = true := hw _ (List.mem_of_getElem? (i := 43) rfl)
theorem ow44 {Z : State} {a0 : Array Value} (hw : ∀ d ∈ tables_1, d.before a0 Z = true) : (Jvm.Cond.code ({ cls := "com/example/motley/motley/CountTree", name := "add", desc := "(IJ)V" } : Jvm.MethodName) prog_14_method_7_code (5 : Nat) (Option.none : Option Jvm.ClassFile.FieldType)).before a0 Z = true := hw _ (List.mem_of_getElem? (i := 44) rfl)
theorem ow45 {Z : State} {a0 : Array Value} (hw : ∀ d ∈ tables_1, d.before a0 Z = true) : (Jvm.Cond.fieldLink "com/example/motley/motley/CountTree" (29 : Nat) "com/example/motley/motley/CountTree" "total" "J").before a0 Z = true := hw _ (List.mem_of_getElem? (i := 45) rfl)
theorem ow46 {Z : State} {a0 : Array Value} (hw : ∀ d ∈ tables_1, d.before a0 Z = true) : (Jvm.Cond.lays "com/example/motley/motley/CountTree" "com/example/motley/motley/CountTree" "total" "J").before a0 Z = true := hw _ (List.mem_of_getElem? (i := 46) rfl)
theorem ow47 {Z : State} {a0 : Array Value} (hw : ∀ d ∈ tables_1, d.before a0 Z = true) : (Jvm.Cond.methodLink "com/example/motley/motley/CountTree" (33 : Nat) ({ cls := "com/example/motley/motley/CountTree", name := "sumBefore", desc := "(I)J" } : Jvm.MethodName)).before a0 Z = true := hw _ (List.mem_of_getElem? (i := 47) rfl)
theorem ow48 {Z : State} {a0 : Array Value} (hw : ∀ d ∈ tables_1, d.before a0 Z = true) : (Jvm.Cond.declares ({ cls := "com/example/motley/motley/CountTree", name := "sumBefore", desc := "(I)J" } : Jvm.MethodName)).before a0 Z = true := hw _ (List.mem_of_getElem? (i := 48) rfl)
theorem ow49 {Z : State} {a0 : Array Value} (hw : ∀ d ∈ tables_1, d.before a0 Z = true) : (Jvm.Cond.instanceMethod ({ cls := "com/example/motley/motley/CountTree", name := "sumBefore", desc := "(I)J" } : Jvm.MethodName)).before a0 Z = true := hw _ (List.mem_of_getElem? (i := 49) rfl)
theorem ow50 {Z : State} {a0 : Array Value} (hw : ∀ d ∈ tables_1, d.before a0 Z = true) : (Jvm.Cond.selects "com/example/motley/motley/CountTree" ({ cls := "com/example/motley/motley/CountTree", name := "sumBefore", desc := "(I)J" } : Jvm.MethodName) ({ cls := "com/example/motley/motley/CountTree", name := "sumBefore", desc := "(I)J" } : Jvm.MethodName)).before a0 Z = true := hw _ (List.mem_of_getElem? (i := 50) rfl)
theorem ow51 {Z : State} {a0 : Array Value} (hw : ∀ d ∈ tables_1, d.before a0 Z = true) : (Jvm.Cond.code ({ cls := "com/example/motley/motley/CountTree", name := "sumBefore", desc := "(I)J" } : Jvm.MethodName) prog_14_method_8_code (5 : Nat) (Option.some Jvm.ClassFile.FieldType.long)).before a0 Z = true := hw _ (List.mem_of_getElem? (i := 51) rfl)
theorem ow52 {Z : State} {a0 : Array Value} (hw : ∀ d ∈ tables_1, d.before a0 Z = true) : (Jvm.Cond.methodLink "com/example/motley/motley/CountTreeSumBeforePinLaw" (18 : Nat) ({ cls := "com/example/motley/motley/CountTree", name := "sumBefore", desc := "(I)J" } : Jvm.MethodName)).before a0 Z = true := hw _ (List.mem_of_getElem? (i := 52) rfl)
theorem own_p1 (q x : Int32) (hx : x = ((q &&& (7 : Int32)) % (1 : Int32))) : x = (0 : Int32) := by
  have h1 := c_and q (7 : Int32) (by decide)
  have h2 := (c_iremV (q &&& (7 : Int32)) (1 : Int32)).1 h1.1 (by decide)
  rw [← hx, show (1 : Int32).toInt = 1 from by decide] at h2
  simp only [← Int32.toInt_inj]
  simp only [show (0 : Int32).toInt = 0 from by decide, show (1 : Int32).toInt = 1 from by decide, show (2 : Int32).toInt = 2 from by decide, show (3 : Int32).toInt = 3 from by decide, show (4 : Int32).toInt = 4 from by decide, show (5 : Int32).toInt = 5 from by decide]
  omega
theorem own_p2 (q x : Int32) (hx : x = ((q &&& (7 : Int32)) % (2 : Int32))) : x = (0 : Int32) ∨ x = (1 : Int32) := by
  have h1 := c_and q (7 : Int32) (by decide)
  have h2 := (c_iremV (q &&& (7 : Int32)) (2 : Int32)).1 h1.1 (by decide)
  rw [← hx, show (2 : Int32).toInt = 2 from by decide] at h2
  simp only [← Int32.toInt_inj]
  simp only [show (0 : Int32).toInt = 0 from by decide, show (1 : Int32).toInt = 1 from by decide, show (2 : Int32).toInt = 2 from by decide, show (3 : Int32).toInt = 3 from by decide, show (4 : Int32).toInt = 4 from by decide, show (5 : Int32).toInt = 5 from by decide]
  omega
theorem own_p3 (q x : Int32) (hx : x = ((q &&& (7 : Int32)) % (3 : Int32))) : x = (0 : Int32) ∨ x = (1 : Int32) ∨ x = (2 : Int32) := by
  have h1 := c_and q (7 : Int32) (by decide)
  have h2 := (c_iremV (q &&& (7 : Int32)) (3 : Int32)).1 h1.1 (by decide)
  rw [← hx, show (3 : Int32).toInt = 3 from by decide] at h2
  simp only [← Int32.toInt_inj]
  simp only [show (0 : Int32).toInt = 0 from by decide, show (1 : Int32).toInt = 1 from by decide, show (2 : Int32).toInt = 2 from by decide, show (3 : Int32).toInt = 3 from by decide, show (4 : Int32).toInt = 4 from by decide, show (5 : Int32).toInt = 5 from by decide]
  omega
theorem own_p4 (q x : Int32) (hx : x = ((q &&& (7 : Int32)) % (4 : Int32))) : x = (0 : Int32) ∨ x = (1 : Int32) ∨ x = (2 : Int32) ∨ x = (3 : Int32) := by
  have h1 := c_and q (7 : Int32) (by decide)
  have h2 := (c_iremV (q &&& (7 : Int32)) (4 : Int32)).1 h1.1 (by decide)
  rw [← hx, show (4 : Int32).toInt = 4 from by decide] at h2
  simp only [← Int32.toInt_inj]
  simp only [show (0 : Int32).toInt = 0 from by decide, show (1 : Int32).toInt = 1 from by decide, show (2 : Int32).toInt = 2 from by decide, show (3 : Int32).toInt = 3 from by decide, show (4 : Int32).toInt = 4 from by decide, show (5 : Int32).toInt = 5 from by decide]
  omega
theorem own_p5 (q x : Int32) (hx : x = ((q &&& (7 : Int32)) % (5 : Int32))) : x = (0 : Int32) ∨ x = (1 : Int32) ∨ x = (2 : Int32) ∨ x = (3 : Int32) ∨ x = (4 : Int32) := by
  have h1 := c_and q (7 : Int32) (by decide)
  have h2 := (c_iremV (q &&& (7 : Int32)) (5 : Int32)).1 h1.1 (by decide)
  rw [← hx, show (5 : Int32).toInt = 5 from by decide] at h2
  simp only [← Int32.toInt_inj]
  simp only [show (0 : Int32).toInt = 0 from by decide, show (1 : Int32).toInt = 1 from by decide, show (2 : Int32).toInt = 2 from by decide, show (3 : Int32).toInt = 3 from by decide, show (4 : Int32).toInt = 4 from by decide, show (5 : Int32).toInt = 5 from by decide]
  omega
theorem own_p6 (q x : Int32) (hx : x = ((q &&& (7 : Int32)) % (6 : Int32))) : x = (0 : Int32) ∨ x = (1 : Int32) ∨ x = (2 : Int32) ∨ x = (3 : Int32) ∨ x = (4 : Int32) ∨ x = (5 : Int32) := by
  have h1 := c_and q (7 : Int32) (by decide)
  have h2 := (c_iremV (q &&& (7 : Int32)) (6 : Int32)).1 h1.1 (by decide)
  rw [← hx, show (6 : Int32).toInt = 6 from by decide] at h2
  simp only [← Int32.toInt_inj]
  simp only [show (0 : Int32).toInt = 0 from by decide, show (1 : Int32).toInt = 1 from by decide, show (2 : Int32).toInt = 2 from by decide, show (3 : Int32).toInt = 3 from by decide, show (4 : Int32).toInt = 4 from by decide, show (5 : Int32).toInt = 5 from by decide]
  omega
theorem d1_0 : decode prog_14_method_1_code 0 = .ok (.aload_n 0, 1) := by decide +kernel
theorem d1_1 : decode prog_14_method_1_code 1 = .ok (.invokespecial 1, 3) := by decide +kernel
theorem d1_4 : decode prog_14_method_1_code 4 = .ok (.aload_n 0, 1) := by decide +kernel
theorem d1_5 : decode prog_14_method_1_code 5 = .ok (.iconst 0, 1) := by decide +kernel
theorem d1_6 : decode prog_14_method_1_code 6 = .ok (.newarray .long, 2) := by decide +kernel
theorem d1_8 : decode prog_14_method_1_code 8 = .ok (.putfield 7, 3) := by decide +kernel
theorem d1_11 : decode prog_14_method_1_code 11 = .ok (.return_, 1) := by decide +kernel
theorem pn_1 : plainName "com/example/motley/motley/CountTree" = true := by first | (simp [plainName, overriddenIn]; done) | decide +kernel
theorem ef_rm1_1 (m : MethodId) (y0 : Addr) : entryFrame m #[(.ref y0)] 1 = mkF m 0 #[.val (.ref y0)] [] := by first | (simp [entryFrame, mkF, argsToLocals, Value.category]; done) | rfl
def Q_rm1_1 (Z : State) (a1_0 : Addr) (h0 : Heap) (n0 : Nat) (v : Option Value) (h : Heap) (L : List Loc) : Prop := ∃ bx1_0 : Addr, ∃ kx1_0 : ClassId, v = none ∧ Fr n0 L ∧ Keep h0 h [a1_0] ∧ h0.size ≤ bx1_0 ∧ Exa Z h a1_0 "com/example/motley/motley/CountTree" ∧ Fld Z h a1_0 "com/example/motley/motley/CountTree" "tree" "[J" (.ref bx1_0) ∧ Fld Z h a1_0 "com/example/motley/motley/CountTree" "size" "I" (.int (0 : Int32)) ∧ Fld Z h a1_0 "com/example/motley/motley/CountTree" "total" "J" (.long (0 : Int64)) ∧ Arv Z h bx1_0 kx1_0 .long (0 : Int32) [] (.long (0 : Int64))
set_option maxRecDepth 65536 in
set_option maxHeartbeats 40000000 in
theorem rm1_1 (l : Launch) (Z : State) (a0 : Array Value) (hw : ∀ d ∈ tables_1, d.before a0 Z = true) (ws : List Jvm.Cond) (a1_0 : Addr) (h0 : Heap) (n0 : Nat) (Z0 : n0 ≤ h0.size) (E_a1_0 : Exa Z h0 a1_0 "com/example/motley/motley/CountTree") (F_tree_a1_0 : Fld Z h0 a1_0 "com/example/motley/motley/CountTree" "tree" "[J" .null) (F_size_a1_0 : Fld Z h0 a1_0 "com/example/motley/motley/CountTree" "size" "I" (.int (0 : Int32))) (F_total_a1_0 : Fld Z h0 a1_0 "com/example/motley/motley/CountTree" "total" "J" (.long (0 : Int64))) (g_a1_0 : n0 ≤ a1_0) :
    MetFree l (⟨"com/example/motley/motley/CountTree", "<init>", "()V"⟩ : MethodName) (head1 (Jvm.Cond.code (⟨"com/example/motley/motley/CountTree", "<init>", "()V"⟩ : MethodName) prog_14_method_1_code 1 none :: ws) ({ frames := 1, cells := 1, slots := 0, locals := 12 } : Room)) (fun a U => a = #[(.ref a1_0)] ∧ Z.Warmed39 U.vm ∧ U.heap = h0) (fun _ _ _ _ _ => True) (fun _ U o U' => ∃ v L, o = .returned v ∧ Q_rm1_1 Z a1_0 h0 n0 v U'.heap L ∧ FrameEnd U o U' L ({ frames := 1, cells := 1, slots := 0, locals := 12 } : Room).cells ({ frames := 1, cells := 1, slots := 0, locals := 12 } : Room).slots) := by
  refine MetFree.of_bodySF (plainFor_of_name pn_1) hisR ?_
  intro p e s m args below meth c s₁ Bd hml0 hP hK
  obtain ⟨rfl, hZ, hh⟩ := hP
  have hx := Bd.exec
  have hby := Bd.bytes
  have hml : c.maxLocals = 1 := hml0
  have hown : s.vm.findClass "com/example/motley/motley/CountTree" = some m.cls := findClass_of_methodNamed Bd.named
  have hnm := (name_of_methodNamed Bd.named Bd.method).1
  have X0 : Stand p l e ({ frames := 1, cells := 1, slots := 0, locals := 12 } : Room) s m #[(.ref a1_0)] below meth c s₁ [] 0 0 := Stand.of_body Bd
  have e0 : s₁.heap = h0 := by rw [← hh, Bd.state]; rfl
  have N0 := Fr.nil n0
  have pre0 : ∀ t, Steps p.tables e below (s₁.setTop (mkF m 0 #[.val (.ref a1_0)] [])) t → Steps p.tables e below (s₁.setTop (entryFrame m #[(.ref a1_0)] 1)) t := fun t k => castTop (ef_rm1_1 m a1_0) k
  obtain ⟨T1, X1, e1, st1⟩ := initO X0 hx hZ hown (ow7 hw) (ow8 hw) (ow9 hw) e0 (g := (mkF m 1 #[.val (.ref a1_0)] [(.ref a1_0)])) rfl (by rw [hml]; rfl) rfl (hb hby d1_1) (by decide) (W := 0) (by show 2 * 0 + _ ≤ _; exact Nat.le_of_eq rfl) (by decide)
  obtain ⟨T2, h2, k2, X2, e2, E2, A2, st2⟩ := newP X1 hx hZ (aty := .long) (ow10 hw) e1 (g := (mkF m 6 #[.val (.ref a1_0)] [(.int (0 : Int32)), (.ref a1_0)])) rfl (hb hby d1_6) rfl (by decide) (cap := 0) (by decide) (by decide) (by decide) (by decide)
  obtain ⟨b2, g2⟩ : ∃ z, z = h0.size := ⟨_, rfl⟩
  rw [← g2] at A2 st2
  have ne_a1_0_b2 : a1_0 ≠ b2 := Nat.ne_of_lt (Nat.lt_of_lt_of_le E_a1_0.lt (Nat.le_of_eq g2.symm))
  have V_b2 : Arv Z h2 b2 k2 .long (0 : Int32) [] (.long (0 : Int64)) := Arv.new A2 (by decide)
  have g_b2 : n0 ≤ b2 := Nat.le_trans Z0 (Nat.le_of_eq g2.symm)
  have sz_b2 : h0.size ≤ b2 := Nat.le_trans (Nat.le_refl _) (Nat.le_of_eq g2.symm)
  have K2 : Keep h0 h2 [a1_0] := (Keep.refl h0 [a1_0]).ext E2
  have Z2 : n0 ≤ h2.size := Nat.le_trans Z0 K2.1
  have f3 := (E_a1_0.ext E2)
  have f4 := (F_tree_a1_0.ext E2)
  obtain ⟨T5, h5, X5, e5, W5, st5⟩ := putF X2 hx hZ hown (host := "") (Or.inl (ow11 hw)) Via.refl e2 f4 f3 (Or.inl (ow12 hw)) (ow2 hw) (ty := (.array .long)) (by decide) rfl rfl (g := (mkF m 8 #[.val (.ref a1_0)] [(.ref b2), (.ref a1_0)])) rfl rfl (hb hby d1_8)
  have F5 := f4.same W5
  have K5 : Keep h0 h5 [a1_0] := K2.wr W5 (Or.inl (List.mem_of_getElem? (i := 0) rfl))
  have Z5 : n0 ≤ h5.size := Nat.le_trans Z0 K5.1
  have N5 := Fr.snoc X5 N0 g_a1_0
  obtain ⟨fs, hr, hrun, hended, hW, hsame⟩ := X5.leave (v := none) (fun _ => rfl)
  refine ⟨_, _, pre0 _ ?_, hrun, hended, _, _, rfl, ?_, ⟨_, rfl⟩, hW, hsame.mono (by decide) (by decide)⟩
  · show Steps p.tables e below (s₁.setTop (mkF m 0 #[.val (.ref a1_0)] [])) _
    refine XS.aloadN X0.here hx rfl (hb hby d1_0) rfl rfl ?_
    refine st1 _ ?_
    refine XS.aloadN X1.here hx rfl (hb hby d1_4) rfl rfl ?_
    show Steps p.tables e below (T1.setTop (mkF m 5 #[.val (.ref a1_0)] [(.ref a1_0)])) _
    refine XS.iconst X1.here hx rfl (hb hby d1_5) ?_
    refine st2 _ ?_
    refine st5 _ ?_
    show Steps p.tables e below (T5.setTop (mkF m 11 #[.val (.ref a1_0)] [])) _
    exact X5.returnOut hx Bd.returns (hb hby d1_11) hr
  · have f6 := (f3.wr W5)
    have f7 := ((F_size_a1_0.ext E2).other W5 (Or.inr (slot_ne (Or.inl (ow24 hw)) (Or.inl (ow12 hw)) (by decide) (t := .int) (t' := (.array .long)) (by decide) (by decide))))
    have f8 := ((F_total_a1_0.ext E2).other W5 (Or.inr (slot_ne (Or.inl (ow46 hw)) (Or.inl (ow12 hw)) (by decide) (t := .long) (t' := (.array .long)) (by decide) (by decide))))
    have f9 := (V_b2.other W5 (Ne.symm ne_a1_0_b2))
    show Q_rm1_1 Z a1_0 h0 n0 _ T5.heap _
    rw [e5]
    exact ⟨b2, k2, rfl, N5, K5, sz_b2, f6, F5, f7, f8, f9⟩
theorem pd___V : parseMethodDescriptor "()V" = some ⟨[], none⟩ := by decide +kernel
theorem d9_0 : decode prog_14_method_8_code 0 = .ok (.lconst 0, 1) := by decide +kernel
theorem d9_1 : decode prog_14_method_8_code 1 = .ok (.lstore_n 2, 1) := by decide +kernel
theorem d9_2 : decode prog_14_method_8_code 2 = .ok (.iload_n 1, 1) := by decide +kernel
theorem d9_3 : decode prog_14_method_8_code 3 = .ok (.istore 4, 2) := by decide +kernel
theorem d9_5 : decode prog_14_method_8_code 5 = .ok (.iload 4, 2) := by decide +kernel
theorem d9_7 : decode prog_14_method_8_code 7 = .ok (.ifCond .le 29, 3) := by decide +kernel
theorem d9_36 : decode prog_14_method_8_code 36 = .ok (.lload_n 2, 1) := by decide +kernel
theorem d9_37 : decode prog_14_method_8_code 37 = .ok (.lreturn, 1) := by decide +kernel
theorem pn_9 : plainName "com/example/motley/motley/CountTree" = true := by first | (simp [plainName, overriddenIn]; done) | decide +kernel
theorem ef_rm9_1 (m : MethodId) (y0 : Addr) (y1 : Int32) : entryFrame m #[(.ref y0), (.int y1)] 5 = mkF m 0 #[.val (.ref y0), .val (.int y1), .unset, .unset, .unset] [] := by first | (simp [entryFrame, mkF, argsToLocals, Value.category]; done) | rfl
def Q_rm9_1 (Z : State) (a9_0 : Addr) (p9_1 : Int32) (w_tree_a9_0 : Addr) (kc_w_tree_a9_0 : ClassId) (h0 : Heap) (n0 : Nat) (v : Option Value) (h : Heap) (L : List Loc) : Prop := v = some (.long (0 : Int64)) ∧ Fr n0 L ∧ h = h0
set_option maxRecDepth 65536 in
set_option maxHeartbeats 40000000 in
theorem rm9_1 (l : Launch) (Z : State) (a0 : Array Value) (hw : ∀ d ∈ tables_1, d.before a0 Z = true) (ws : List Jvm.Cond) (a9_0 : Addr) (p9_1 : Int32) (w_tree_a9_0 : Addr) (kc_w_tree_a9_0 : ClassId) (h0 : Heap) (n0 : Nat) (Z0 : n0 ≤ h0.size) (hq : p9_1 = (0 : Int32)) (E_a9_0 : Exa Z h0 a9_0 "com/example/motley/motley/CountTree") (F_tree_a9_0 : Fld Z h0 a9_0 "com/example/motley/motley/CountTree" "tree" "[J" (.ref w_tree_a9_0)) (F_size_a9_0 : Fld Z h0 a9_0 "com/example/motley/motley/CountTree" "size" "I" (.int (0 : Int32))) (F_total_a9_0 : Fld Z h0 a9_0 "com/example/motley/motley/CountTree" "total" "J" (.long (0 : Int64))) (V_w_tree_a9_0 : Arv Z h0 w_tree_a9_0 kc_w_tree_a9_0 .long (0 : Int32) [] (.long (0 : Int64))) :
    MetFree l (⟨"com/example/motley/motley/CountTree", "sumBefore", "(I)J"⟩ : MethodName) (head1 (Jvm.Cond.code (⟨"com/example/motley/motley/CountTree", "sumBefore", "(I)J"⟩ : MethodName) prog_14_method_8_code 5 (some .long) :: ws) ({ frames := 0, cells := 0, slots := 0, locals := 0 } : Room)) (fun a U => a = #[(.ref a9_0), (.int p9_1)] ∧ Z.Warmed39 U.vm ∧ U.heap = h0) (fun _ _ _ _ _ => True) (fun _ U o U' => ∃ v L, o = .returned v ∧ Q_rm9_1 Z a9_0 p9_1 w_tree_a9_0 kc_w_tree_a9_0 h0 n0 v U'.heap L ∧ FrameEnd U o U' L ({ frames := 0, cells := 0, slots := 0, locals := 0 } : Room).cells ({ frames := 0, cells := 0, slots := 0, locals := 0 } : Room).slots) := by
  refine MetFree.of_bodySF (plainFor_of_name pn_9) hisR ?_
  intro p e s m args below meth c s₁ Bd hml0 hP hK
  obtain ⟨rfl, hZ, hh⟩ := hP
  have hx := Bd.exec
  have hby := Bd.bytes
  have hml : c.maxLocals = 5 := hml0
  have hown : s.vm.findClass "com/example/motley/motley/CountTree" = some m.cls := findClass_of_methodNamed Bd.named
  have hnm := (name_of_methodNamed Bd.named Bd.method).1
  have X0 : Stand p l e ({ frames := 0, cells := 0, slots := 0, locals := 0 } : Room) s m #[(.ref a9_0), (.int p9_1)] below meth c s₁ [] 0 0 := Stand.of_body Bd
  have e0 : s₁.heap = h0 := by rw [← hh, Bd.state]; rfl
  have N0 := Fr.nil n0
  have pre0 : ∀ t, Steps p.tables e below (s₁.setTop (mkF m 0 #[.val (.ref a9_0), .val (.int p9_1), .unset, .unset, .unset] [])) t → Steps p.tables e below (s₁.setTop (entryFrame m #[(.ref a9_0), (.int p9_1)] 5)) t := fun t k => castTop (ef_rm9_1 m a9_0 p9_1) k
  have hl1 : p9_1 = (0 : Int32) := hq
  obtain ⟨fs, hr, hrun, hended, hW, hsame⟩ := X0.leave (v := some (.long (0 : Int64))) (fun h => by rw [Bd.returns] at h; cases h)
  refine ⟨_, _, pre0 _ ?_, hrun, hended, _, _, rfl, ?_, ⟨_, rfl⟩, hW, hsame.mono (by decide) (by decide)⟩
  · show Steps p.tables e below (s₁.setTop (mkF m 0 #[.val (.ref a9_0), .val (.int p9_1), .unset, .unset, .unset] [])) _
    rw [hl1]
    show Steps p.tables e below (s₁.setTop (mkF m 0 #[.val (.ref a9_0), .val (.int (0 : Int32)), .unset, .unset, .unset] [])) _
    refine XS.lconst X0.here hx rfl (hb hby d9_0) ?_
    refine XS.lstoreN X0.here hx rfl (hb hby d9_1) rfl (l' := #[.val (.ref a9_0), .val (.int (0 : Int32)), .val (.long (0 : Int64)), .second, .unset]) rfl ?_
    refine XS.iloadN X0.here hx rfl (hb hby d9_2) rfl ?_
    show Steps p.tables e below (s₁.setTop (mkF m 3 #[.val (.ref a9_0), .val (.int (0 : Int32)), .val (.long (0 : Int64)), .second, .unset] [(.int (0 : Int32))])) _
    refine XS.istore X0.here hx rfl (hb hby d9_3) rfl (l' := #[.val (.ref a9_0), .val (.int (0 : Int32)), .val (.long (0 : Int64)), .second, .val (.int (0 : Int32))]) rfl ?_
    refine XS.iload X0.here hx rfl (hb hby d9_5) rfl ?_
    show Steps p.tables e below (s₁.setTop (mkF m 7 #[.val (.ref a9_0), .val (.int (0 : Int32)), .val (.long (0 : Int64)), .second, .val (.int (0 : Int32))] [(.int (0 : Int32))])) _
    refine XS.ifYes X0.here hx rfl (pc0 := 7) (pc' := 36) rfl (hb hby d9_7) rfl ((if0 _ _).trans (flt (by decide : ¬ ((0 : Int32) < (0 : Int32)))).2.2.2) (by decide) (by decide) ?_
    refine XS.lloadN X0.here hx rfl (hb hby d9_36) rfl ?_
    show Steps p.tables e below (s₁.setTop (mkF m 37 #[.val (.ref a9_0), .val (.int (0 : Int32)), .val (.long (0 : Int64)), .second, .val (.int (0 : Int32))] [(.long (0 : Int64))])) _
    exact own_retJ X0 hx Bd.returns (hb hby d9_37) hr
  · show Q_rm9_1 Z a9_0 p9_1 w_tree_a9_0 kc_w_tree_a9_0 h0 n0 _ s₁.heap _
    rw [e0]
    exact ⟨rfl, N0, rfl⟩
theorem pd__I_J : parseMethodDescriptor "(I)J" = some ⟨[.int], some .long⟩ := by decide +kernel
theorem own_fin1 (q0_0 : Int64) (q0_1 : Int64) (q0_2 : Int64) (q0_3 : Int64) (q0_4 : Int64) (p0_5 : Int32) (x2 : Int64) (hx2 : x2 = (q0_0 &&& (9223372036854775807 : Int64))) (x4 : Int64) (hx4 : x4 = (q0_1 &&& (9223372036854775807 : Int64))) (x6 : Int64) (hx6 : x6 = (q0_2 &&& (9223372036854775807 : Int64))) (x8 : Int64) (hx8 : x8 = (q0_3 &&& (9223372036854775807 : Int64))) (x10 : Int64) (hx10 : x10 = (q0_4 &&& (9223372036854775807 : Int64))) (x12 : Int32) (hx12 : x12 = ((p0_5 &&& (7 : Int32)) % (6 : Int32))) (x22 : Int32) (hx22 : x22 = ((((p0_5.toUInt32 >>> ((3 : Int32) &&& 31).toUInt32).toInt32) &&& (7 : Int32)) % (1 : Int32))) (v31 : Int64) (hv31 : v31 = (if (0 : Int32) < x22 then ((0 : Int64) + x2) else (0 : Int64))) (v37 : Int64) (hv37 : v37 = (if (1 : Int32) < x22 then (v31 + x4) else v31)) (v43 : Int64) (hv43 : v43 = (if (2 : Int32) < x22 then (v37 + x6) else v37)) (v49 : Int64) (hv49 : v49 = (if (3 : Int32) < x22 then (v43 + x8) else v43)) (v55 : Int64) (hv55 : v55 = (if (4 : Int32) < x22 then (v49 + x10) else v49)) (v61 : Int32) (hv61 : v61 = (if (0 : Int64) = v55 then (1 : Int32) else (0 : Int32))) (hc15 : x12 = (0 : Int32)) : v61 = (1 : Int32) := by
  have hp := own_p1 ((p0_5.toUInt32 >>> ((3 : Int32) &&& 31).toUInt32).toInt32) x22 hx22
  clear hx22
  have e : (0 : Int64) = v55 := by
    clear hv61
    simp only [hv31, hv37, hv43, hv49, hv55]
    rcases hp with rfl <;> first | (simp +decide only [↓reduceIte] <;> first | rfl | grind) | (simp +decide <;> grind) | grind
  rw [hv61, if_pos e]
theorem d5_0 : decode jdk_29_method_65_code 0 = .ok (.iload_n 0, 1) := by decide +kernel
theorem d5_1 : decode jdk_29_method_65_code 1 = .ok (.iload_n 1, 1) := by decide +kernel
theorem d5_2 : decode jdk_29_method_65_code 2 = .ok (.if_icmp .lt 7, 3) := by decide +kernel
theorem d5_5 : decode jdk_29_method_65_code 5 = .ok (.iload_n 0, 1) := by decide +kernel
theorem d5_6 : decode jdk_29_method_65_code 6 = .ok (.goto 4, 3) := by decide +kernel
theorem d5_10 : decode jdk_29_method_65_code 10 = .ok (.ireturn, 1) := by decide +kernel
theorem ef_rm5_1 (m : MethodId)  : entryFrame m #[(.int (1 : Int32)), (.int (0 : Int32))] 2 = mkF m 0 #[.val (.int (1 : Int32)), .val (.int (0 : Int32))] [] := by first | (simp [entryFrame, mkF, argsToLocals, Value.category]; done) | rfl
def Q_rm5_1 (Z : State)  (h0 : Heap) (n0 : Nat) (v : Option Value) (h : Heap) (L : List Loc) : Prop := v = some (.int (1 : Int32)) ∧ Fr n0 L ∧ h = h0
set_option maxRecDepth 65536 in
set_option maxHeartbeats 40000000 in
theorem rm5_1 (l : Launch) (Z : State) (a0 : Array Value) (hw : ∀ d ∈ tables_1, d.before a0 Z = true) (ws : List Jvm.Cond)  (h0 : Heap) (n0 : Nat) (Z0 : n0 ≤ h0.size) :
    MetFree l (⟨"java/lang/Math", "max", "(II)I"⟩ : MethodName) (head1 (Jvm.Cond.code (⟨"java/lang/Math", "max", "(II)I"⟩ : MethodName) jdk_29_method_65_code 2 (some .int) :: ws) ({ frames := 0, cells := 0, slots := 0, locals := 0 } : Room)) (fun a U => a = #[(.int (1 : Int32)), (.int (0 : Int32))] ∧ Z.Warmed39 U.vm ∧ U.heap = h0) (fun _ _ _ _ _ => True) (fun _ U o U' => ∃ v L, o = .returned v ∧ Q_rm5_1 Z  h0 n0 v U'.heap L ∧ FrameEnd U o U' L ({ frames := 0, cells := 0, slots := 0, locals := 0 } : Room).cells ({ frames := 0, cells := 0, slots := 0, locals := 0 } : Room).slots) := by
  refine MetFree.of_bodySF (Jvm.Free.JP.mathPlain rfl (by decide +kernel)) hisR ?_
  intro p e s m args below meth c s₁ Bd hml0 hP hK
  obtain ⟨rfl, hZ, hh⟩ := hP
  have hx := Bd.exec
  have hby := Bd.bytes
  have hml : c.maxLocals = 2 := hml0
  have hown : s.vm.findClass "java/lang/Math" = some m.cls := findClass_of_methodNamed Bd.named
  have hnm := (name_of_methodNamed Bd.named Bd.method).1
  have X0 : Stand p l e ({ frames := 0, cells := 0, slots := 0, locals := 0 } : Room) s m #[(.int (1 : Int32)), (.int (0 : Int32))] below meth c s₁ [] 0 0 := Stand.of_body Bd
  have e0 : s₁.heap = h0 := by rw [← hh, Bd.state]; rfl
  have N0 := Fr.nil n0
  have pre0 : ∀ t, Steps p.tables e below (s₁.setTop (mkF m 0 #[.val (.int (1 : Int32)), .val (.int (0 : Int32))] [])) t → Steps p.tables e below (s₁.setTop (entryFrame m #[(.int (1 : Int32)), (.int (0 : Int32))] 2)) t := fun t k => castTop (ef_rm5_1 m ) k
  obtain ⟨fs, hr, hrun, hended, hW, hsame⟩ := X0.leave (v := some (.int (1 : Int32))) (fun h => by rw [Bd.returns] at h; cases h)
  refine ⟨_, _, pre0 _ ?_, hrun, hended, _, _, rfl, ?_, ⟨_, rfl⟩, hW, hsame.mono (by decide) (by decide)⟩
  · show Steps p.tables e below (s₁.setTop (mkF m 0 #[.val (.int (1 : Int32)), .val (.int (0 : Int32))] [])) _
    refine XS.iloadN X0.here hx rfl (hb hby d5_0) rfl ?_
    refine XS.iloadN X0.here hx rfl (hb hby d5_1) rfl ?_
    show Steps p.tables e below (s₁.setTop (mkF m 2 #[.val (.int (1 : Int32)), .val (.int (0 : Int32))] [(.int (0 : Int32)), (.int (1 : Int32))])) _
    refine XS.icmpNo X0.here hx rfl (hb hby d5_2) rfl (flt (by decide : ¬ ((1 : Int32) < (0 : Int32)))).1 ?_
    refine XS.iloadN X0.here hx rfl (hb hby d5_5) rfl ?_
    refine XS.goto X0.here hx rfl (pc0 := 6) (pc' := 10) rfl (hb hby d5_6) (by decide) (by decide) ?_
    show Steps p.tables e below (s₁.setTop (mkF m 10 #[.val (.int (1 : Int32)), .val (.int (0 : Int32))] [(.int (1 : Int32))])) _
    exact retI X0 hx Bd.returns (hb hby d5_10) hr
  · show Q_rm5_1 Z  h0 n0 _ s₁.heap _
    rw [e0]
    exact ⟨rfl, N0, rfl⟩
theorem pd__II_I : parseMethodDescriptor "(II)I" = some ⟨[.int, .int], some .int⟩ := by decide +kernel
theorem d7_0 : decode jdk_29_method_69_code 0 = .ok (.iload_n 0, 1) := by decide +kernel
theorem d7_1 : decode jdk_29_method_69_code 1 = .ok (.iload_n 1, 1) := by decide +kernel
theorem d7_2 : decode jdk_29_method_69_code 2 = .ok (.if_icmp .gt 7, 3) := by decide +kernel
theorem d7_5 : decode jdk_29_method_69_code 5 = .ok (.iload_n 0, 1) := by decide +kernel
theorem d7_6 : decode jdk_29_method_69_code 6 = .ok (.goto 4, 3) := by decide +kernel
theorem d7_10 : decode jdk_29_method_69_code 10 = .ok (.ireturn, 1) := by decide +kernel
theorem ef_rm7_1 (m : MethodId)  : entryFrame m #[(.int (0 : Int32)), (.int (1 : Int32))] 2 = mkF m 0 #[.val (.int (0 : Int32)), .val (.int (1 : Int32))] [] := by first | (simp [entryFrame, mkF, argsToLocals, Value.category]; done) | rfl
def Q_rm7_1 (Z : State)  (h0 : Heap) (n0 : Nat) (v : Option Value) (h : Heap) (L : List Loc) : Prop := v = some (.int (0 : Int32)) ∧ Fr n0 L ∧ h = h0
set_option maxRecDepth 65536 in
set_option maxHeartbeats 40000000 in
theorem rm7_1 (l : Launch) (Z : State) (a0 : Array Value) (hw : ∀ d ∈ tables_1, d.before a0 Z = true) (ws : List Jvm.Cond)  (h0 : Heap) (n0 : Nat) (Z0 : n0 ≤ h0.size) :
    MetFree l (⟨"java/lang/Math", "min", "(II)I"⟩ : MethodName) (head1 (Jvm.Cond.code (⟨"java/lang/Math", "min", "(II)I"⟩ : MethodName) jdk_29_method_69_code 2 (some .int) :: ws) ({ frames := 0, cells := 0, slots := 0, locals := 0 } : Room)) (fun a U => a = #[(.int (0 : Int32)), (.int (1 : Int32))] ∧ Z.Warmed39 U.vm ∧ U.heap = h0) (fun _ _ _ _ _ => True) (fun _ U o U' => ∃ v L, o = .returned v ∧ Q_rm7_1 Z  h0 n0 v U'.heap L ∧ FrameEnd U o U' L ({ frames := 0, cells := 0, slots := 0, locals := 0 } : Room).cells ({ frames := 0, cells := 0, slots := 0, locals := 0 } : Room).slots) := by
  refine MetFree.of_bodySF (Jvm.Free.JP.mathPlain rfl (by decide +kernel)) hisR ?_
  intro p e s m args below meth c s₁ Bd hml0 hP hK
  obtain ⟨rfl, hZ, hh⟩ := hP
  have hx := Bd.exec
  have hby := Bd.bytes
  have hml : c.maxLocals = 2 := hml0
  have hown : s.vm.findClass "java/lang/Math" = some m.cls := findClass_of_methodNamed Bd.named
  have hnm := (name_of_methodNamed Bd.named Bd.method).1
  have X0 : Stand p l e ({ frames := 0, cells := 0, slots := 0, locals := 0 } : Room) s m #[(.int (0 : Int32)), (.int (1 : Int32))] below meth c s₁ [] 0 0 := Stand.of_body Bd
  have e0 : s₁.heap = h0 := by rw [← hh, Bd.state]; rfl
  have N0 := Fr.nil n0
  have pre0 : ∀ t, Steps p.tables e below (s₁.setTop (mkF m 0 #[.val (.int (0 : Int32)), .val (.int (1 : Int32))] [])) t → Steps p.tables e below (s₁.setTop (entryFrame m #[(.int (0 : Int32)), (.int (1 : Int32))] 2)) t := fun t k => castTop (ef_rm7_1 m ) k
  obtain ⟨fs, hr, hrun, hended, hW, hsame⟩ := X0.leave (v := some (.int (0 : Int32))) (fun h => by rw [Bd.returns] at h; cases h)
  refine ⟨_, _, pre0 _ ?_, hrun, hended, _, _, rfl, ?_, ⟨_, rfl⟩, hW, hsame.mono (by decide) (by decide)⟩
  · show Steps p.tables e below (s₁.setTop (mkF m 0 #[.val (.int (0 : Int32)), .val (.int (1 : Int32))] [])) _
    refine XS.iloadN X0.here hx rfl (hb hby d7_0) rfl ?_
    refine XS.iloadN X0.here hx rfl (hb hby d7_1) rfl ?_
    show Steps p.tables e below (s₁.setTop (mkF m 2 #[.val (.int (0 : Int32)), .val (.int (1 : Int32))] [(.int (1 : Int32)), (.int (0 : Int32))])) _
    refine XS.icmpNo X0.here hx rfl (hb hby d7_2) rfl (flt (by decide : ¬ ((1 : Int32) < (0 : Int32)))).2.2.1 ?_
    refine XS.iloadN X0.here hx rfl (hb hby d7_5) rfl ?_
    refine XS.goto X0.here hx rfl (pc0 := 6) (pc' := 10) rfl (hb hby d7_6) (by decide) (by decide) ?_
    show Steps p.tables e below (s₁.setTop (mkF m 10 #[.val (.int (0 : Int32)), .val (.int (1 : Int32))] [(.int (0 : Int32))])) _
    exact retI X0 hx Bd.returns (hb hby d7_10) hr
  · show Q_rm7_1 Z  h0 n0 _ s₁.heap _
    rw [e0]
    exact ⟨rfl, N0, rfl⟩
theorem d6_0 : decode jdk_65_method_124_code 0 = .ok (.iload_n 1, 1) := by decide +kernel
theorem d6_1 : decode jdk_65_method_124_code 1 = .ok (.aload_n 0, 1) := by decide +kernel
theorem d6_2 : decode jdk_65_method_124_code 2 = .ok (.arraylength, 1) := by decide +kernel
theorem d6_3 : decode jdk_65_method_124_code 3 = .ok (.if_icmp .ne 11, 3) := by decide +kernel
theorem d6_14 : decode jdk_65_method_124_code 14 = .ok (.iload_n 1, 1) := by decide +kernel
theorem d6_15 : decode jdk_65_method_124_code 15 = .ok (.newarray .long, 2) := by decide +kernel
theorem d6_17 : decode jdk_65_method_124_code 17 = .ok (.astore_n 2, 1) := by decide +kernel
theorem d6_18 : decode jdk_65_method_124_code 18 = .ok (.aload_n 0, 1) := by decide +kernel
theorem d6_19 : decode jdk_65_method_124_code 19 = .ok (.iconst 0, 1) := by decide +kernel
theorem d6_20 : decode jdk_65_method_124_code 20 = .ok (.aload_n 2, 1) := by decide +kernel
theorem d6_21 : decode jdk_65_method_124_code 21 = .ok (.iconst 0, 1) := by decide +kernel
theorem d6_22 : decode jdk_65_method_124_code 22 = .ok (.aload_n 0, 1) := by decide +kernel
theorem d6_23 : decode jdk_65_method_124_code 23 = .ok (.arraylength, 1) := by decide +kernel
theorem d6_24 : decode jdk_65_method_124_code 24 = .ok (.iload_n 1, 1) := by decide +kernel
theorem d6_25 : decode jdk_65_method_124_code 25 = .ok (.invokestatic 304, 3) := by decide +kernel
theorem d6_28 : decode jdk_65_method_124_code 28 = .ok (.invokestatic 150, 3) := by decide +kernel
theorem d6_31 : decode jdk_65_method_124_code 31 = .ok (.aload_n 2, 1) := by decide +kernel
theorem d6_32 : decode jdk_65_method_124_code 32 = .ok (.areturn, 1) := by decide +kernel
theorem pn_6 : plainName "java/util/Arrays" = true := by first | (simp [plainName, overriddenIn]; done) | decide +kernel
theorem ef_rm6_1 (m : MethodId) (y0 : Addr) : entryFrame m #[(.ref y0), (.int (1 : Int32))] 3 = mkF m 0 #[.val (.ref y0), .val (.int (1 : Int32)), .unset] [] := by first | (simp [entryFrame, mkF, argsToLocals, Value.category]; done) | rfl
def Q_rm6_1 (Z : State) (a6_0 : Addr) (kc_a6_0 : ClassId) (h0 : Heap) (n0 : Nat) (v : Option Value) (h : Heap) (L : List Loc) : Prop := ∃ bx6_0 : Addr, ∃ kx6_0 : ClassId, v = some (.ref bx6_0) ∧ Fr n0 L ∧ Keep h0 h [] ∧ h0.size ≤ bx6_0 ∧ Arv Z h bx6_0 kx6_0 .long (1 : Int32) [(.long (0 : Int64))] (.long (0 : Int64))
set_option maxRecDepth 65536 in
set_option maxHeartbeats 40000000 in
theorem rm6_1 (l : Launch) (Z : State) (a0 : Array Value) (hw : ∀ d ∈ tables_1, d.before a0 Z = true) (ws : List Jvm.Cond) (a6_0 : Addr) (kc_a6_0 : ClassId) (h0 : Heap) (n0 : Nat) (Z0 : n0 ≤ h0.size) (V_a6_0 : Arv Z h0 a6_0 kc_a6_0 .long (0 : Int32) [] (.long (0 : Int64))) :
    MetFree l (⟨"java/util/Arrays", "copyOf", "([JI)[J"⟩ : MethodName) (head1 (Jvm.Cond.code (⟨"java/util/Arrays", "copyOf", "([JI)[J"⟩ : MethodName) jdk_65_method_124_code 3 (some (.array .long)) :: ws) ({ frames := 1, cells := 1, slots := 1, locals := 18 } : Room)) (fun a U => a = #[(.ref a6_0), (.int (1 : Int32))] ∧ Z.Warmed39 U.vm ∧ U.heap = h0) (fun _ _ _ _ _ => True) (fun _ U o U' => ∃ v L, o = .returned v ∧ Q_rm6_1 Z a6_0 kc_a6_0 h0 n0 v U'.heap L ∧ FrameEnd U o U' L ({ frames := 1, cells := 1, slots := 1, locals := 18 } : Room).cells ({ frames := 1, cells := 1, slots := 1, locals := 18 } : Room).slots) := by
  refine MetFree.of_bodySF (plainFor_of_name pn_6) hisR ?_
  intro p e s m args below meth c s₁ Bd hml0 hP hK
  obtain ⟨rfl, hZ, hh⟩ := hP
  have hx := Bd.exec
  have hby := Bd.bytes
  have hml : c.maxLocals = 3 := hml0
  have hown : s.vm.findClass "java/util/Arrays" = some m.cls := findClass_of_methodNamed Bd.named
  have hnm := (name_of_methodNamed Bd.named Bd.method).1
  have X0 : Stand p l e ({ frames := 1, cells := 1, slots := 1, locals := 18 } : Room) s m #[(.ref a6_0), (.int (1 : Int32))] below meth c s₁ [] 0 0 := Stand.of_body Bd
  have e0 : s₁.heap = h0 := by rw [← hh, Bd.state]; rfl
  have N0 := Fr.nil n0
  have pre0 : ∀ t, Steps p.tables e below (s₁.setTop (mkF m 0 #[.val (.ref a6_0), .val (.int (1 : Int32)), .unset] [])) t → Steps p.tables e below (s₁.setTop (entryFrame m #[(.ref a6_0), (.int (1 : Int32))] 3)) t := fun t k => castTop (ef_rm6_1 m a6_0) k
  obtain ⟨cl1, Ar1, qk1, Sz1, Nz1, Hh1, Gf1⟩ := id V_a6_0
  obtain ⟨T2, h2, k2, X2, e2, E2, A2, st2⟩ := newP X0 hx hZ (aty := .long) (ow10 hw) e0 (g := (mkF m 15 #[.val (.ref a6_0), .val (.int (1 : Int32)), .unset] [(.int (1 : Int32))])) rfl (hb hby d6_15) rfl (by decide) (cap := 1) (by decide) (by decide) (by decide) (by decide)
  obtain ⟨b2, g2⟩ : ∃ z, z = h0.size := ⟨_, rfl⟩
  rw [← g2] at A2 st2
  have ne_a6_0_b2 : a6_0 ≠ b2 := Nat.ne_of_lt (Nat.lt_of_lt_of_le V_a6_0.lt (Nat.le_of_eq g2.symm))
  have V_b2 : Arv Z h2 b2 k2 .long (1 : Int32) [(.long (0 : Int64))] (.long (0 : Int64)) := (Arv.new A2 (by decide)).pad (pad_rep [] (.long (0 : Int64)) 1)
  have g_b2 : n0 ≤ b2 := Nat.le_trans Z0 (Nat.le_of_eq g2.symm)
  have sz_b2 : h0.size ≤ b2 := Nat.le_trans (Nat.le_refl _) (Nat.le_of_eq g2.symm)
  have K2 : Keep h0 h2 [] := (Keep.refl h0 []).ext E2
  have Z2 : n0 ≤ h2.size := Nat.le_trans Z0 K2.1
  have f3 := (V_a6_0.ext E2)
  obtain ⟨cl4, Ar4, qk4, Sz4, Nz4, Hh4, Gf4⟩ := id f3
  obtain ⟨_, _, ⟨T5, L5, k5, n5⟩, -, X5, ⟨Lc5, hQ5, l5, y5, z5⟩, st5⟩ := Jvm.LawKit.callS X2 hx (y := (⟨"java/lang/Math", "min", "(II)I"⟩ : MethodName)) hown (mvT hZ (ow33 hw)) (mvT hZ (ow34 hw)) (mvT hZ (ow27 hw)) (mvT hZ (ow35 hw)) (by decide) (backOf (W := 4) (rm7_1 l Z a0 hw []  h2 n0 Z2 ) hZ (ow35 hw) (ow27 hw) (by decide) (by decide)) (g := (mkF m 25 #[.val (.ref a6_0), .val (.int (1 : Int32)), .val (.ref b2)] [(.int (1 : Int32)), (.int (0 : Int32)), (.int (0 : Int32)), (.ref b2), (.int (0 : Int32)), (.ref a6_0)])) rfl (by rw [hml]; rfl) (argsL := [(.int (0 : Int32)), (.int (1 : Int32))]) (rest := [(.int (0 : Int32)), (.ref b2), (.int (0 : Int32)), (.ref a6_0)]) (lenOf pd__II_I rfl) rfl (by show 2 * 0 + _ ≤ _; exact Nat.le_of_eq rfl) (hb hby d6_25) (fun _ _ => ⟨rfl, e2, (by decide : 1 + 0 ≤ _), (by decide : 1 + 0 ≤ _)⟩)
  dsimp only [Pt.U, Pt.locs, Pt.cells, Pt.slots] at X5 l5 y5 z5 st5 hQ5
  subst l5 y5 z5
  obtain ⟨rfl, Nq5, e5⟩ := hQ5
  have N5 := Fr.app N0 Nq5
  obtain ⟨T6, h6, Lo6, X6, e6, N6, Kc6, V6, st6⟩ := cpA X5 hx hZ hown (ow36 hw) (ow39 hw) (ow37 hw) (ow38 hw) e5 f3 V_b2 (Or.inl ⟨rfl, rfl⟩) (sp := (0 : Int32)) (dp := (0 : Int32)) (nn := (0 : Int32)) (us := []) (by decide) (by decide) (by decide) (by decide) (by decide) rfl (Nat.le_of_ble_eq_true rfl) N5 g_b2 (g := (mkF m 28 #[.val (.ref a6_0), .val (.int (1 : Int32)), .val (.ref b2)] [(.int (0 : Int32)), (.int (0 : Int32)), (.ref b2), (.int (0 : Int32)), (.ref a6_0)])) rfl (by rw [hml]; rfl) rfl (hb hby d6_28) (by decide) (W := 0) (by show 2 * 0 + _ ≤ _; exact Nat.le_of_eq rfl) (by decide)
  have V6 : Arv Z h6 b2 k2 .long (1 : Int32) [(.long (0 : Int64))] (.long (0 : Int64)) := V6
  have K6 : Keep h0 h6 [] := Keep.trans K2 Kc6 (allS (P := fun x => x ∈ ([] : List Addr) ∨ h0.size ≤ x) (Or.inr sz_b2) all0)
  have Z6 : n0 ≤ h6.size := Nat.le_trans Z0 K6.1
  obtain ⟨fs, hr, hrun, hended, hW, hsame⟩ := X6.leave (v := some (.ref b2)) (fun h => by rw [Bd.returns] at h; cases h)
  refine ⟨_, _, pre0 _ ?_, hrun, hended, _, _, rfl, ?_, ⟨_, rfl⟩, hW, hsame.mono (by decide) (by decide)⟩
  · show Steps p.tables e below (s₁.setTop (mkF m 0 #[.val (.ref a6_0), .val (.int (1 : Int32)), .unset] [])) _
    refine XS.iloadN X0.here hx rfl (hb hby d6_0) rfl ?_
    refine XS.aloadN X0.here hx rfl (hb hby d6_1) rfl rfl ?_
    show Steps p.tables e below (s₁.setTop (mkF m 2 #[.val (.ref a6_0), .val (.int (1 : Int32)), .unset] [(.ref a6_0), (.int (1 : Int32))])) _
    refine X0.arraylength hx (cell := cl1) (by rw [e0]; exact Ar1.1) (State.isArrayOf_alike hZ.alike Ar1.2.1) (g := (mkF m 2 #[.val (.ref a6_0), .val (.int (1 : Int32)), .unset] [(.ref a6_0), (.int (1 : Int32))])) rfl (rest := [(.int (1 : Int32))]) rfl (hb hby d6_2) _ ?_
    rw [len_of Sz1 Nz1]
    show Steps p.tables e below (s₁.setTop (mkF m 3 #[.val (.ref a6_0), .val (.int (1 : Int32)), .unset] [(.int (0 : Int32)), (.int (1 : Int32))])) _
    refine XS.icmpYes X0.here hx rfl (pc0 := 3) (pc' := 14) rfl (hb hby d6_3) rfl (feq (by decide : ¬ ((1 : Int32) = (0 : Int32)))).2 (by decide) (by decide) ?_
    refine XS.iloadN X0.here hx rfl (hb hby d6_14) rfl ?_
    refine st2 _ ?_
    show Steps p.tables e below (T2.setTop (mkF m 17 #[.val (.ref a6_0), .val (.int (1 : Int32)), .unset] [(.ref b2)])) _
    refine XS.astoreN X2.here hx rfl (hb hby d6_17) rfl rfl (l' := #[.val (.ref a6_0), .val (.int (1 : Int32)), .val (.ref b2)]) rfl ?_
    refine XS.aloadN X2.here hx rfl (hb hby d6_18) rfl rfl ?_
    refine XS.iconst X2.here hx rfl (hb hby d6_19) ?_
    show Steps p.tables e below (T2.setTop (mkF m 20 #[.val (.ref a6_0), .val (.int (1 : Int32)), .val (.ref b2)] [(.int (0 : Int32)), (.ref a6_0)])) _
    refine XS.aloadN X2.here hx rfl (hb hby d6_20) rfl rfl ?_
    refine XS.iconst X2.here hx rfl (hb hby d6_21) ?_
    refine XS.aloadN X2.here hx rfl (hb hby d6_22) rfl rfl ?_
    show Steps p.tables e below (T2.setTop (mkF m 23 #[.val (.ref a6_0), .val (.int (1 : Int32)), .val (.ref b2)] [(.ref a6_0), (.int (0 : Int32)), (.ref b2), (.int (0 : Int32)), (.ref a6_0)])) _
    refine X2.arraylength hx (cell := cl4) (by rw [e2]; exact Ar4.1) (State.isArrayOf_alike hZ.alike Ar4.2.1) (g := (mkF m 23 #[.val (.ref a6_0), .val (.int (1 : Int32)), .val (.ref b2)] [(.ref a6_0), (.int (0 : Int32)), (.ref b2), (.int (0 : Int32)), (.ref a6_0)])) rfl (rest := [(.int (0 : Int32)), (.ref b2), (.int (0 : Int32)), (.ref a6_0)]) rfl (hb hby d6_23) _ ?_
    rw [len_of Sz4 Nz4]
    refine XS.iloadN X2.here hx rfl (hb hby d6_24) rfl ?_
    show Steps p.tables e below (T2.setTop (mkF m 25 #[.val (.ref a6_0), .val (.int (1 : Int32)), .val (.ref b2)] [(.int (1 : Int32)), (.int (0 : Int32)), (.int (0 : Int32)), (.ref b2), (.int (0 : Int32)), (.ref a6_0)])) _
    refine st5 _ ?_
    refine st6 _ ?_
    refine XS.aloadN X6.here hx rfl (hb hby d6_31) rfl rfl ?_
    show Steps p.tables e below (T6.setTop (mkF m 32 #[.val (.ref a6_0), .val (.int (1 : Int32)), .val (.ref b2)] [(.ref b2)])) _
    jvm_step X6.here [X6.here.top, hx, (hb hby d6_32), X6.method', Bd.returns, Value.isRef, FieldType.isReference]
    first | (intro acts; rw [hr _ acts rfl rfl rfl]) | rw [hr _ _ rfl rfl rfl]
    exact Steps.refl _
  · show Q_rm6_1 Z a6_0 kc_a6_0 h0 n0 _ T6.heap _
    rw [e6]
    exact ⟨b2, k2, rfl, N6, K6, sz_b2, V6⟩
theorem pd___JI__J : parseMethodDescriptor "([JI)[J" = some ⟨[(.array .long), .int], some (.array .long)⟩ := by decide +kernel
theorem d4_0 : decode prog_14_method_3_code 0 = .ok (.aload_n 0, 1) := by decide +kernel
theorem d4_1 : decode prog_14_method_3_code 1 = .ok (.getfield 13, 3) := by decide +kernel
theorem d4_4 : decode prog_14_method_3_code 4 = .ok (.iload_n 1, 1) := by decide +kernel
theorem d4_5 : decode prog_14_method_3_code 5 = .ok (.iadd, 1) := by decide +kernel
theorem d4_6 : decode prog_14_method_3_code 6 = .ok (.istore_n 2, 1) := by decide +kernel
theorem d4_7 : decode prog_14_method_3_code 7 = .ok (.iload_n 2, 1) := by decide +kernel
theorem d4_8 : decode prog_14_method_3_code 8 = .ok (.aload_n 0, 1) := by decide +kernel
theorem d4_9 : decode prog_14_method_3_code 9 = .ok (.getfield 7, 3) := by decide +kernel
theorem d4_12 : decode prog_14_method_3_code 12 = .ok (.arraylength, 1) := by decide +kernel
theorem d4_13 : decode prog_14_method_3_code 13 = .ok (.if_icmp .gt 4, 3) := by decide +kernel
theorem d4_17 : decode prog_14_method_3_code 17 = .ok (.iload_n 2, 1) := by decide +kernel
theorem d4_18 : decode prog_14_method_3_code 18 = .ok (.iconst 2, 1) := by decide +kernel
theorem d4_19 : decode prog_14_method_3_code 19 = .ok (.aload_n 0, 1) := by decide +kernel
theorem d4_20 : decode prog_14_method_3_code 20 = .ok (.getfield 7, 3) := by decide +kernel
theorem d4_23 : decode prog_14_method_3_code 23 = .ok (.arraylength, 1) := by decide +kernel
theorem d4_24 : decode prog_14_method_3_code 24 = .ok (.imul, 1) := by decide +kernel
theorem d4_25 : decode prog_14_method_3_code 25 = .ok (.invokestatic 17, 3) := by decide +kernel
theorem d4_28 : decode prog_14_method_3_code 28 = .ok (.istore_n 3, 1) := by decide +kernel
theorem d4_29 : decode prog_14_method_3_code 29 = .ok (.aload_n 0, 1) := by decide +kernel
theorem d4_30 : decode prog_14_method_3_code 30 = .ok (.getfield 7, 3) := by decide +kernel
theorem d4_33 : decode prog_14_method_3_code 33 = .ok (.iload_n 3, 1) := by decide +kernel
theorem d4_34 : decode prog_14_method_3_code 34 = .ok (.invokestatic 23, 3) := by decide +kernel
theorem d4_37 : decode prog_14_method_3_code 37 = .ok (.astore 4, 2) := by decide +kernel
theorem d4_39 : decode prog_14_method_3_code 39 = .ok (.aload_n 0, 1) := by decide +kernel
theorem d4_40 : decode prog_14_method_3_code 40 = .ok (.getfield 7, 3) := by decide +kernel
theorem d4_43 : decode prog_14_method_3_code 43 = .ok (.arraylength, 1) := by decide +kernel
theorem d4_44 : decode prog_14_method_3_code 44 = .ok (.iconst 1, 1) := by decide +kernel
theorem d4_45 : decode prog_14_method_3_code 45 = .ok (.iadd, 1) := by decide +kernel
theorem d4_46 : decode prog_14_method_3_code 46 = .ok (.istore 5, 2) := by decide +kernel
theorem d4_48 : decode prog_14_method_3_code 48 = .ok (.iload 5, 2) := by decide +kernel
theorem d4_50 : decode prog_14_method_3_code 50 = .ok (.iload_n 3, 1) := by decide +kernel
theorem d4_51 : decode prog_14_method_3_code 51 = .ok (.if_icmp .gt 47, 3) := by decide +kernel
theorem d4_54 : decode prog_14_method_3_code 54 = .ok (.iload 5, 2) := by decide +kernel
theorem d4_56 : decode prog_14_method_3_code 56 = .ok (.iload 5, 2) := by decide +kernel
theorem d4_58 : decode prog_14_method_3_code 58 = .ok (.iload 5, 2) := by decide +kernel
theorem d4_60 : decode prog_14_method_3_code 60 = .ok (.ineg, 1) := by decide +kernel
theorem d4_61 : decode prog_14_method_3_code 61 = .ok (.iand, 1) := by decide +kernel
theorem d4_62 : decode prog_14_method_3_code 62 = .ok (.isub, 1) := by decide +kernel
theorem d4_63 : decode prog_14_method_3_code 63 = .ok (.istore 6, 2) := by decide +kernel
theorem d4_65 : decode prog_14_method_3_code 65 = .ok (.iload 6, 2) := by decide +kernel
theorem d4_67 : decode prog_14_method_3_code 67 = .ok (.aload_n 0, 1) := by decide +kernel
theorem d4_68 : decode prog_14_method_3_code 68 = .ok (.getfield 13, 3) := by decide +kernel
theorem d4_71 : decode prog_14_method_3_code 71 = .ok (.if_icmp .ge 21, 3) := by decide +kernel
theorem d4_92 : decode prog_14_method_3_code 92 = .ok (.iinc 5 1, 3) := by decide +kernel
theorem d4_95 : decode prog_14_method_3_code 95 = .ok (.goto (-47), 3) := by decide +kernel
theorem d4_98 : decode prog_14_method_3_code 98 = .ok (.aload_n 0, 1) := by decide +kernel
theorem d4_99 : decode prog_14_method_3_code 99 = .ok (.aload 4, 2) := by decide +kernel
theorem d4_101 : decode prog_14_method_3_code 101 = .ok (.putfield 7, 3) := by decide +kernel
theorem d4_104 : decode prog_14_method_3_code 104 = .ok (.return_, 1) := by decide +kernel
theorem pn_4 : plainName "com/example/motley/motley/CountTree" = true := by first | (simp [plainName, overriddenIn]; done) | decide +kernel
theorem ef_rm4_1 (m : MethodId) (y0 : Addr) : entryFrame m #[(.ref y0), (.int (1 : Int32))] 7 = mkF m 0 #[.val (.ref y0), .val (.int (1 : Int32)), .unset, .unset, .unset, .unset, .unset] [] := by first | (simp [entryFrame, mkF, argsToLocals, Value.category]; done) | rfl
def Q_rm4_1 (Z : State) (a4_0 : Addr) (w_tree_a4_0 : Addr) (kc_w_tree_a4_0 : ClassId) (h0 : Heap) (n0 : Nat) (v : Option Value) (h : Heap) (L : List Loc) : Prop := ∃ bx4_0 : Addr, ∃ kx4_0 : ClassId, v = none ∧ Fr n0 L ∧ Keep h0 h [a4_0] ∧ h0.size ≤ bx4_0 ∧ Exa Z h a4_0 "com/example/motley/motley/CountTree" ∧ Fld Z h a4_0 "com/example/motley/motley/CountTree" "tree" "[J" (.ref bx4_0) ∧ Fld Z h a4_0 "com/example/motley/motley/CountTree" "size" "I" (.int (0 : Int32)) ∧ Fld Z h a4_0 "com/example/motley/motley/CountTree" "total" "J" (.long (0 : Int64)) ∧ Arv Z h bx4_0 kx4_0 .long (1 : Int32) [(.long (0 : Int64))] (.long (0 : Int64))
set_option maxRecDepth 65536 in
set_option maxHeartbeats 40000000 in
theorem rm4_1 (l : Launch) (Z : State) (a0 : Array Value) (hw : ∀ d ∈ tables_1, d.before a0 Z = true) (ws : List Jvm.Cond) (a4_0 : Addr) (w_tree_a4_0 : Addr) (kc_w_tree_a4_0 : ClassId) (h0 : Heap) (n0 : Nat) (Z0 : n0 ≤ h0.size) (E_a4_0 : Exa Z h0 a4_0 "com/example/motley/motley/CountTree") (F_tree_a4_0 : Fld Z h0 a4_0 "com/example/motley/motley/CountTree" "tree" "[J" (.ref w_tree_a4_0)) (F_size_a4_0 : Fld Z h0 a4_0 "com/example/motley/motley/CountTree" "size" "I" (.int (0 : Int32))) (F_total_a4_0 : Fld Z h0 a4_0 "com/example/motley/motley/CountTree" "total" "J" (.long (0 : Int64))) (V_w_tree_a4_0 : Arv Z h0 w_tree_a4_0 kc_w_tree_a4_0 .long (0 : Int32) [] (.long (0 : Int64))) (g_a4_0 : n0 ≤ a4_0) :
    MetFree l (⟨"com/example/motley/motley/CountTree", "reserve", "(I)V"⟩ : MethodName) (head1 (Jvm.Cond.code (⟨"com/example/motley/motley/CountTree", "reserve", "(I)V"⟩ : MethodName) prog_14_method_3_code 7 none :: ws) ({ frames := 2, cells := 1, slots := 1, locals := 32 } : Room)) (fun a U => a = #[(.ref a4_0), (.int (1 : Int32))] ∧ Z.Warmed39 U.vm ∧ U.heap = h0) (fun _ _ _ _ _ => True) (fun _ U o U' => ∃ v L, o = .returned v ∧ Q_rm4_1 Z a4_0 w_tree_a4_0 kc_w_tree_a4_0 h0 n0 v U'.heap L ∧ FrameEnd U o U' L ({ frames := 2, cells := 1, slots := 1, locals := 32 } : Room).cells ({ frames := 2, cells := 1, slots := 1, locals := 32 } : Room).slots) := by
  refine MetFree.of_bodySF (plainFor_of_name pn_4) hisR ?_
  intro p e s m args below meth c s₁ Bd hml0 hP hK
  obtain ⟨rfl, hZ, hh⟩ := hP
  have hx := Bd.exec
  have hby := Bd.bytes
  have hml : c.maxLocals = 7 := hml0
  have hown : s.vm.findClass "com/example/motley/motley/CountTree" = some m.cls := findClass_of_methodNamed Bd.named
  have hnm := (name_of_methodNamed Bd.named Bd.method).1
  have X0 : Stand p l e ({ frames := 2, cells := 1, slots := 1, locals := 32 } : Room) s m #[(.ref a4_0), (.int (1 : Int32))] below meth c s₁ [] 0 0 := Stand.of_body Bd
  have e0 : s₁.heap = h0 := by rw [← hh, Bd.state]; rfl
  have N0 := Fr.nil n0
  have pre0 : ∀ t, Steps p.tables e below (s₁.setTop (mkF m 0 #[.val (.ref a4_0), .val (.int (1 : Int32)), .unset, .unset, .unset, .unset, .unset] [])) t → Steps p.tables e below (s₁.setTop (entryFrame m #[(.ref a4_0), (.int (1 : Int32))] 7)) t := fun t k => castTop (ef_rm4_1 m a4_0) k
  obtain ⟨T1, X1, e1, st1⟩ := getF X0 hx hZ hown (host := "") (Or.inl (ow23 hw)) Via.refl e0 F_size_a4_0 (g := (mkF m 1 #[.val (.ref a4_0), .val (.int (1 : Int32)), .unset, .unset, .unset, .unset, .unset] [(.ref a4_0)])) rfl rfl (hb hby d4_1)
  obtain ⟨T2, X2, e2, st2⟩ := getF X1 hx hZ hown (host := "") (Or.inl (ow11 hw)) Via.refl e1 F_tree_a4_0 (g := (mkF m 9 #[.val (.ref a4_0), .val (.int (1 : Int32)), .val (.int (1 : Int32)), .unset, .unset, .unset, .unset] [(.ref a4_0), (.int (1 : Int32))])) rfl rfl (hb hby d4_9)
  obtain ⟨cl3, Ar3, qk3, Sz3, Nz3, Hh3, Gf3⟩ := id V_w_tree_a4_0
  obtain ⟨T4, X4, e4, st4⟩ := getF X2 hx hZ hown (host := "") (Or.inl (ow11 hw)) Via.refl e2 F_tree_a4_0 (g := (mkF m 20 #[.val (.ref a4_0), .val (.int (1 : Int32)), .val (.int (1 : Int32)), .unset, .unset, .unset, .unset] [(.ref a4_0), (.int (2 : Int32)), (.int (1 : Int32))])) rfl rfl (hb hby d4_20)
  obtain ⟨cl5, Ar5, qk5, Sz5, Nz5, Hh5, Gf5⟩ := id V_w_tree_a4_0
  obtain ⟨_, _, ⟨T6, L6, k6, n6⟩, -, X6, ⟨Lc6, hQ6, l6, y6, z6⟩, st6⟩ := Jvm.LawKit.callS X4 hx (y := (⟨"java/lang/Math", "max", "(II)I"⟩ : MethodName)) hown (mvT hZ (ow25 hw)) (mvT hZ (ow26 hw)) (mvT hZ (ow27 hw)) (mvT hZ (ow28 hw)) (by decide) (backOf (W := 0) (rm5_1 l Z a0 hw []  h0 n0 Z0 ) hZ (ow28 hw) (ow27 hw) (by decide) (by decide)) (g := (mkF m 25 #[.val (.ref a4_0), .val (.int (1 : Int32)), .val (.int (1 : Int32)), .unset, .unset, .unset, .unset] [(.int (0 : Int32)), (.int (1 : Int32))])) rfl (by rw [hml]; rfl) (argsL := [(.int (1 : Int32)), (.int (0 : Int32))]) (rest := []) (lenOf pd__II_I rfl) rfl (by show 2 * 0 + _ ≤ _; exact Nat.le_of_eq rfl) (hb hby d4_25) (fun _ _ => ⟨rfl, e4, (by decide : 0 + 0 ≤ _), (by decide : 0 + 0 ≤ _)⟩)
  dsimp only [Pt.U, Pt.locs, Pt.cells, Pt.slots] at X6 l6 y6 z6 st6 hQ6
  subst l6 y6 z6
  obtain ⟨rfl, Nq6, e6⟩ := hQ6
  have N6 := Fr.app N0 Nq6
  obtain ⟨T7, X7, e7, st7⟩ := getF X6 hx hZ hown (host := "") (Or.inl (ow11 hw)) Via.refl e6 F_tree_a4_0 (g := (mkF m 30 #[.val (.ref a4_0), .val (.int (1 : Int32)), .val (.int (1 : Int32)), .val (.int (1 : Int32)), .unset, .unset, .unset] [(.ref a4_0)])) rfl rfl (hb hby d4_30)
  obtain ⟨_, _, ⟨T8, L8, k8, n8⟩, -, X8, ⟨Lc8, hQ8, l8, y8, z8⟩, st8⟩ := Jvm.LawKit.callS X7 hx (y := (⟨"java/util/Arrays", "copyOf", "([JI)[J"⟩ : MethodName)) hown (mvT hZ (ow29 hw)) (mvT hZ (ow30 hw)) (mvT hZ (ow31 hw)) (mvT hZ (ow32 hw)) (by decide) (backOf (W := 0) (rm6_1 l Z a0 hw [] w_tree_a4_0 kc_w_tree_a4_0 h0 n0 Z0 V_w_tree_a4_0) hZ (ow32 hw) (ow31 hw) (by decide) (by decide)) (g := (mkF m 34 #[.val (.ref a4_0), .val (.int (1 : Int32)), .val (.int (1 : Int32)), .val (.int (1 : Int32)), .unset, .unset, .unset] [(.int (1 : Int32)), (.ref w_tree_a4_0)])) rfl (by rw [hml]; rfl) (argsL := [(.ref w_tree_a4_0), (.int (1 : Int32))]) (rest := []) (lenOf pd___JI__J rfl) rfl (by show 2 * 0 + _ ≤ _; exact Nat.le_of_eq rfl) (hb hby d4_34) (fun _ _ => ⟨rfl, e7, (by decide : 0 + 1 ≤ _), (by decide : 0 + 1 ≤ _)⟩)
  dsimp only [Pt.U, Pt.locs, Pt.cells, Pt.slots] at X8 l8 y8 z8 st8 hQ8
  subst l8 y8 z8
  obtain ⟨bx6_0_8, kx6_0_8, rfl, Nq8, Kc8, P8_0, P8_1⟩ := hQ8
  have K8 : Keep h0 T8.heap [a4_0] := Keep.trans (Keep.refl h0 [a4_0]) Kc8 all0
  have Z8 : n0 ≤ T8.heap.size := Nat.le_trans Z0 K8.1
  have g_bx6_0_8 : n0 ≤ bx6_0_8 := Nat.le_trans Z0 P8_0
  have sz_bx6_0_8 : h0.size ≤ bx6_0_8 := Nat.le_trans (Nat.le_refl _) P8_0
  have ne_a4_0_bx6_0_8 : a4_0 ≠ bx6_0_8 := Nat.ne_of_lt (Nat.lt_of_lt_of_le E_a4_0.lt P8_0)
  have ne_w_tree_a4_0_bx6_0_8 : w_tree_a4_0 ≠ bx6_0_8 := Nat.ne_of_lt (Nat.lt_of_lt_of_le V_w_tree_a4_0.lt P8_0)
  have N8 := Fr.app N6 Nq8
  have f9 := (F_tree_a4_0.keep Kc8 nin0)
  obtain ⟨T10, X10, e10, st10⟩ := getF X8 hx hZ hown (host := "") (Or.inl (ow11 hw)) Via.refl rfl f9 (g := (mkF m 40 #[.val (.ref a4_0), .val (.int (1 : Int32)), .val (.int (1 : Int32)), .val (.int (1 : Int32)), .val (.ref bx6_0_8), .unset, .unset] [(.ref a4_0)])) rfl rfl (hb hby d4_40)
  have f11 := (V_w_tree_a4_0.keep Kc8 nin0)
  obtain ⟨cl12, Ar12, qk12, Sz12, Nz12, Hh12, Gf12⟩ := id f11
  have f13 := (F_size_a4_0.keep Kc8 nin0)
  obtain ⟨T14, X14, e14, st14⟩ := getF X10 hx hZ hown (host := "") (Or.inl (ow23 hw)) Via.refl e10 f13 (g := (mkF m 68 #[.val (.ref a4_0), .val (.int (1 : Int32)), .val (.int (1 : Int32)), .val (.int (1 : Int32)), .val (.ref bx6_0_8), .val (.int (1 : Int32)), .val (.int (0 : Int32))] [(.ref a4_0), (.int (0 : Int32))])) rfl rfl (hb hby d4_68)
  have f15 := (E_a4_0.keep Kc8)
  obtain ⟨T16, h16, X16, e16, W16, st16⟩ := putF X14 hx hZ hown (host := "") (Or.inl (ow11 hw)) Via.refl e14 f9 f15 (Or.inl (ow12 hw)) (ow2 hw) (ty := (.array .long)) (by decide) rfl rfl (g := (mkF m 101 #[.val (.ref a4_0), .val (.int (1 : Int32)), .val (.int (1 : Int32)), .val (.int (1 : Int32)), .val (.ref bx6_0_8), .val (.int (2 : Int32)), .val (.int (0 : Int32))] [(.ref bx6_0_8), (.ref a4_0)])) rfl rfl (hb hby d4_101)
  have F16 := f9.same W16
  have K16 : Keep h0 h16 [a4_0] := K8.wr W16 (Or.inl (List.mem_of_getElem? (i := 0) rfl))
  have Z16 : n0 ≤ h16.size := Nat.le_trans Z0 K16.1
  have N16 := Fr.snoc X16 N8 g_a4_0
  obtain ⟨fs, hr, hrun, hended, hW, hsame⟩ := X16.leave (v := none) (fun _ => rfl)
  refine ⟨_, _, pre0 _ ?_, hrun, hended, _, _, rfl, ?_, ⟨_, rfl⟩, hW, hsame.mono (by decide) (by decide)⟩
  · show Steps p.tables e below (s₁.setTop (mkF m 0 #[.val (.ref a4_0), .val (.int (1 : Int32)), .unset, .unset, .unset, .unset, .unset] [])) _
    refine XS.aloadN X0.here hx rfl (hb hby d4_0) rfl rfl ?_
    refine st1 _ ?_
    refine XS.iloadN X1.here hx rfl (hb hby d4_4) rfl ?_
    show Steps p.tables e below (T1.setTop (mkF m 5 #[.val (.ref a4_0), .val (.int (1 : Int32)), .unset, .unset, .unset, .unset, .unset] [(.int (1 : Int32)), (.int (0 : Int32))])) _
    refine XS.iadd X1.here hx rfl (hb hby d4_5) rfl ?_
    refine XS.istoreN X1.here hx rfl (hb hby d4_6) rfl (l' := #[.val (.ref a4_0), .val (.int (1 : Int32)), .val (.int (1 : Int32)), .unset, .unset, .unset, .unset]) rfl ?_
    refine XS.iloadN X1.here hx rfl (hb hby d4_7) rfl ?_
    show Steps p.tables e below (T1.setTop (mkF m 8 #[.val (.ref a4_0), .val (.int (1 : Int32)), .val (.int (1 : Int32)), .unset, .unset, .unset, .unset] [(.int (1 : Int32))])) _
    refine XS.aloadN X1.here hx rfl (hb hby d4_8) rfl rfl ?_
    refine st2 _ ?_
    show Steps p.tables e below (T2.setTop (mkF m 12 #[.val (.ref a4_0), .val (.int (1 : Int32)), .val (.int (1 : Int32)), .unset, .unset, .unset, .unset] [(.ref w_tree_a4_0), (.int (1 : Int32))])) _
    refine X2.arraylength hx (cell := cl3) (by rw [e2]; exact Ar3.1) (State.isArrayOf_alike hZ.alike Ar3.2.1) (g := (mkF m 12 #[.val (.ref a4_0), .val (.int (1 : Int32)), .val (.int (1 : Int32)), .unset, .unset, .unset, .unset] [(.ref w_tree_a4_0), (.int (1 : Int32))])) rfl (rest := [(.int (1 : Int32))]) rfl (hb hby d4_12) _ ?_
    rw [len_of Sz3 Nz3]
    show Steps p.tables e below (T2.setTop (mkF m 13 #[.val (.ref a4_0), .val (.int (1 : Int32)), .val (.int (1 : Int32)), .unset, .unset, .unset, .unset] [(.int (0 : Int32)), (.int (1 : Int32))])) _
    refine XS.icmpYes X2.here hx rfl (pc0 := 13) (pc' := 17) rfl (hb hby d4_13) rfl (tlt (by decide : (0 : Int32) < (1 : Int32))).2.2.1 (by decide) (by decide) ?_
    refine XS.iloadN X2.here hx rfl (hb hby d4_17) rfl ?_
    refine XS.iconst X2.here hx rfl (hb hby d4_18) ?_
    show Steps p.tables e below (T2.setTop (mkF m 19 #[.val (.ref a4_0), .val (.int (1 : Int32)), .val (.int (1 : Int32)), .unset, .unset, .unset, .unset] [(.int (2 : Int32)), (.int (1 : Int32))])) _
    refine XS.aloadN X2.here hx rfl (hb hby d4_19) rfl rfl ?_
    refine st4 _ ?_
    show Steps p.tables e below (T4.setTop (mkF m 23 #[.val (.ref a4_0), .val (.int (1 : Int32)), .val (.int (1 : Int32)), .unset, .unset, .unset, .unset] [(.ref w_tree_a4_0), (.int (2 : Int32)), (.int (1 : Int32))])) _
    refine X4.arraylength hx (cell := cl5) (by rw [e4]; exact Ar5.1) (State.isArrayOf_alike hZ.alike Ar5.2.1) (g := (mkF m 23 #[.val (.ref a4_0), .val (.int (1 : Int32)), .val (.int (1 : Int32)), .unset, .unset, .unset, .unset] [(.ref w_tree_a4_0), (.int (2 : Int32)), (.int (1 : Int32))])) rfl (rest := [(.int (2 : Int32)), (.int (1 : Int32))]) rfl (hb hby d4_23) _ ?_
    rw [len_of Sz5 Nz5]
    refine XS.imul X4.here hx rfl (hb hby d4_24) rfl ?_
    show Steps p.tables e below (T4.setTop (mkF m 25 #[.val (.ref a4_0), .val (.int (1 : Int32)), .val (.int (1 : Int32)), .unset, .unset, .unset, .unset] [(.int (0 : Int32)), (.int (1 : Int32))])) _
    refine st6 _ ?_
    refine XS.istoreN X6.here hx rfl (hb hby d4_28) rfl (l' := #[.val (.ref a4_0), .val (.int (1 : Int32)), .val (.int (1 : Int32)), .val (.int (1 : Int32)), .unset, .unset, .unset]) rfl ?_
    refine XS.aloadN X6.here hx rfl (hb hby d4_29) rfl rfl ?_
    show Steps p.tables e below (T6.setTop (mkF m 30 #[.val (.ref a4_0), .val (.int (1 : Int32)), .val (.int (1 : Int32)), .val (.int (1 : Int32)), .unset, .unset, .unset] [(.ref a4_0)])) _
    refine st7 _ ?_
    refine XS.iloadN X7.here hx rfl (hb hby d4_33) rfl ?_
    refine st8 _ ?_
    show Steps p.tables e below (T8.setTop (mkF m 37 #[.val (.ref a4_0), .val (.int (1 : Int32)), .val (.int (1 : Int32)), .val (.int (1 : Int32)), .unset, .unset, .unset] [(.ref bx6_0_8)])) _
    refine XS.astore X8.here hx rfl (hb hby d4_37) rfl rfl (l' := #[.val (.ref a4_0), .val (.int (1 : Int32)), .val (.int (1 : Int32)), .val (.int (1 : Int32)), .val (.ref bx6_0_8), .unset, .unset]) rfl ?_
    refine XS.aloadN X8.here hx rfl (hb hby d4_39) rfl rfl ?_
    refine st10 _ ?_
    show Steps p.tables e below (T10.setTop (mkF m 43 #[.val (.ref a4_0), .val (.int (1 : Int32)), .val (.int (1 : Int32)), .val (.int (1 : Int32)), .val (.ref bx6_0_8), .unset, .unset] [(.ref w_tree_a4_0)])) _
    refine X10.arraylength hx (cell := cl12) (by rw [e10]; exact Ar12.1) (State.isArrayOf_alike hZ.alike Ar12.2.1) (g := (mkF m 43 #[.val (.ref a4_0), .val (.int (1 : Int32)), .val (.int (1 : Int32)), .val (.int (1 : Int32)), .val (.ref bx6_0_8), .unset, .unset] [(.ref w_tree_a4_0)])) rfl (rest := []) rfl (hb hby d4_43) _ ?_
    rw [len_of Sz12 Nz12]
    refine XS.iconst X10.here hx rfl (hb hby d4_44) ?_
    show Steps p.tables e below (T10.setTop (mkF m 45 #[.val (.ref a4_0), .val (.int (1 : Int32)), .val (.int (1 : Int32)), .val (.int (1 : Int32)), .val (.ref bx6_0_8), .unset, .unset] [(.int (1 : Int32)), (.int (0 : Int32))])) _
    refine XS.iadd X10.here hx rfl (hb hby d4_45) rfl ?_
    refine XS.istore X10.here hx rfl (hb hby d4_46) rfl (l' := #[.val (.ref a4_0), .val (.int (1 : Int32)), .val (.int (1 : Int32)), .val (.int (1 : Int32)), .val (.ref bx6_0_8), .val (.int (1 : Int32)), .unset]) rfl ?_
    refine XS.iload X10.here hx rfl (hb hby d4_48) rfl ?_
    show Steps p.tables e below (T10.setTop (mkF m 50 #[.val (.ref a4_0), .val (.int (1 : Int32)), .val (.int (1 : Int32)), .val (.int (1 : Int32)), .val (.ref bx6_0_8), .val (.int (1 : Int32)), .unset] [(.int (1 : Int32))])) _
    refine XS.iloadN X10.here hx rfl (hb hby d4_50) rfl ?_
    show Steps p.tables e below (T10.setTop (mkF m 51 #[.val (.ref a4_0), .val (.int (1 : Int32)), .val (.int (1 : Int32)), .val (.int (1 : Int32)), .val (.ref bx6_0_8), .val (.int (1 : Int32)), .unset] [(.int (1 : Int32)), (.int (1 : Int32))])) _
    refine XS.icmpNo X10.here hx rfl (hb hby d4_51) rfl (flt (by decide : ¬ ((1 : Int32) < (1 : Int32)))).2.2.1 ?_
    refine XS.iload X10.here hx rfl (hb hby d4_54) rfl ?_
    refine XS.iload X10.here hx rfl (hb hby d4_56) rfl ?_
    show Steps p.tables e below (T10.setTop (mkF m 58 #[.val (.ref a4_0), .val (.int (1 : Int32)), .val (.int (1 : Int32)), .val (.int (1 : Int32)), .val (.ref bx6_0_8), .val (.int (1 : Int32)), .unset] [(.int (1 : Int32)), (.int (1 : Int32))])) _
    refine XS.iload X10.here hx rfl (hb hby d4_58) rfl ?_
    refine XS.ineg X10.here hx rfl (hb hby d4_60) rfl ?_
    refine XS.iand X10.here hx rfl (hb hby d4_61) rfl ?_
    show Steps p.tables e below (T10.setTop (mkF m 62 #[.val (.ref a4_0), .val (.int (1 : Int32)), .val (.int (1 : Int32)), .val (.int (1 : Int32)), .val (.ref bx6_0_8), .val (.int (1 : Int32)), .unset] [(.int (1 : Int32)), (.int (1 : Int32))])) _
    refine XS.isub X10.here hx rfl (hb hby d4_62) rfl ?_
    refine XS.istore X10.here hx rfl (hb hby d4_63) rfl (l' := #[.val (.ref a4_0), .val (.int (1 : Int32)), .val (.int (1 : Int32)), .val (.int (1 : Int32)), .val (.ref bx6_0_8), .val (.int (1 : Int32)), .val (.int (0 : Int32))]) rfl ?_
    refine XS.iload X10.here hx rfl (hb hby d4_65) rfl ?_
    show Steps p.tables e below (T10.setTop (mkF m 67 #[.val (.ref a4_0), .val (.int (1 : Int32)), .val (.int (1 : Int32)), .val (.int (1 : Int32)), .val (.ref bx6_0_8), .val (.int (1 : Int32)), .val (.int (0 : Int32))] [(.int (0 : Int32))])) _
    refine XS.aloadN X10.here hx rfl (hb hby d4_67) rfl rfl ?_
    refine st14 _ ?_
    show Steps p.tables e below (T14.setTop (mkF m 71 #[.val (.ref a4_0), .val (.int (1 : Int32)), .val (.int (1 : Int32)), .val (.int (1 : Int32)), .val (.ref bx6_0_8), .val (.int (1 : Int32)), .val (.int (0 : Int32))] [(.int (0 : Int32)), (.int (0 : Int32))])) _
    refine XS.icmpYes X14.here hx rfl (pc0 := 71) (pc' := 92) rfl (hb hby d4_71) rfl (flt (by decide : ¬ ((0 : Int32) < (0 : Int32)))).2.1 (by decide) (by decide) ?_
    refine XS.iinc X14.here hx rfl (hb hby d4_92) rfl (l' := #[.val (.ref a4_0), .val (.int (1 : Int32)), .val (.int (1 : Int32)), .val (.int (1 : Int32)), .val (.ref bx6_0_8), .val (.int (2 : Int32)), .val (.int (0 : Int32))]) rfl ?_
    refine XS.goto X14.here hx rfl (pc0 := 95) (pc' := 48) rfl (hb hby d4_95) (by decide) (by decide) ?_
    show Steps p.tables e below (T14.setTop (mkF m 48 #[.val (.ref a4_0), .val (.int (1 : Int32)), .val (.int (1 : Int32)), .val (.int (1 : Int32)), .val (.ref bx6_0_8), .val (.int (2 : Int32)), .val (.int (0 : Int32))] [])) _
    refine XS.iload X14.here hx rfl (hb hby d4_48) rfl ?_
    refine XS.iloadN X14.here hx rfl (hb hby d4_50) rfl ?_
    show Steps p.tables e below (T14.setTop (mkF m 51 #[.val (.ref a4_0), .val (.int (1 : Int32)), .val (.int (1 : Int32)), .val (.int (1 : Int32)), .val (.ref bx6_0_8), .val (.int (2 : Int32)), .val (.int (0 : Int32))] [(.int (1 : Int32)), (.int (2 : Int32))])) _
    refine XS.icmpYes X14.here hx rfl (pc0 := 51) (pc' := 98) rfl (hb hby d4_51) rfl (tlt (by decide : (1 : Int32) < (2 : Int32))).2.2.1 (by decide) (by decide) ?_
    refine XS.aloadN X14.here hx rfl (hb hby d4_98) rfl rfl ?_
    refine XS.aload X14.here hx rfl (hb hby d4_99) rfl rfl ?_
    show Steps p.tables e below (T14.setTop (mkF m 101 #[.val (.ref a4_0), .val (.int (1 : Int32)), .val (.int (1 : Int32)), .val (.int (1 : Int32)), .val (.ref bx6_0_8), .val (.int (2 : Int32)), .val (.int (0 : Int32))] [(.ref bx6_0_8), (.ref a4_0)])) _
    refine st16 _ ?_
    show Steps p.tables e below (T16.setTop (mkF m 104 #[.val (.ref a4_0), .val (.int (1 : Int32)), .val (.int (1 : Int32)), .val (.int (1 : Int32)), .val (.ref bx6_0_8), .val (.int (2 : Int32)), .val (.int (0 : Int32))] [])) _
    exact X16.returnOut hx Bd.returns (hb hby d4_104) hr
  · have f17 := (f15.wr W16)
    have f18 := (f13.other W16 (Or.inr (slot_ne (Or.inl (ow24 hw)) (Or.inl (ow12 hw)) (by decide) (t := .int) (t' := (.array .long)) (by decide) (by decide))))
    have f19 := ((F_total_a4_0.keep Kc8 nin0).other W16 (Or.inr (slot_ne (Or.inl (ow46 hw)) (Or.inl (ow12 hw)) (by decide) (t := .long) (t' := (.array .long)) (by decide) (by decide))))
    have f20 := (P8_1.other W16 (Ne.symm ne_a4_0_bx6_0_8))
    show Q_rm4_1 Z a4_0 w_tree_a4_0 kc_w_tree_a4_0 h0 n0 _ T16.heap _
    rw [e16]
    exact ⟨bx6_0_8, kx6_0_8, rfl, N16, K16, sz_bx6_0_8, f17, F16, f18, f19, f20⟩
theorem pd__I_V : parseMethodDescriptor "(I)V" = some ⟨[.int], none⟩ := by decide +kernel
theorem d8_0 : decode prog_14_method_7_code 0 = .ok (.aload_n 0, 1) := by decide +kernel
theorem d8_1 : decode prog_14_method_7_code 1 = .ok (.dup, 1) := by decide +kernel
theorem d8_2 : decode prog_14_method_7_code 2 = .ok (.getfield 29, 3) := by decide +kernel
theorem d8_5 : decode prog_14_method_7_code 5 = .ok (.lload_n 2, 1) := by decide +kernel
theorem d8_6 : decode prog_14_method_7_code 6 = .ok (.ladd, 1) := by decide +kernel
theorem d8_7 : decode prog_14_method_7_code 7 = .ok (.putfield 29, 3) := by decide +kernel
theorem d8_10 : decode prog_14_method_7_code 10 = .ok (.iload_n 1, 1) := by decide +kernel
theorem d8_11 : decode prog_14_method_7_code 11 = .ok (.iconst 1, 1) := by decide +kernel
theorem d8_12 : decode prog_14_method_7_code 12 = .ok (.iadd, 1) := by decide +kernel
theorem d8_13 : decode prog_14_method_7_code 13 = .ok (.istore 4, 2) := by decide +kernel
theorem d8_15 : decode prog_14_method_7_code 15 = .ok (.iload 4, 2) := by decide +kernel
theorem d8_17 : decode prog_14_method_7_code 17 = .ok (.aload_n 0, 1) := by decide +kernel
theorem d8_18 : decode prog_14_method_7_code 18 = .ok (.getfield 7, 3) := by decide +kernel
theorem d8_21 : decode prog_14_method_7_code 21 = .ok (.arraylength, 1) := by decide +kernel
theorem d8_22 : decode prog_14_method_7_code 22 = .ok (.if_icmp .gt 30, 3) := by decide +kernel
theorem d8_25 : decode prog_14_method_7_code 25 = .ok (.aload_n 0, 1) := by decide +kernel
theorem d8_26 : decode prog_14_method_7_code 26 = .ok (.getfield 7, 3) := by decide +kernel
theorem d8_29 : decode prog_14_method_7_code 29 = .ok (.iload 4, 2) := by decide +kernel
theorem d8_31 : decode prog_14_method_7_code 31 = .ok (.iconst 1, 1) := by decide +kernel
theorem d8_32 : decode prog_14_method_7_code 32 = .ok (.isub, 1) := by decide +kernel
theorem d8_33 : decode prog_14_method_7_code 33 = .ok (.dup2, 1) := by decide +kernel
theorem d8_34 : decode prog_14_method_7_code 34 = .ok (.laload, 1) := by decide +kernel
theorem d8_35 : decode prog_14_method_7_code 35 = .ok (.lload_n 2, 1) := by decide +kernel
theorem d8_36 : decode prog_14_method_7_code 36 = .ok (.ladd, 1) := by decide +kernel
theorem d8_37 : decode prog_14_method_7_code 37 = .ok (.lastore, 1) := by decide +kernel
theorem d8_38 : decode prog_14_method_7_code 38 = .ok (.iload 4, 2) := by decide +kernel
theorem d8_40 : decode prog_14_method_7_code 40 = .ok (.iload 4, 2) := by decide +kernel
theorem d8_42 : decode prog_14_method_7_code 42 = .ok (.iload 4, 2) := by decide +kernel
theorem d8_44 : decode prog_14_method_7_code 44 = .ok (.ineg, 1) := by decide +kernel
theorem d8_45 : decode prog_14_method_7_code 45 = .ok (.iand, 1) := by decide +kernel
theorem d8_46 : decode prog_14_method_7_code 46 = .ok (.iadd, 1) := by decide +kernel
theorem d8_47 : decode prog_14_method_7_code 47 = .ok (.istore 4, 2) := by decide +kernel
theorem d8_49 : decode prog_14_method_7_code 49 = .ok (.goto (-34), 3) := by decide +kernel
theorem d8_52 : decode prog_14_method_7_code 52 = .ok (.return_, 1) := by decide +kernel
theorem pn_8 : plainName "com/example/motley/motley/CountTree" = true := by first | (simp [plainName, overriddenIn]; done) | decide +kernel
theorem ef_rm8_1 (m : MethodId) (y0 : Addr) (y2 : Int64) : entryFrame m #[(.ref y0), (.int (0 : Int32)), (.long y2)] 5 = mkF m 0 #[.val (.ref y0), .val (.int (0 : Int32)), .val (.long y2), .second, .unset] [] := by first | (simp [entryFrame, mkF, argsToLocals, Value.category]; done) | rfl
def Q_rm8_1 (Z : State) (a8_0 : Addr) (q8_2 : Int64) (w_tree_a8_0 : Addr) (kc_w_tree_a8_0 : ClassId) (t_w_tree_a8_0_0 : Int64) (h0 : Heap) (n0 : Nat) (v : Option Value) (h : Heap) (L : List Loc) : Prop := v = none ∧ Fr n0 L ∧ Keep h0 h [a8_0, w_tree_a8_0] ∧ Exa Z h a8_0 "com/example/motley/motley/CountTree" ∧ Fld Z h a8_0 "com/example/motley/motley/CountTree" "tree" "[J" (.ref w_tree_a8_0) ∧ Fld Z h a8_0 "com/example/motley/motley/CountTree" "size" "I" (.int (1 : Int32)) ∧ Fld Z h a8_0 "com/example/motley/motley/CountTree" "total" "J" (.long ((0 : Int64) + q8_2)) ∧ Arv Z h w_tree_a8_0 kc_w_tree_a8_0 .long (1 : Int32) [(.long (t_w_tree_a8_0_0 + q8_2))] (.long (0 : Int64))
set_option maxRecDepth 65536 in
set_option maxHeartbeats 40000000 in
theorem rm8_1 (l : Launch) (Z : State) (a0 : Array Value) (hw : ∀ d ∈ tables_1, d.before a0 Z = true) (ws : List Jvm.Cond) (a8_0 : Addr) (q8_2 : Int64) (w_tree_a8_0 : Addr) (kc_w_tree_a8_0 : ClassId) (t_w_tree_a8_0_0 : Int64) (h0 : Heap) (n0 : Nat) (Z0 : n0 ≤ h0.size) (E_a8_0 : Exa Z h0 a8_0 "com/example/motley/motley/CountTree") (F_tree_a8_0 : Fld Z h0 a8_0 "com/example/motley/motley/CountTree" "tree" "[J" (.ref w_tree_a8_0)) (F_size_a8_0 : Fld Z h0 a8_0 "com/example/motley/motley/CountTree" "size" "I" (.int (1 : Int32))) (F_total_a8_0 : Fld Z h0 a8_0 "com/example/motley/motley/CountTree" "total" "J" (.long (0 : Int64))) (V_w_tree_a8_0 : Arv Z h0 w_tree_a8_0 kc_w_tree_a8_0 .long (1 : Int32) [(.long t_w_tree_a8_0_0)] (.long (0 : Int64))) (g_a8_0 : n0 ≤ a8_0) (ne_w_tree_a8_0_a8_0 : w_tree_a8_0 ≠ a8_0) (g_w_tree_a8_0 : n0 ≤ w_tree_a8_0) :
    MetFree l (⟨"com/example/motley/motley/CountTree", "add", "(IJ)V"⟩ : MethodName) (head1 (Jvm.Cond.code (⟨"com/example/motley/motley/CountTree", "add", "(IJ)V"⟩ : MethodName) prog_14_method_7_code 5 none :: ws) ({ frames := 0, cells := 0, slots := 0, locals := 0 } : Room)) (fun a U => a = #[(.ref a8_0), (.int (0 : Int32)), (.long q8_2)] ∧ Z.Warmed39 U.vm ∧ U.heap = h0) (fun _ _ _ _ _ => True) (fun _ U o U' => ∃ v L, o = .returned v ∧ Q_rm8_1 Z a8_0 q8_2 w_tree_a8_0 kc_w_tree_a8_0 t_w_tree_a8_0_0 h0 n0 v U'.heap L ∧ FrameEnd U o U' L ({ frames := 0, cells := 0, slots := 0, locals := 0 } : Room).cells ({ frames := 0, cells := 0, slots := 0, locals := 0 } : Room).slots) := by
  refine MetFree.of_bodySF (plainFor_of_name pn_8) hisR ?_
  intro p e s m args below meth c s₁ Bd hml0 hP hK
  obtain ⟨rfl, hZ, hh⟩ := hP
  have hx := Bd.exec
  have hby := Bd.bytes
  have hml : c.maxLocals = 5 := hml0
  have hown : s.vm.findClass "com/example/motley/motley/CountTree" = some m.cls := findClass_of_methodNamed Bd.named
  have hnm := (name_of_methodNamed Bd.named Bd.method).1
  have X0 : Stand p l e ({ frames := 0, cells := 0, slots := 0, locals := 0 } : Room) s m #[(.ref a8_0), (.int (0 : Int32)), (.long q8_2)] below meth c s₁ [] 0 0 := Stand.of_body Bd
  have e0 : s₁.heap = h0 := by rw [← hh, Bd.state]; rfl
  have N0 := Fr.nil n0
  have pre0 : ∀ t, Steps p.tables e below (s₁.setTop (mkF m 0 #[.val (.ref a8_0), .val (.int (0 : Int32)), .val (.long q8_2), .second, .unset] [])) t → Steps p.tables e below (s₁.setTop (entryFrame m #[(.ref a8_0), (.int (0 : Int32)), (.long q8_2)] 5)) t := fun t k => castTop (ef_rm8_1 m a8_0 q8_2) k
  obtain ⟨T1, X1, e1, st1⟩ := getF X0 hx hZ hown (host := "") (Or.inl (ow45 hw)) Via.refl e0 F_total_a8_0 (g := (mkF m 2 #[.val (.ref a8_0), .val (.int (0 : Int32)), .val (.long q8_2), .second, .unset] [(.ref a8_0), (.ref a8_0)])) rfl rfl (hb hby d8_2)
  obtain ⟨T2, h2, X2, e2, W2, st2⟩ := putF X1 hx hZ hown (host := "") (Or.inl (ow45 hw)) Via.refl e1 F_total_a8_0 E_a8_0 (Or.inl (ow46 hw)) (ow2 hw) (ty := .long) (by decide) rfl rfl (g := (mkF m 7 #[.val (.ref a8_0), .val (.int (0 : Int32)), .val (.long q8_2), .second, .unset] [(.long ((0 : Int64) + q8_2)), (.ref a8_0)])) rfl rfl (hb hby d8_7)
  have F2 := F_total_a8_0.same W2
  have K2 : Keep h0 h2 [a8_0, w_tree_a8_0] := (Keep.refl h0 [a8_0, w_tree_a8_0]).wr W2 (Or.inl (List.mem_of_getElem? (i := 0) rfl))
  have Z2 : n0 ≤ h2.size := Nat.le_trans Z0 K2.1
  have N2 := Fr.snoc X2 N0 g_a8_0
  have f3 := (F_tree_a8_0.other W2 (Or.inr (slot_ne (Or.inl (ow12 hw)) (Or.inl (ow46 hw)) (by decide) (t := (.array .long)) (t' := .long) (by decide) (by decide))))
  obtain ⟨T4, X4, e4, st4⟩ := getF X2 hx hZ hown (host := "") (Or.inl (ow11 hw)) Via.refl e2 f3 (g := (mkF m 18 #[.val (.ref a8_0), .val (.int (0 : Int32)), .val (.long q8_2), .second, .val (.int (1 : Int32))] [(.ref a8_0), (.int (1 : Int32))])) rfl rfl (hb hby d8_18)
  have f5 := (V_w_tree_a8_0.other W2 ne_w_tree_a8_0_a8_0)
  obtain ⟨cl6, Ar6, qk6, Sz6, Nz6, Hh6, Gf6⟩ := id f5
  obtain ⟨T7, X7, e7, st7⟩ := getF X4 hx hZ hown (host := "") (Or.inl (ow11 hw)) Via.refl e4 f3 (g := (mkF m 26 #[.val (.ref a8_0), .val (.int (0 : Int32)), .val (.long q8_2), .second, .val (.int (1 : Int32))] [(.ref a8_0)])) rfl rfl (hb hby d8_26)
  obtain ⟨cl8, Ar8, qk8, Sz8, Nz8, Hh8, Gf8⟩ := id f5
  obtain ⟨cl9, Ar9, qk9, Sz9, Nz9, Hh9, Gf9⟩ := id f5
  obtain ⟨T10, h10, X10, e10, W10, st10⟩ := stJ X7 hx hZ e7 Ar9 (j := (0 : Int32)) (inb_of Sz9 ⟨by decide, by decide⟩) (g := (mkF m 37 #[.val (.ref a8_0), .val (.int (0 : Int32)), .val (.long q8_2), .second, .val (.int (1 : Int32))] [(.long (t_w_tree_a8_0_0 + q8_2)), (.int (0 : Int32)), (.ref w_tree_a8_0)])) rfl rfl (hb hby d8_37)
  have V10 : Arv Z h10 w_tree_a8_0 kc_w_tree_a8_0 .long (1 : Int32) [(.long (t_w_tree_a8_0_0 + q8_2))] (.long (0 : Int64)) := Arv.set Ar9 qk9 Sz9 Nz9 Hh9 Gf9 rfl W10 0 rfl (Nat.le_of_ble_eq_true rfl)
  have K10 : Keep h0 h10 [a8_0, w_tree_a8_0] := K2.wr W10 (Or.inl (List.mem_of_getElem? (i := 1) rfl))
  have Z10 : n0 ≤ h10.size := Nat.le_trans Z0 K10.1
  have N10 := Fr.snoc X10 N2 g_w_tree_a8_0
  have f11 := (f3.other W10 (Or.inl (Ne.symm ne_w_tree_a8_0_a8_0)))
  obtain ⟨T12, X12, e12, st12⟩ := getF X10 hx hZ hown (host := "") (Or.inl (ow11 hw)) Via.refl e10 f11 (g := (mkF m 18 #[.val (.ref a8_0), .val (.int (0 : Int32)), .val (.long q8_2), .second, .val (.int (2 : Int32))] [(.ref a8_0), (.int (2 : Int32))])) rfl rfl (hb hby d8_18)
  obtain ⟨cl13, Ar13, qk13, Sz13, Nz13, Hh13, Gf13⟩ := id V10
  obtain ⟨fs, hr, hrun, hended, hW, hsame⟩ := X12.leave (v := none) (fun _ => rfl)
  refine ⟨_, _, pre0 _ ?_, hrun, hended, _, _, rfl, ?_, ⟨_, rfl⟩, hW, hsame.mono (by decide) (by decide)⟩
  · show Steps p.tables e below (s₁.setTop (mkF m 0 #[.val (.ref a8_0), .val (.int (0 : Int32)), .val (.long q8_2), .second, .unset] [])) _
    refine XS.aloadN X0.here hx rfl (hb hby d8_0) rfl rfl ?_
    refine XS.dup X0.here hx rfl (hb hby d8_1) rfl rfl ?_
    refine st1 _ ?_
    show Steps p.tables e below (T1.setTop (mkF m 5 #[.val (.ref a8_0), .val (.int (0 : Int32)), .val (.long q8_2), .second, .unset] [(.long (0 : Int64)), (.ref a8_0)])) _
    refine XS.lloadN X1.here hx rfl (hb hby d8_5) rfl ?_
    refine XS.ladd X1.here hx rfl (hb hby d8_6) rfl ?_
    refine st2 _ ?_
    show Steps p.tables e below (T2.setTop (mkF m 10 #[.val (.ref a8_0), .val (.int (0 : Int32)), .val (.long q8_2), .second, .unset] [])) _
    refine XS.iloadN X2.here hx rfl (hb hby d8_10) rfl ?_
    refine XS.iconst X2.here hx rfl (hb hby d8_11) ?_
    refine XS.iadd X2.here hx rfl (hb hby d8_12) rfl ?_
    show Steps p.tables e below (T2.setTop (mkF m 13 #[.val (.ref a8_0), .val (.int (0 : Int32)), .val (.long q8_2), .second, .unset] [(.int (1 : Int32))])) _
    refine XS.istore X2.here hx rfl (hb hby d8_13) rfl (l' := #[.val (.ref a8_0), .val (.int (0 : Int32)), .val (.long q8_2), .second, .val (.int (1 : Int32))]) rfl ?_
    refine XS.iload X2.here hx rfl (hb hby d8_15) rfl ?_
    refine XS.aloadN X2.here hx rfl (hb hby d8_17) rfl rfl ?_
    show Steps p.tables e below (T2.setTop (mkF m 18 #[.val (.ref a8_0), .val (.int (0 : Int32)), .val (.long q8_2), .second, .val (.int (1 : Int32))] [(.ref a8_0), (.int (1 : Int32))])) _
    refine st4 _ ?_
    show Steps p.tables e below (T4.setTop (mkF m 21 #[.val (.ref a8_0), .val (.int (0 : Int32)), .val (.long q8_2), .second, .val (.int (1 : Int32))] [(.ref w_tree_a8_0), (.int (1 : Int32))])) _
    refine X4.arraylength hx (cell := cl6) (by rw [e4]; exact Ar6.1) (State.isArrayOf_alike hZ.alike Ar6.2.1) (g := (mkF m 21 #[.val (.ref a8_0), .val (.int (0 : Int32)), .val (.long q8_2), .second, .val (.int (1 : Int32))] [(.ref w_tree_a8_0), (.int (1 : Int32))])) rfl (rest := [(.int (1 : Int32))]) rfl (hb hby d8_21) _ ?_
    rw [len_of Sz6 Nz6]
    show Steps p.tables e below (T4.setTop (mkF m 22 #[.val (.ref a8_0), .val (.int (0 : Int32)), .val (.long q8_2), .second, .val (.int (1 : Int32))] [(.int (1 : Int32)), (.int (1 : Int32))])) _
    refine XS.icmpNo X4.here hx rfl (hb hby d8_22) rfl (flt (by decide : ¬ ((1 : Int32) < (1 : Int32)))).2.2.1 ?_
    refine XS.aloadN X4.here hx rfl (hb hby d8_25) rfl rfl ?_
    refine st7 _ ?_
    show Steps p.tables e below (T7.setTop (mkF m 29 #[.val (.ref a8_0), .val (.int (0 : Int32)), .val (.long q8_2), .second, .val (.int (1 : Int32))] [(.ref w_tree_a8_0)])) _
    refine XS.iload X7.here hx rfl (hb hby d8_29) rfl ?_
    refine XS.iconst X7.here hx rfl (hb hby d8_31) ?_
    refine XS.isub X7.here hx rfl (hb hby d8_32) rfl ?_
    show Steps p.tables e below (T7.setTop (mkF m 33 #[.val (.ref a8_0), .val (.int (0 : Int32)), .val (.long q8_2), .second, .val (.int (1 : Int32))] [(.int (0 : Int32)), (.ref w_tree_a8_0)])) _
    jvm_step X7.here [X7.here.top, hx, (hb hby d8_33), Value.category]
    refine X7.laload hx (j := (0 : Int32)) (v := (.long t_w_tree_a8_0_0)) (by rw [e7]; exact Ar8.1) (State.isArrayOf_alike hZ.alike Ar8.2.1) Ar8.2.2 (inb_of Sz8 ⟨by decide, by decide⟩) (Hh8.at (inb_of Sz8 ⟨by decide, by decide⟩) rfl) (g := (mkF m 34 #[.val (.ref a8_0), .val (.int (0 : Int32)), .val (.long q8_2), .second, .val (.int (1 : Int32))] [(.int (0 : Int32)), (.ref w_tree_a8_0), (.int (0 : Int32)), (.ref w_tree_a8_0)])) rfl rfl (hb hby d8_34) _ ?_
    refine XS.lloadN X7.here hx rfl (hb hby d8_35) rfl ?_
    show Steps p.tables e below (T7.setTop (mkF m 36 #[.val (.ref a8_0), .val (.int (0 : Int32)), .val (.long q8_2), .second, .val (.int (1 : Int32))] [(.long q8_2), (.long t_w_tree_a8_0_0), (.int (0 : Int32)), (.ref w_tree_a8_0)])) _
    refine XS.ladd X7.here hx rfl (hb hby d8_36) rfl ?_
    refine st10 _ ?_
    refine XS.iload X10.here hx rfl (hb hby d8_38) rfl ?_
    show Steps p.tables e below (T10.setTop (mkF m 40 #[.val (.ref a8_0), .val (.int (0 : Int32)), .val (.long q8_2), .second, .val (.int (1 : Int32))] [(.int (1 : Int32))])) _
    refine XS.iload X10.here hx rfl (hb hby d8_40) rfl ?_
    refine XS.iload X10.here hx rfl (hb hby d8_42) rfl ?_
    refine XS.ineg X10.here hx rfl (hb hby d8_44) rfl ?_
    show Steps p.tables e below (T10.setTop (mkF m 45 #[.val (.ref a8_0), .val (.int (0 : Int32)), .val (.long q8_2), .second, .val (.int (1 : Int32))] [(.int (-1 : Int32)), (.int (1 : Int32)), (.int (1 : Int32))])) _
    refine XS.iand X10.here hx rfl (hb hby d8_45) rfl ?_
    refine XS.iadd X10.here hx rfl (hb hby d8_46) rfl ?_
    refine XS.istore X10.here hx rfl (hb hby d8_47) rfl (l' := #[.val (.ref a8_0), .val (.int (0 : Int32)), .val (.long q8_2), .second, .val (.int (2 : Int32))]) rfl ?_
    show Steps p.tables e below (T10.setTop (mkF m 49 #[.val (.ref a8_0), .val (.int (0 : Int32)), .val (.long q8_2), .second, .val (.int (2 : Int32))] [])) _
    refine XS.goto X10.here hx rfl (pc0 := 49) (pc' := 15) rfl (hb hby d8_49) (by decide) (by decide) ?_
    refine XS.iload X10.here hx rfl (hb hby d8_15) rfl ?_
    refine XS.aloadN X10.here hx rfl (hb hby d8_17) rfl rfl ?_
    show Steps p.tables e below (T10.setTop (mkF m 18 #[.val (.ref a8_0), .val (.int (0 : Int32)), .val (.long q8_2), .second, .val (.int (2 : Int32))] [(.ref a8_0), (.int (2 : Int32))])) _
    refine st12 _ ?_
    show Steps p.tables e below (T12.setTop (mkF m 21 #[.val (.ref a8_0), .val (.int (0 : Int32)), .val (.long q8_2), .second, .val (.int (2 : Int32))] [(.ref w_tree_a8_0), (.int (2 : Int32))])) _
    refine X12.arraylength hx (cell := cl13) (by rw [e12]; exact Ar13.1) (State.isArrayOf_alike hZ.alike Ar13.2.1) (g := (mkF m 21 #[.val (.ref a8_0), .val (.int (0 : Int32)), .val (.long q8_2), .second, .val (.int (2 : Int32))] [(.ref w_tree_a8_0), (.int (2 : Int32))])) rfl (rest := [(.int (2 : Int32))]) rfl (hb hby d8_21) _ ?_
    rw [len_of Sz13 Nz13]
    show Steps p.tables e below (T12.setTop (mkF m 22 #[.val (.ref a8_0), .val (.int (0 : Int32)), .val (.long q8_2), .second, .val (.int (2 : Int32))] [(.int (1 : Int32)), (.int (2 : Int32))])) _
    refine XS.icmpYes X12.here hx rfl (pc0 := 22) (pc' := 52) rfl (hb hby d8_22) rfl (tlt (by decide : (1 : Int32) < (2 : Int32))).2.2.1 (by decide) (by decide) ?_
    show Steps p.tables e below (T12.setTop (mkF m 52 #[.val (.ref a8_0), .val (.int (0 : Int32)), .val (.long q8_2), .second, .val (.int (2 : Int32))] [])) _
    exact X12.returnOut hx Bd.returns (hb hby d8_52) hr
  · have f14 := ((E_a8_0.wr W2).wr W10)
    have f15 := ((F_size_a8_0.other W2 (Or.inr (slot_ne (Or.inl (ow24 hw)) (Or.inl (ow46 hw)) (by decide) (t := .int) (t' := .long) (by decide) (by decide)))).other W10 (Or.inl (Ne.symm ne_w_tree_a8_0_a8_0)))
    have f16 := (F2.other W10 (Or.inl (Ne.symm ne_w_tree_a8_0_a8_0)))
    show Q_rm8_1 Z a8_0 q8_2 w_tree_a8_0 kc_w_tree_a8_0 t_w_tree_a8_0_0 h0 n0 _ T12.heap _
    rw [e12]
    exact ⟨rfl, N10, K10, f14, f11, f15, f16, V10⟩
theorem pd__IJ_V : parseMethodDescriptor "(IJ)V" = some ⟨[.int, .long], none⟩ := by decide +kernel
theorem d3_0 : decode prog_14_method_4_code 0 = .ok (.aload_n 0, 1) := by decide +kernel
theorem d3_1 : decode prog_14_method_4_code 1 = .ok (.iconst 1, 1) := by decide +kernel
theorem d3_2 : decode prog_14_method_4_code 2 = .ok (.invokevirtual 37, 3) := by decide +kernel
theorem d3_5 : decode prog_14_method_4_code 5 = .ok (.aload_n 0, 1) := by decide +kernel
theorem d3_6 : decode prog_14_method_4_code 6 = .ok (.dup, 1) := by decide +kernel
theorem d3_7 : decode prog_14_method_4_code 7 = .ok (.getfield 13, 3) := by decide +kernel
theorem d3_10 : decode prog_14_method_4_code 10 = .ok (.iconst 1, 1) := by decide +kernel
theorem d3_11 : decode prog_14_method_4_code 11 = .ok (.iadd, 1) := by decide +kernel
theorem d3_12 : decode prog_14_method_4_code 12 = .ok (.putfield 13, 3) := by decide +kernel
theorem d3_15 : decode prog_14_method_4_code 15 = .ok (.aload_n 0, 1) := by decide +kernel
theorem d3_16 : decode prog_14_method_4_code 16 = .ok (.aload_n 0, 1) := by decide +kernel
theorem d3_17 : decode prog_14_method_4_code 17 = .ok (.getfield 13, 3) := by decide +kernel
theorem d3_20 : decode prog_14_method_4_code 20 = .ok (.iconst 1, 1) := by decide +kernel
theorem d3_21 : decode prog_14_method_4_code 21 = .ok (.isub, 1) := by decide +kernel
theorem d3_22 : decode prog_14_method_4_code 22 = .ok (.lload_n 1, 1) := by decide +kernel
theorem d3_23 : decode prog_14_method_4_code 23 = .ok (.invokevirtual 41, 3) := by decide +kernel
theorem d3_26 : decode prog_14_method_4_code 26 = .ok (.return_, 1) := by decide +kernel
theorem pn_3 : plainName "com/example/motley/motley/CountTree" = true := by first | (simp [plainName, overriddenIn]; done) | decide +kernel
theorem ef_rm3_1 (m : MethodId) (y0 : Addr) (y1 : Int64) : entryFrame m #[(.ref y0), (.long y1)] 3 = mkF m 0 #[.val (.ref y0), .val (.long y1), .second] [] := by first | (simp [entryFrame, mkF, argsToLocals, Value.category]; done) | rfl
def Q_rm3_1 (Z : State) (a3_0 : Addr) (q3_1 : Int64) (w_tree_a3_0 : Addr) (kc_w_tree_a3_0 : ClassId) (h0 : Heap) (n0 : Nat) (v : Option Value) (h : Heap) (L : List Loc) : Prop := ∃ bx3_0 : Addr, ∃ kx3_0 : ClassId, v = none ∧ Fr n0 L ∧ Keep h0 h [a3_0] ∧ h0.size ≤ bx3_0 ∧ Exa Z h a3_0 "com/example/motley/motley/CountTree" ∧ Fld Z h a3_0 "com/example/motley/motley/CountTree" "tree" "[J" (.ref bx3_0) ∧ Fld Z h a3_0 "com/example/motley/motley/CountTree" "size" "I" (.int (1 : Int32)) ∧ Fld Z h a3_0 "com/example/motley/motley/CountTree" "total" "J" (.long ((0 : Int64) + q3_1)) ∧ Arv Z h bx3_0 kx3_0 .long (1 : Int32) [(.long ((0 : Int64) + q3_1))] (.long (0 : Int64))
set_option maxRecDepth 65536 in
set_option maxHeartbeats 40000000 in
theorem rm3_1 (l : Launch) (Z : State) (a0 : Array Value) (hw : ∀ d ∈ tables_1, d.before a0 Z = true) (ws : List Jvm.Cond) (a3_0 : Addr) (q3_1 : Int64) (w_tree_a3_0 : Addr) (kc_w_tree_a3_0 : ClassId) (h0 : Heap) (n0 : Nat) (Z0 : n0 ≤ h0.size) (E_a3_0 : Exa Z h0 a3_0 "com/example/motley/motley/CountTree") (F_tree_a3_0 : Fld Z h0 a3_0 "com/example/motley/motley/CountTree" "tree" "[J" (.ref w_tree_a3_0)) (F_size_a3_0 : Fld Z h0 a3_0 "com/example/motley/motley/CountTree" "size" "I" (.int (0 : Int32))) (F_total_a3_0 : Fld Z h0 a3_0 "com/example/motley/motley/CountTree" "total" "J" (.long (0 : Int64))) (V_w_tree_a3_0 : Arv Z h0 w_tree_a3_0 kc_w_tree_a3_0 .long (0 : Int32) [] (.long (0 : Int64))) (g_a3_0 : n0 ≤ a3_0) :
    MetFree l (⟨"com/example/motley/motley/CountTree", "append", "(J)V"⟩ : MethodName) (head1 (Jvm.Cond.code (⟨"com/example/motley/motley/CountTree", "append", "(J)V"⟩ : MethodName) prog_14_method_4_code 3 none :: ws) ({ frames := 3, cells := 1, slots := 1, locals := 50 } : Room)) (fun a U => a = #[(.ref a3_0), (.long q3_1)] ∧ Z.Warmed39 U.vm ∧ U.heap = h0) (fun _ _ _ _ _ => True) (fun _ U o U' => ∃ v L, o = .returned v ∧ Q_rm3_1 Z a3_0 q3_1 w_tree_a3_0 kc_w_tree_a3_0 h0 n0 v U'.heap L ∧ FrameEnd U o U' L ({ frames := 3, cells := 1, slots := 1, locals := 50 } : Room).cells ({ frames := 3, cells := 1, slots := 1, locals := 50 } : Room).slots) := by
  refine MetFree.of_bodySF (plainFor_of_name pn_3) hisR ?_
  intro p e s m args below meth c s₁ Bd hml0 hP hK
  obtain ⟨rfl, hZ, hh⟩ := hP
  have hx := Bd.exec
  have hby := Bd.bytes
  have hml : c.maxLocals = 3 := hml0
  have hown : s.vm.findClass "com/example/motley/motley/CountTree" = some m.cls := findClass_of_methodNamed Bd.named
  have hnm := (name_of_methodNamed Bd.named Bd.method).1
  have X0 : Stand p l e ({ frames := 3, cells := 1, slots := 1, locals := 50 } : Room) s m #[(.ref a3_0), (.long q3_1)] below meth c s₁ [] 0 0 := Stand.of_body Bd
  have e0 : s₁.heap = h0 := by rw [← hh, Bd.state]; rfl
  have N0 := Fr.nil n0
  have pre0 : ∀ t, Steps p.tables e below (s₁.setTop (mkF m 0 #[.val (.ref a3_0), .val (.long q3_1), .second] [])) t → Steps p.tables e below (s₁.setTop (entryFrame m #[(.ref a3_0), (.long q3_1)] 3)) t := fun t k => castTop (ef_rm3_1 m a3_0 q3_1) k
  obtain ⟨cq1, kq1, q1a, q1b, q1c⟩ := isOf hZ e0 E_a3_0
  obtain ⟨_, _, ⟨T1, L1, k1, n1⟩, -, X1, ⟨Lc1, hQ1, l1, y1, z1⟩, st1⟩ := X0.virtualBack hx (y := (⟨"com/example/motley/motley/CountTree", "reserve", "(I)V"⟩ : MethodName)) (z := (⟨"com/example/motley/motley/CountTree", "reserve", "(I)V"⟩ : MethodName)) hown (mvT hZ (ow18 hw)) (mvT hZ (ow19 hw)) (notFace_of_selects (args := #[]) (mvT hZ (ow21 hw))) (mvT hZ (ow21 hw)) (mvT hZ (ow20 hw)) (by decide) (backOf (W := 0) (rm4_1 l Z a0 hw [] a3_0 w_tree_a3_0 kc_w_tree_a3_0 h0 n0 Z0 E_a3_0 F_tree_a3_0 F_size_a3_0 F_total_a3_0 V_w_tree_a3_0 g_a3_0) hZ (ow22 hw) (ow3 hw) (by decide) (by decide)) q1a q1c (g := (mkF m 2 #[.val (.ref a3_0), .val (.long q3_1), .second] [(.int (1 : Int32)), (.ref a3_0)])) rfl (by rw [hml]; rfl) (Steps.refl _) (argsL := [(.int (1 : Int32))]) (rest := []) (lenOf pd__I_V rfl) rfl (by show 2 * 0 + _ ≤ _; exact Nat.le_of_eq rfl) (hb hby d3_2) (fun _ _ => ⟨rfl, e0, (by decide : 0 + 1 ≤ _), (by decide : 0 + 1 ≤ _)⟩)
  dsimp only [Pt.U, Pt.locs, Pt.cells, Pt.slots] at X1 l1 y1 z1 st1 hQ1
  subst l1 y1 z1
  obtain ⟨bx4_0_1, kx4_0_1, rfl, Nq1, Kc1, P1_0, P1_1, P1_2, P1_3, P1_4, P1_5⟩ := hQ1
  have K1 : Keep h0 T1.heap [a3_0] := Keep.trans (Keep.refl h0 [a3_0]) Kc1 (allS (P := fun x => x ∈ ([a3_0] : List Addr) ∨ h0.size ≤ x) (Or.inl (List.mem_of_getElem? (i := 0) rfl)) all0)
  have Z1 : n0 ≤ T1.heap.size := Nat.le_trans Z0 K1.1
  have g_bx4_0_1 : n0 ≤ bx4_0_1 := Nat.le_trans Z0 P1_0
  have sz_bx4_0_1 : h0.size ≤ bx4_0_1 := Nat.le_trans (Nat.le_refl _) P1_0
  have ne_a3_0_bx4_0_1 : a3_0 ≠ bx4_0_1 := Nat.ne_of_lt (Nat.lt_of_lt_of_le E_a3_0.lt P1_0)
  have ne_w_tree_a3_0_bx4_0_1 : w_tree_a3_0 ≠ bx4_0_1 := Nat.ne_of_lt (Nat.lt_of_lt_of_le V_w_tree_a3_0.lt P1_0)
  have N1 := Fr.app N0 Nq1
  obtain ⟨T2, X2, e2, st2⟩ := getF X1 hx hZ hown (host := "") (Or.inl (ow23 hw)) Via.refl rfl P1_3 (g := (mkF m 7 #[.val (.ref a3_0), .val (.long q3_1), .second] [(.ref a3_0), (.ref a3_0)])) rfl rfl (hb hby d3_7)
  obtain ⟨T3, h3, X3, e3, W3, st3⟩ := putF X2 hx hZ hown (host := "") (Or.inl (ow23 hw)) Via.refl e2 P1_3 P1_1 (Or.inl (ow24 hw)) (ow2 hw) (ty := .int) (by decide) rfl rfl (g := (mkF m 12 #[.val (.ref a3_0), .val (.long q3_1), .second] [(.int (1 : Int32)), (.ref a3_0)])) rfl rfl (hb hby d3_12)
  have F3 := P1_3.same W3
  have K3 : Keep h0 h3 [a3_0] := K1.wr W3 (Or.inl (List.mem_of_getElem? (i := 0) rfl))
  have Z3 : n0 ≤ h3.size := Nat.le_trans Z0 K3.1
  have N3 := Fr.snoc X3 N1 g_a3_0
  obtain ⟨T4, X4, e4, st4⟩ := getF X3 hx hZ hown (host := "") (Or.inl (ow23 hw)) Via.refl e3 F3 (g := (mkF m 17 #[.val (.ref a3_0), .val (.long q3_1), .second] [(.ref a3_0), (.ref a3_0)])) rfl rfl (hb hby d3_17)
  have f5 := (P1_5.other W3 (Ne.symm ne_a3_0_bx4_0_1))
  have f6 := (P1_1.wr W3)
  have f7 := (P1_2.other W3 (Or.inr (slot_ne (Or.inl (ow12 hw)) (Or.inl (ow24 hw)) (by decide) (t := (.array .long)) (t' := .int) (by decide) (by decide))))
  have f8 := (P1_4.other W3 (Or.inr (slot_ne (Or.inl (ow46 hw)) (Or.inl (ow24 hw)) (by decide) (t := .long) (t' := .int) (by decide) (by decide))))
  obtain ⟨cq9, kq9, q9a, q9b, q9c⟩ := isOf hZ e4 f6
  obtain ⟨_, _, ⟨T9, L9, k9, n9⟩, -, X9, ⟨Lc9, hQ9, l9, y9, z9⟩, st9⟩ := X4.virtualBack hx (y := (⟨"com/example/motley/motley/CountTree", "add", "(IJ)V"⟩ : MethodName)) (z := (⟨"com/example/motley/motley/CountTree", "add", "(IJ)V"⟩ : MethodName)) hown (mvT hZ (ow40 hw)) (mvT hZ (ow41 hw)) (notFace_of_selects (args := #[]) (mvT hZ (ow43 hw))) (mvT hZ (ow43 hw)) (mvT hZ (ow42 hw)) (by decide) (backOf (W := 0) (rm8_1 l Z a0 hw [] a3_0 q3_1 bx4_0_1 kx4_0_1 (0 : Int64) h3 n0 Z3 f6 f7 F3 f8 f5 g_a3_0 (Ne.symm ne_a3_0_bx4_0_1) g_bx4_0_1) hZ (ow44 hw) (ow3 hw) (by decide) (by decide)) q9a q9c (g := (mkF m 23 #[.val (.ref a3_0), .val (.long q3_1), .second] [(.long q3_1), (.int (0 : Int32)), (.ref a3_0)])) rfl (by rw [hml]; rfl) (Steps.refl _) (argsL := [(.int (0 : Int32)), (.long q3_1)]) (rest := []) (lenOf pd__IJ_V rfl) rfl (by show 2 * 0 + _ ≤ _; exact Nat.le_of_eq rfl) (hb hby d3_23) (fun _ _ => ⟨rfl, e4, (by decide : 1 + 0 ≤ _), (by decide : 1 + 0 ≤ _)⟩)
  dsimp only [Pt.U, Pt.locs, Pt.cells, Pt.slots] at X9 l9 y9 z9 st9 hQ9
  subst l9 y9 z9
  obtain ⟨rfl, Nq9, Kc9, P9_0, P9_1, P9_2, P9_3, P9_4⟩ := hQ9
  have K9 : Keep h0 T9.heap [a3_0] := Keep.trans K3 Kc9 (allS (P := fun x => x ∈ ([a3_0] : List Addr) ∨ h0.size ≤ x) (Or.inl (List.mem_of_getElem? (i := 0) rfl)) (allS (P := fun x => x ∈ ([a3_0] : List Addr) ∨ h0.size ≤ x) (Or.inr sz_bx4_0_1) all0))
  have Z9 : n0 ≤ T9.heap.size := Nat.le_trans Z0 K9.1
  obtain ⟨y10, hy10⟩ : ∃ z : Int64, z = ((0 : Int64) + q3_1) := ⟨_, rfl⟩
  rw [← hy10] at P9_4
  have N9 := Fr.app N3 Nq9
  obtain ⟨fs, hr, hrun, hended, hW, hsame⟩ := X9.leave (v := none) (fun _ => rfl)
  refine ⟨_, _, pre0 _ ?_, hrun, hended, _, _, rfl, ?_, ⟨_, rfl⟩, hW, hsame.mono (by decide) (by decide)⟩
  · show Steps p.tables e below (s₁.setTop (mkF m 0 #[.val (.ref a3_0), .val (.long q3_1), .second] [])) _
    refine XS.aloadN X0.here hx rfl (hb hby d3_0) rfl rfl ?_
    refine XS.iconst X0.here hx rfl (hb hby d3_1) ?_
    refine st1.trans ?_
    show Steps p.tables e below (T1.setTop (mkF m 5 #[.val (.ref a3_0), .val (.long q3_1), .second] [])) _
    refine XS.aloadN X1.here hx rfl (hb hby d3_5) rfl rfl ?_
    refine XS.dup X1.here hx rfl (hb hby d3_6) rfl rfl ?_
    refine st2 _ ?_
    show Steps p.tables e below (T2.setTop (mkF m 10 #[.val (.ref a3_0), .val (.long q3_1), .second] [(.int (0 : Int32)), (.ref a3_0)])) _
    refine XS.iconst X2.here hx rfl (hb hby d3_10) ?_
    refine XS.iadd X2.here hx rfl (hb hby d3_11) rfl ?_
    refine st3 _ ?_
    show Steps p.tables e below (T3.setTop (mkF m 15 #[.val (.ref a3_0), .val (.long q3_1), .second] [])) _
    refine XS.aloadN X3.here hx rfl (hb hby d3_15) rfl rfl ?_
    refine XS.aloadN X3.here hx rfl (hb hby d3_16) rfl rfl ?_
    refine st4 _ ?_
    show Steps p.tables e below (T4.setTop (mkF m 20 #[.val (.ref a3_0), .val (.long q3_1), .second] [(.int (1 : Int32)), (.ref a3_0)])) _
    refine XS.iconst X4.here hx rfl (hb hby d3_20) ?_
    refine XS.isub X4.here hx rfl (hb hby d3_21) rfl ?_
    refine XS.lloadN X4.here hx rfl (hb hby d3_22) rfl ?_
    show Steps p.tables e below (T4.setTop (mkF m 23 #[.val (.ref a3_0), .val (.long q3_1), .second] [(.long q3_1), (.int (0 : Int32)), (.ref a3_0)])) _
    refine st9.trans ?_
    show Steps p.tables e below (T9.setTop (mkF m 26 #[.val (.ref a3_0), .val (.long q3_1), .second] [])) _
    exact X9.returnOut hx Bd.returns (hb hby d3_26) hr
  · show Q_rm3_1 Z a3_0 q3_1 w_tree_a3_0 kc_w_tree_a3_0 h0 n0 _ T9.heap _
    subst hy10
    exact ⟨bx4_0_1, kx4_0_1, rfl, N9, K9, sz_bx4_0_1, P9_0, P9_1, P9_2, P9_3, P9_4⟩
theorem pd__J_V : parseMethodDescriptor "(J)V" = some ⟨[.long], none⟩ := by decide +kernel
theorem d9_10 : decode prog_14_method_8_code 10 = .ok (.lload_n 2, 1) := by decide +kernel
theorem d9_11 : decode prog_14_method_8_code 11 = .ok (.aload_n 0, 1) := by decide +kernel
theorem d9_12 : decode prog_14_method_8_code 12 = .ok (.getfield 7, 3) := by decide +kernel
theorem d9_15 : decode prog_14_method_8_code 15 = .ok (.iload 4, 2) := by decide +kernel
theorem d9_17 : decode prog_14_method_8_code 17 = .ok (.iconst 1, 1) := by decide +kernel
theorem d9_18 : decode prog_14_method_8_code 18 = .ok (.isub, 1) := by decide +kernel
theorem d9_19 : decode prog_14_method_8_code 19 = .ok (.laload, 1) := by decide +kernel
theorem d9_20 : decode prog_14_method_8_code 20 = .ok (.ladd, 1) := by decide +kernel
theorem d9_21 : decode prog_14_method_8_code 21 = .ok (.lstore_n 2, 1) := by decide +kernel
theorem d9_22 : decode prog_14_method_8_code 22 = .ok (.iload 4, 2) := by decide +kernel
theorem d9_24 : decode prog_14_method_8_code 24 = .ok (.iload 4, 2) := by decide +kernel
theorem d9_26 : decode prog_14_method_8_code 26 = .ok (.iload 4, 2) := by decide +kernel
theorem d9_28 : decode prog_14_method_8_code 28 = .ok (.ineg, 1) := by decide +kernel
theorem d9_29 : decode prog_14_method_8_code 29 = .ok (.iand, 1) := by decide +kernel
theorem d9_30 : decode prog_14_method_8_code 30 = .ok (.isub, 1) := by decide +kernel
theorem d9_31 : decode prog_14_method_8_code 31 = .ok (.istore 4, 2) := by decide +kernel
theorem d9_33 : decode prog_14_method_8_code 33 = .ok (.goto (-28), 3) := by decide +kernel
theorem ef_rm9_2 (m : MethodId) (y0 : Addr) (y1 : Int32) : entryFrame m #[(.ref y0), (.int y1)] 5 = mkF m 0 #[.val (.ref y0), .val (.int y1), .unset, .unset, .unset] [] := by first | (simp [entryFrame, mkF, argsToLocals, Value.category]; done) | rfl
def Q_rm9_2 (Z : State) (a9_0 : Addr) (p9_1 : Int32) (w_tree_a9_0 : Addr) (w_total_a9_0 : Int64) (kc_w_tree_a9_0 : ClassId) (t_w_tree_a9_0_0 : Int64) (h0 : Heap) (n0 : Nat) (v : Option Value) (h : Heap) (L : List Loc) : Prop := v = some (.long (if p9_1 = (0 : Int32) then (0 : Int64) else ((0 : Int64) + t_w_tree_a9_0_0))) ∧ Fr n0 L ∧ h = h0
set_option maxRecDepth 65536 in
set_option maxHeartbeats 40000000 in
theorem rm9_2 (l : Launch) (Z : State) (a0 : Array Value) (hw : ∀ d ∈ tables_1, d.before a0 Z = true) (ws : List Jvm.Cond) (a9_0 : Addr) (p9_1 : Int32) (w_tree_a9_0 : Addr) (w_total_a9_0 : Int64) (kc_w_tree_a9_0 : ClassId) (t_w_tree_a9_0_0 : Int64) (h0 : Heap) (n0 : Nat) (Z0 : n0 ≤ h0.size) (hq : p9_1 = (0 : Int32) ∨ p9_1 = (1 : Int32)) (E_a9_0 : Exa Z h0 a9_0 "com/example/motley/motley/CountTree") (F_tree_a9_0 : Fld Z h0 a9_0 "com/example/motley/motley/CountTree" "tree" "[J" (.ref w_tree_a9_0)) (F_size_a9_0 : Fld Z h0 a9_0 "com/example/motley/motley/CountTree" "size" "I" (.int (1 : Int32))) (F_total_a9_0 : Fld Z h0 a9_0 "com/example/motley/motley/CountTree" "total" "J" (.long w_total_a9_0)) (V_w_tree_a9_0 : Arv Z h0 w_tree_a9_0 kc_w_tree_a9_0 .long (1 : Int32) [(.long t_w_tree_a9_0_0)] (.long (0 : Int64))) :
    MetFree l (⟨"com/example/motley/motley/CountTree", "sumBefore", "(I)J"⟩ : MethodName) (head1 (Jvm.Cond.code (⟨"com/example/motley/motley/CountTree", "sumBefore", "(I)J"⟩ : MethodName) prog_14_method_8_code 5 (some .long) :: ws) ({ frames := 0, cells := 0, slots := 0, locals := 0 } : Room)) (fun a U => a = #[(.ref a9_0), (.int p9_1)] ∧ Z.Warmed39 U.vm ∧ U.heap = h0) (fun _ _ _ _ _ => True) (fun _ U o U' => ∃ v L, o = .returned v ∧ Q_rm9_2 Z a9_0 p9_1 w_tree_a9_0 w_total_a9_0 kc_w_tree_a9_0 t_w_tree_a9_0_0 h0 n0 v U'.heap L ∧ FrameEnd U o U' L ({ frames := 0, cells := 0, slots := 0, locals := 0 } : Room).cells ({ frames := 0, cells := 0, slots := 0, locals := 0 } : Room).slots) := by
  refine MetFree.of_bodySF (plainFor_of_name pn_9) hisR ?_
  intro p e s m args below meth c s₁ Bd hml0 hP hK
  obtain ⟨rfl, hZ, hh⟩ := hP
  have hx := Bd.exec
  have hby := Bd.bytes
  have hml : c.maxLocals = 5 := hml0
  have hown : s.vm.findClass "com/example/motley/motley/CountTree" = some m.cls := findClass_of_methodNamed Bd.named
  have hnm := (name_of_methodNamed Bd.named Bd.method).1
  have X0 : Stand p l e ({ frames := 0, cells := 0, slots := 0, locals := 0 } : Room) s m #[(.ref a9_0), (.int p9_1)] below meth c s₁ [] 0 0 := Stand.of_body Bd
  have e0 : s₁.heap = h0 := by rw [← hh, Bd.state]; rfl
  have N0 := Fr.nil n0
  have pre0 : ∀ t, Steps p.tables e below (s₁.setTop (mkF m 0 #[.val (.ref a9_0), .val (.int p9_1), .unset, .unset, .unset] [])) t → Steps p.tables e below (s₁.setTop (entryFrame m #[(.ref a9_0), (.int p9_1)] 5)) t := fun t k => castTop (ef_rm9_2 m a9_0 p9_1) k
  by_cases hb1 : p9_1 = (0 : Int32)
  · have own_t1 : True := trivial
    obtain ⟨fs, hr, hrun, hended, hW, hsame⟩ := X0.leave (v := some (.long (0 : Int64))) (fun h => by rw [Bd.returns] at h; cases h)
    refine ⟨_, _, pre0 _ ?_, hrun, hended, _, _, rfl, ?_, ⟨_, rfl⟩, hW, hsame.mono (by decide) (by decide)⟩
    · show Steps p.tables e below (s₁.setTop (mkF m 0 #[.val (.ref a9_0), .val (.int p9_1), .unset, .unset, .unset] [])) _
      rw [hb1]
      show Steps p.tables e below (s₁.setTop (mkF m 0 #[.val (.ref a9_0), .val (.int (0 : Int32)), .unset, .unset, .unset] [])) _
      refine XS.lconst X0.here hx rfl (hb hby d9_0) ?_
      refine XS.lstoreN X0.here hx rfl (hb hby d9_1) rfl (l' := #[.val (.ref a9_0), .val (.int (0 : Int32)), .val (.long (0 : Int64)), .second, .unset]) rfl ?_
      refine XS.iloadN X0.here hx rfl (hb hby d9_2) rfl ?_
      show Steps p.tables e below (s₁.setTop (mkF m 3 #[.val (.ref a9_0), .val (.int (0 : Int32)), .val (.long (0 : Int64)), .second, .unset] [(.int (0 : Int32))])) _
      refine XS.istore X0.here hx rfl (hb hby d9_3) rfl (l' := #[.val (.ref a9_0), .val (.int (0 : Int32)), .val (.long (0 : Int64)), .second, .val (.int (0 : Int32))]) rfl ?_
      refine XS.iload X0.here hx rfl (hb hby d9_5) rfl ?_
      show Steps p.tables e below (s₁.setTop (mkF m 7 #[.val (.ref a9_0), .val (.int (0 : Int32)), .val (.long (0 : Int64)), .second, .val (.int (0 : Int32))] [(.int (0 : Int32))])) _
      refine XS.ifYes X0.here hx rfl (pc0 := 7) (pc' := 36) rfl (hb hby d9_7) rfl ((if0 _ _).trans (flt (by decide : ¬ ((0 : Int32) < (0 : Int32)))).2.2.2) (by decide) (by decide) ?_
      refine XS.lloadN X0.here hx rfl (hb hby d9_36) rfl ?_
      show Steps p.tables e below (s₁.setTop (mkF m 37 #[.val (.ref a9_0), .val (.int (0 : Int32)), .val (.long (0 : Int64)), .second, .val (.int (0 : Int32))] [(.long (0 : Int64))])) _
      exact own_retJ X0 hx Bd.returns (hb hby d9_37) hr
    · show Q_rm9_2 Z a9_0 p9_1 w_tree_a9_0 w_total_a9_0 kc_w_tree_a9_0 t_w_tree_a9_0_0 h0 n0 _ s₁.heap _
      rw [e0]
      exact ⟨(congrArg (fun z => some (Value.long z)) (if_pos hb1).symm), N0, rfl⟩
  · have own_u1 : True := trivial
    have hl2 : p9_1 = (1 : Int32) := (hq.resolve_left hb1)
    obtain ⟨T3, X3, e3, st3⟩ := getF X0 hx hZ hown (host := "") (Or.inl (ow11 hw)) Via.refl e0 F_tree_a9_0 (g := (mkF m 12 #[.val (.ref a9_0), .val (.int (1 : Int32)), .val (.long (0 : Int64)), .second, .val (.int (1 : Int32))] [(.ref a9_0), (.long (0 : Int64))])) rfl rfl (hb hby d9_12)
    obtain ⟨cl4, Ar4, qk4, Sz4, Nz4, Hh4, Gf4⟩ := id V_w_tree_a9_0
    obtain ⟨fs, hr, hrun, hended, hW, hsame⟩ := X3.leave (v := some (.long ((0 : Int64) + t_w_tree_a9_0_0))) (fun h => by rw [Bd.returns] at h; cases h)
    refine ⟨_, _, pre0 _ ?_, hrun, hended, _, _, rfl, ?_, ⟨_, rfl⟩, hW, hsame.mono (by decide) (by decide)⟩
    · show Steps p.tables e below (s₁.setTop (mkF m 0 #[.val (.ref a9_0), .val (.int p9_1), .unset, .unset, .unset] [])) _
      rw [hl2]
      show Steps p.tables e below (s₁.setTop (mkF m 0 #[.val (.ref a9_0), .val (.int (1 : Int32)), .unset, .unset, .unset] [])) _
      refine XS.lconst X0.here hx rfl (hb hby d9_0) ?_
      refine XS.lstoreN X0.here hx rfl (hb hby d9_1) rfl (l' := #[.val (.ref a9_0), .val (.int (1 : Int32)), .val (.long (0 : Int64)), .second, .unset]) rfl ?_
      refine XS.iloadN X0.here hx rfl (hb hby d9_2) rfl ?_
      show Steps p.tables e below (s₁.setTop (mkF m 3 #[.val (.ref a9_0), .val (.int (1 : Int32)), .val (.long (0 : Int64)), .second, .unset] [(.int (1 : Int32))])) _
      refine XS.istore X0.here hx rfl (hb hby d9_3) rfl (l' := #[.val (.ref a9_0), .val (.int (1 : Int32)), .val (.long (0 : Int64)), .second, .val (.int (1 : Int32))]) rfl ?_
      refine XS.iload X0.here hx rfl (hb hby d9_5) rfl ?_
      show Steps p.tables e below (s₁.setTop (mkF m 7 #[.val (.ref a9_0), .val (.int (1 : Int32)), .val (.long (0 : Int64)), .second, .val (.int (1 : Int32))] [(.int (1 : Int32))])) _
      refine XS.ifNo X0.here hx rfl (hb hby d9_7) rfl ((if0 _ _).trans (tlt (by decide : (0 : Int32) < (1 : Int32))).2.2.2) ?_
      refine XS.lloadN X0.here hx rfl (hb hby d9_10) rfl ?_
      refine XS.aloadN X0.here hx rfl (hb hby d9_11) rfl rfl ?_
      show Steps p.tables e below (s₁.setTop (mkF m 12 #[.val (.ref a9_0), .val (.int (1 : Int32)), .val (.long (0 : Int64)), .second, .val (.int (1 : Int32))] [(.ref a9_0), (.long (0 : Int64))])) _
      refine st3 _ ?_
      refine XS.iload X3.here hx rfl (hb hby d9_15) rfl ?_
      refine XS.iconst X3.here hx rfl (hb hby d9_17) ?_
      show Steps p.tables e below (T3.setTop (mkF m 18 #[.val (.ref a9_0), .val (.int (1 : Int32)), .val (.long (0 : Int64)), .second, .val (.int (1 : Int32))] [(.int (1 : Int32)), (.int (1 : Int32)), (.ref w_tree_a9_0), (.long (0 : Int64))])) _
      refine XS.isub X3.here hx rfl (hb hby d9_18) rfl ?_
      refine X3.laload hx (j := (0 : Int32)) (v := (.long t_w_tree_a9_0_0)) (by rw [e3]; exact Ar4.1) (State.isArrayOf_alike hZ.alike Ar4.2.1) Ar4.2.2 (inb_of Sz4 ⟨by decide, by decide⟩) (Hh4.at (inb_of Sz4 ⟨by decide, by decide⟩) rfl) (g := (mkF m 19 #[.val (.ref a9_0), .val (.int (1 : Int32)), .val (.long (0 : Int64)), .second, .val (.int (1 : Int32))] [(.int (0 : Int32)), (.ref w_tree_a9_0), (.long (0 : Int64))])) rfl rfl (hb hby d9_19) _ ?_
      refine XS.ladd X3.here hx rfl (hb hby d9_20) rfl ?_
      show Steps p.tables e below (T3.setTop (mkF m 21 #[.val (.ref a9_0), .val (.int (1 : Int32)), .val (.long (0 : Int64)), .second, .val (.int (1 : Int32))] [(.long ((0 : Int64) + t_w_tree_a9_0_0))])) _
      refine XS.lstoreN X3.here hx rfl (hb hby d9_21) rfl (l' := #[.val (.ref a9_0), .val (.int (1 : Int32)), .val (.long ((0 : Int64) + t_w_tree_a9_0_0)), .second, .val (.int (1 : Int32))]) rfl ?_
      refine XS.iload X3.here hx rfl (hb hby d9_22) rfl ?_
      refine XS.iload X3.here hx rfl (hb hby d9_24) rfl ?_
      show Steps p.tables e below (T3.setTop (mkF m 26 #[.val (.ref a9_0), .val (.int (1 : Int32)), .val (.long ((0 : Int64) + t_w_tree_a9_0_0)), .second, .val (.int (1 : Int32))] [(.int (1 : Int32)), (.int (1 : Int32))])) _
      refine XS.iload X3.here hx rfl (hb hby d9_26) rfl ?_
      refine XS.ineg X3.here hx rfl (hb hby d9_28) rfl ?_
      refine XS.iand X3.here hx rfl (hb hby d9_29) rfl ?_
      show Steps p.tables e below (T3.setTop (mkF m 30 #[.val (.ref a9_0), .val (.int (1 : Int32)), .val (.long ((0 : Int64) + t_w_tree_a9_0_0)), .second, .val (.int (1 : Int32))] [(.int (1 : Int32)), (.int (1 : Int32))])) _
      refine XS.isub X3.here hx rfl (hb hby d9_30) rfl ?_
      refine XS.istore X3.here hx rfl (hb hby d9_31) rfl (l' := #[.val (.ref a9_0), .val (.int (1 : Int32)), .val (.long ((0 : Int64) + t_w_tree_a9_0_0)), .second, .val (.int (0 : Int32))]) rfl ?_
      refine XS.goto X3.here hx rfl (pc0 := 33) (pc' := 5) rfl (hb hby d9_33) (by decide) (by decide) ?_
      show Steps p.tables e below (T3.setTop (mkF m 5 #[.val (.ref a9_0), .val (.int (1 : Int32)), .val (.long ((0 : Int64) + t_w_tree_a9_0_0)), .second, .val (.int (0 : Int32))] [])) _
      refine XS.iload X3.here hx rfl (hb hby d9_5) rfl ?_
      show Steps p.tables e below (T3.setTop (mkF m 7 #[.val (.ref a9_0), .val (.int (1 : Int32)), .val (.long ((0 : Int64) + t_w_tree_a9_0_0)), .second, .val (.int (0 : Int32))] [(.int (0 : Int32))])) _
      refine XS.ifYes X3.here hx rfl (pc0 := 7) (pc' := 36) rfl (hb hby d9_7) rfl ((if0 _ _).trans (flt (by decide : ¬ ((0 : Int32) < (0 : Int32)))).2.2.2) (by decide) (by decide) ?_
      refine XS.lloadN X3.here hx rfl (hb hby d9_36) rfl ?_
      show Steps p.tables e below (T3.setTop (mkF m 37 #[.val (.ref a9_0), .val (.int (1 : Int32)), .val (.long ((0 : Int64) + t_w_tree_a9_0_0)), .second, .val (.int (0 : Int32))] [(.long ((0 : Int64) + t_w_tree_a9_0_0))])) _
      exact own_retJ X3 hx Bd.returns (hb hby d9_37) hr
    · show Q_rm9_2 Z a9_0 p9_1 w_tree_a9_0 w_total_a9_0 kc_w_tree_a9_0 t_w_tree_a9_0_0 h0 n0 _ T3.heap _
      rw [e3]
      exact ⟨(congrArg (fun z => some (Value.long z)) (if_neg hb1).symm), N0, rfl⟩
theorem own_fin2 (q0_0 : Int64) (q0_1 : Int64) (q0_2 : Int64) (q0_3 : Int64) (q0_4 : Int64) (p0_5 : Int32) (x2 : Int64) (hx2 : x2 = (q0_0 &&& (9223372036854775807 : Int64))) (x4 : Int64) (hx4 : x4 = (q0_1 &&& (9223372036854775807 : Int64))) (x6 : Int64) (hx6 : x6 = (q0_2 &&& (9223372036854775807 : Int64))) (x8 : Int64) (hx8 : x8 = (q0_3 &&& (9223372036854775807 : Int64))) (x10 : Int64) (hx10 : x10 = (q0_4 &&& (9223372036854775807 : Int64))) (x12 : Int32) (hx12 : x12 = ((p0_5 &&& (7 : Int32)) % (6 : Int32))) (x64 : Int32) (hx64 : x64 = ((((p0_5.toUInt32 >>> ((3 : Int32) &&& 31).toUInt32).toInt32) &&& (7 : Int32)) % (2 : Int32))) (y70 : Int64) (hy70 : y70 = ((0 : Int64) + x2)) (v75 : Int64) (hv75 : v75 = (if (0 : Int32) < x64 then ((0 : Int64) + x2) else (0 : Int64))) (v81 : Int64) (hv81 : v81 = (if (1 : Int32) < x64 then (v75 + x4) else v75)) (v87 : Int64) (hv87 : v87 = (if (2 : Int32) < x64 then (v81 + x6) else v81)) (v93 : Int64) (hv93 : v93 = (if (3 : Int32) < x64 then (v87 + x8) else v87)) (v99 : Int64) (hv99 : v99 = (if (4 : Int32) < x64 then (v93 + x10) else v93)) (x103 : Int64) (hx103 : x103 = (if x64 = (0 : Int32) then (0 : Int64) else ((0 : Int64) + y70))) (v106 : Int32) (hv106 : v106 = (if x103 = v99 then (1 : Int32) else (0 : Int32))) (hc16 : x12 = (1 : Int32)) : v106 = (1 : Int32) := by
  have hp := own_p2 ((p0_5.toUInt32 >>> ((3 : Int32) &&& 31).toUInt32).toInt32) x64 hx64
  clear hx64
  have e : x103 = v99 := by
    clear hv106
    simp only [hy70, hv75, hv81, hv87, hv93, hv99, hx103]
    rcases hp with rfl | rfl <;> first | (simp +decide only [↓reduceIte] <;> first | rfl | grind) | (simp +decide <;> grind) | grind
  rw [hv106, if_pos e]
theorem ef_rm5_2 (m : MethodId)  : entryFrame m #[(.int (2 : Int32)), (.int (2 : Int32))] 2 = mkF m 0 #[.val (.int (2 : Int32)), .val (.int (2 : Int32))] [] := by first | (simp [entryFrame, mkF, argsToLocals, Value.category]; done) | rfl
def Q_rm5_2 (Z : State)  (h0 : Heap) (n0 : Nat) (v : Option Value) (h : Heap) (L : List Loc) : Prop := v = some (.int (2 : Int32)) ∧ Fr n0 L ∧ h = h0
set_option maxRecDepth 65536 in
set_option maxHeartbeats 40000000 in
theorem rm5_2 (l : Launch) (Z : State) (a0 : Array Value) (hw : ∀ d ∈ tables_1, d.before a0 Z = true) (ws : List Jvm.Cond)  (h0 : Heap) (n0 : Nat) (Z0 : n0 ≤ h0.size) :
    MetFree l (⟨"java/lang/Math", "max", "(II)I"⟩ : MethodName) (head1 (Jvm.Cond.code (⟨"java/lang/Math", "max", "(II)I"⟩ : MethodName) jdk_29_method_65_code 2 (some .int) :: ws) ({ frames := 0, cells := 0, slots := 0, locals := 0 } : Room)) (fun a U => a = #[(.int (2 : Int32)), (.int (2 : Int32))] ∧ Z.Warmed39 U.vm ∧ U.heap = h0) (fun _ _ _ _ _ => True) (fun _ U o U' => ∃ v L, o = .returned v ∧ Q_rm5_2 Z  h0 n0 v U'.heap L ∧ FrameEnd U o U' L ({ frames := 0, cells := 0, slots := 0, locals := 0 } : Room).cells ({ frames := 0, cells := 0, slots := 0, locals := 0 } : Room).slots) := by
  refine MetFree.of_bodySF (Jvm.Free.JP.mathPlain rfl (by decide +kernel)) hisR ?_
  intro p e s m args below meth c s₁ Bd hml0 hP hK
  obtain ⟨rfl, hZ, hh⟩ := hP
  have hx := Bd.exec
  have hby := Bd.bytes
  have hml : c.maxLocals = 2 := hml0
  have hown : s.vm.findClass "java/lang/Math" = some m.cls := findClass_of_methodNamed Bd.named
  have hnm := (name_of_methodNamed Bd.named Bd.method).1
  have X0 : Stand p l e ({ frames := 0, cells := 0, slots := 0, locals := 0 } : Room) s m #[(.int (2 : Int32)), (.int (2 : Int32))] below meth c s₁ [] 0 0 := Stand.of_body Bd
  have e0 : s₁.heap = h0 := by rw [← hh, Bd.state]; rfl
  have N0 := Fr.nil n0
  have pre0 : ∀ t, Steps p.tables e below (s₁.setTop (mkF m 0 #[.val (.int (2 : Int32)), .val (.int (2 : Int32))] [])) t → Steps p.tables e below (s₁.setTop (entryFrame m #[(.int (2 : Int32)), (.int (2 : Int32))] 2)) t := fun t k => castTop (ef_rm5_2 m ) k
  obtain ⟨fs, hr, hrun, hended, hW, hsame⟩ := X0.leave (v := some (.int (2 : Int32))) (fun h => by rw [Bd.returns] at h; cases h)
  refine ⟨_, _, pre0 _ ?_, hrun, hended, _, _, rfl, ?_, ⟨_, rfl⟩, hW, hsame.mono (by decide) (by decide)⟩
  · show Steps p.tables e below (s₁.setTop (mkF m 0 #[.val (.int (2 : Int32)), .val (.int (2 : Int32))] [])) _
    refine XS.iloadN X0.here hx rfl (hb hby d5_0) rfl ?_
    refine XS.iloadN X0.here hx rfl (hb hby d5_1) rfl ?_
    show Steps p.tables e below (s₁.setTop (mkF m 2 #[.val (.int (2 : Int32)), .val (.int (2 : Int32))] [(.int (2 : Int32)), (.int (2 : Int32))])) _
    refine XS.icmpNo X0.here hx rfl (hb hby d5_2) rfl (flt (by decide : ¬ ((2 : Int32) < (2 : Int32)))).1 ?_
    refine XS.iloadN X0.here hx rfl (hb hby d5_5) rfl ?_
    refine XS.goto X0.here hx rfl (pc0 := 6) (pc' := 10) rfl (hb hby d5_6) (by decide) (by decide) ?_
    show Steps p.tables e below (s₁.setTop (mkF m 10 #[.val (.int (2 : Int32)), .val (.int (2 : Int32))] [(.int (2 : Int32))])) _
    exact retI X0 hx Bd.returns (hb hby d5_10) hr
  · show Q_rm5_2 Z  h0 n0 _ s₁.heap _
    rw [e0]
    exact ⟨rfl, N0, rfl⟩
theorem ef_rm7_2 (m : MethodId)  : entryFrame m #[(.int (1 : Int32)), (.int (2 : Int32))] 2 = mkF m 0 #[.val (.int (1 : Int32)), .val (.int (2 : Int32))] [] := by first | (simp [entryFrame, mkF, argsToLocals, Value.category]; done) | rfl
def Q_rm7_2 (Z : State)  (h0 : Heap) (n0 : Nat) (v : Option Value) (h : Heap) (L : List Loc) : Prop := v = some (.int (1 : Int32)) ∧ Fr n0 L ∧ h = h0
set_option maxRecDepth 65536 in
set_option maxHeartbeats 40000000 in
theorem rm7_2 (l : Launch) (Z : State) (a0 : Array Value) (hw : ∀ d ∈ tables_1, d.before a0 Z = true) (ws : List Jvm.Cond)  (h0 : Heap) (n0 : Nat) (Z0 : n0 ≤ h0.size) :
    MetFree l (⟨"java/lang/Math", "min", "(II)I"⟩ : MethodName) (head1 (Jvm.Cond.code (⟨"java/lang/Math", "min", "(II)I"⟩ : MethodName) jdk_29_method_69_code 2 (some .int) :: ws) ({ frames := 0, cells := 0, slots := 0, locals := 0 } : Room)) (fun a U => a = #[(.int (1 : Int32)), (.int (2 : Int32))] ∧ Z.Warmed39 U.vm ∧ U.heap = h0) (fun _ _ _ _ _ => True) (fun _ U o U' => ∃ v L, o = .returned v ∧ Q_rm7_2 Z  h0 n0 v U'.heap L ∧ FrameEnd U o U' L ({ frames := 0, cells := 0, slots := 0, locals := 0 } : Room).cells ({ frames := 0, cells := 0, slots := 0, locals := 0 } : Room).slots) := by
  refine MetFree.of_bodySF (Jvm.Free.JP.mathPlain rfl (by decide +kernel)) hisR ?_
  intro p e s m args below meth c s₁ Bd hml0 hP hK
  obtain ⟨rfl, hZ, hh⟩ := hP
  have hx := Bd.exec
  have hby := Bd.bytes
  have hml : c.maxLocals = 2 := hml0
  have hown : s.vm.findClass "java/lang/Math" = some m.cls := findClass_of_methodNamed Bd.named
  have hnm := (name_of_methodNamed Bd.named Bd.method).1
  have X0 : Stand p l e ({ frames := 0, cells := 0, slots := 0, locals := 0 } : Room) s m #[(.int (1 : Int32)), (.int (2 : Int32))] below meth c s₁ [] 0 0 := Stand.of_body Bd
  have e0 : s₁.heap = h0 := by rw [← hh, Bd.state]; rfl
  have N0 := Fr.nil n0
  have pre0 : ∀ t, Steps p.tables e below (s₁.setTop (mkF m 0 #[.val (.int (1 : Int32)), .val (.int (2 : Int32))] [])) t → Steps p.tables e below (s₁.setTop (entryFrame m #[(.int (1 : Int32)), (.int (2 : Int32))] 2)) t := fun t k => castTop (ef_rm7_2 m ) k
  obtain ⟨fs, hr, hrun, hended, hW, hsame⟩ := X0.leave (v := some (.int (1 : Int32))) (fun h => by rw [Bd.returns] at h; cases h)
  refine ⟨_, _, pre0 _ ?_, hrun, hended, _, _, rfl, ?_, ⟨_, rfl⟩, hW, hsame.mono (by decide) (by decide)⟩
  · show Steps p.tables e below (s₁.setTop (mkF m 0 #[.val (.int (1 : Int32)), .val (.int (2 : Int32))] [])) _
    refine XS.iloadN X0.here hx rfl (hb hby d7_0) rfl ?_
    refine XS.iloadN X0.here hx rfl (hb hby d7_1) rfl ?_
    show Steps p.tables e below (s₁.setTop (mkF m 2 #[.val (.int (1 : Int32)), .val (.int (2 : Int32))] [(.int (2 : Int32)), (.int (1 : Int32))])) _
    refine XS.icmpNo X0.here hx rfl (hb hby d7_2) rfl (flt (by decide : ¬ ((2 : Int32) < (1 : Int32)))).2.2.1 ?_
    refine XS.iloadN X0.here hx rfl (hb hby d7_5) rfl ?_
    refine XS.goto X0.here hx rfl (pc0 := 6) (pc' := 10) rfl (hb hby d7_6) (by decide) (by decide) ?_
    show Steps p.tables e below (s₁.setTop (mkF m 10 #[.val (.int (1 : Int32)), .val (.int (2 : Int32))] [(.int (1 : Int32))])) _
    exact retI X0 hx Bd.returns (hb hby d7_10) hr
  · show Q_rm7_2 Z  h0 n0 _ s₁.heap _
    rw [e0]
    exact ⟨rfl, N0, rfl⟩
theorem ef_rm6_2 (m : MethodId) (y0 : Addr) : entryFrame m #[(.ref y0), (.int (2 : Int32))] 3 = mkF m 0 #[.val (.ref y0), .val (.int (2 : Int32)), .unset] [] := by first | (simp [entryFrame, mkF, argsToLocals, Value.category]; done) | rfl
def Q_rm6_2 (Z : State) (a6_0 : Addr) (kc_a6_0 : ClassId) (t_a6_0_0 : Int64) (h0 : Heap) (n0 : Nat) (v : Option Value) (h : Heap) (L : List Loc) : Prop := ∃ bx6_0 : Addr, ∃ kx6_0 : ClassId, v = some (.ref bx6_0) ∧ Fr n0 L ∧ Keep h0 h [] ∧ h0.size ≤ bx6_0 ∧ Arv Z h bx6_0 kx6_0 .long (2 : Int32) [(.long t_a6_0_0), (.long (0 : Int64))] (.long (0 : Int64))
set_option maxRecDepth 65536 in
set_option maxHeartbeats 40000000 in
theorem rm6_2 (l : Launch) (Z : State) (a0 : Array Value) (hw : ∀ d ∈ tables_1, d.before a0 Z = true) (ws : List Jvm.Cond) (a6_0 : Addr) (kc_a6_0 : ClassId) (t_a6_0_0 : Int64) (h0 : Heap) (n0 : Nat) (Z0 : n0 ≤ h0.size) (V_a6_0 : Arv Z h0 a6_0 kc_a6_0 .long (1 : Int32) [(.long t_a6_0_0)] (.long (0 : Int64))) :
    MetFree l (⟨"java/util/Arrays", "copyOf", "([JI)[J"⟩ : MethodName) (head1 (Jvm.Cond.code (⟨"java/util/Arrays", "copyOf", "([JI)[J"⟩ : MethodName) jdk_65_method_124_code 3 (some (.array .long)) :: ws) ({ frames := 1, cells := 1, slots := 2, locals := 18 } : Room)) (fun a U => a = #[(.ref a6_0), (.int (2 : Int32))] ∧ Z.Warmed39 U.vm ∧ U.heap = h0) (fun _ _ _ _ _ => True) (fun _ U o U' => ∃ v L, o = .returned v ∧ Q_rm6_2 Z a6_0 kc_a6_0 t_a6_0_0 h0 n0 v U'.heap L ∧ FrameEnd U o U' L ({ frames := 1, cells := 1, slots := 2, locals := 18 } : Room).cells ({ frames := 1, cells := 1, slots := 2, locals := 18 } : Room).slots) := by
  refine MetFree.of_bodySF (plainFor_of_name pn_6) hisR ?_
  intro p e s m args below meth c s₁ Bd hml0 hP hK
  obtain ⟨rfl, hZ, hh⟩ := hP
  have hx := Bd.exec
  have hby := Bd.bytes
  have hml : c.maxLocals = 3 := hml0
  have hown : s.vm.findClass "java/util/Arrays" = some m.cls := findClass_of_methodNamed Bd.named
  have hnm := (name_of_methodNamed Bd.named Bd.method).1
  have X0 : Stand p l e ({ frames := 1, cells := 1, slots := 2, locals := 18 } : Room) s m #[(.ref a6_0), (.int (2 : Int32))] below meth c s₁ [] 0 0 := Stand.of_body Bd
  have e0 : s₁.heap = h0 := by rw [← hh, Bd.state]; rfl
  have N0 := Fr.nil n0
  have pre0 : ∀ t, Steps p.tables e below (s₁.setTop (mkF m 0 #[.val (.ref a6_0), .val (.int (2 : Int32)), .unset] [])) t → Steps p.tables e below (s₁.setTop (entryFrame m #[(.ref a6_0), (.int (2 : Int32))] 3)) t := fun t k => castTop (ef_rm6_2 m a6_0) k
  obtain ⟨cl1, Ar1, qk1, Sz1, Nz1, Hh1, Gf1⟩ := id V_a6_0
  obtain ⟨T2, h2, k2, X2, e2, E2, A2, st2⟩ := newP X0 hx hZ (aty := .long) (ow10 hw) e0 (g := (mkF m 15 #[.val (.ref a6_0), .val (.int (2 : Int32)), .unset] [(.int (2 : Int32))])) rfl (hb hby d6_15) rfl (by decide) (cap := 2) (by decide) (by decide) (by decide) (by decide)
  obtain ⟨b2, g2⟩ : ∃ z, z = h0.size := ⟨_, rfl⟩
  rw [← g2] at A2 st2
  have ne_a6_0_b2 : a6_0 ≠ b2 := Nat.ne_of_lt (Nat.lt_of_lt_of_le V_a6_0.lt (Nat.le_of_eq g2.symm))
  have V_b2 : Arv Z h2 b2 k2 .long (2 : Int32) [(.long (0 : Int64)), (.long (0 : Int64))] (.long (0 : Int64)) := (Arv.new A2 (by decide)).pad (pad_rep [] (.long (0 : Int64)) 2)
  have g_b2 : n0 ≤ b2 := Nat.le_trans Z0 (Nat.le_of_eq g2.symm)
  have sz_b2 : h0.size ≤ b2 := Nat.le_trans (Nat.le_refl _) (Nat.le_of_eq g2.symm)
  have K2 : Keep h0 h2 [] := (Keep.refl h0 []).ext E2
  have Z2 : n0 ≤ h2.size := Nat.le_trans Z0 K2.1
  have f3 := (V_a6_0.ext E2)
  obtain ⟨cl4, Ar4, qk4, Sz4, Nz4, Hh4, Gf4⟩ := id f3
  obtain ⟨_, _, ⟨T5, L5, k5, n5⟩, -, X5, ⟨Lc5, hQ5, l5, y5, z5⟩, st5⟩ := Jvm.LawKit.callS X2 hx (y := (⟨"java/lang/Math", "min", "(II)I"⟩ : MethodName)) hown (mvT hZ (ow33 hw)) (mvT hZ (ow34 hw)) (mvT hZ (ow27 hw)) (mvT hZ (ow35 hw)) (by decide) (backOf (W := 4) (rm7_2 l Z a0 hw []  h2 n0 Z2 ) hZ (ow35 hw) (ow27 hw) (by decide) (by decide)) (g := (mkF m 25 #[.val (.ref a6_0), .val (.int (2 : Int32)), .val (.ref b2)] [(.int (2 : Int32)), (.int (1 : Int32)), (.int (0 : Int32)), (.ref b2), (.int (0 : Int32)), (.ref a6_0)])) rfl (by rw [hml]; rfl) (argsL := [(.int (1 : Int32)), (.int (2 : Int32))]) (rest := [(.int (0 : Int32)), (.ref b2), (.int (0 : Int32)), (.ref a6_0)]) (lenOf pd__II_I rfl) rfl (by show 2 * 0 + _ ≤ _; exact Nat.le_of_eq rfl) (hb hby d6_25) (fun _ _ => ⟨rfl, e2, (by decide : 1 + 0 ≤ _), (by decide : 2 + 0 ≤ _)⟩)
  dsimp only [Pt.U, Pt.locs, Pt.cells, Pt.slots] at X5 l5 y5 z5 st5 hQ5
  subst l5 y5 z5
  obtain ⟨rfl, Nq5, e5⟩ := hQ5
  have N5 := Fr.app N0 Nq5
  obtain ⟨T6, h6, Lo6, X6, e6, N6, Kc6, V6, st6⟩ := cpA X5 hx hZ hown (ow36 hw) (ow39 hw) (ow37 hw) (ow38 hw) e5 f3 V_b2 (Or.inl ⟨rfl, rfl⟩) (sp := (0 : Int32)) (dp := (0 : Int32)) (nn := (1 : Int32)) (us := [(.long t_a6_0_0)]) (by decide) (by decide) (by decide) (by decide) (by decide) rfl (Nat.le_of_ble_eq_true rfl) N5 g_b2 (g := (mkF m 28 #[.val (.ref a6_0), .val (.int (2 : Int32)), .val (.ref b2)] [(.int (1 : Int32)), (.int (0 : Int32)), (.ref b2), (.int (0 : Int32)), (.ref a6_0)])) rfl (by rw [hml]; rfl) rfl (hb hby d6_28) (by decide) (W := 0) (by show 2 * 0 + _ ≤ _; exact Nat.le_of_eq rfl) (by decide)
  have V6 : Arv Z h6 b2 k2 .long (2 : Int32) [(.long t_a6_0_0), (.long (0 : Int64))] (.long (0 : Int64)) := V6
  have K6 : Keep h0 h6 [] := Keep.trans K2 Kc6 (allS (P := fun x => x ∈ ([] : List Addr) ∨ h0.size ≤ x) (Or.inr sz_b2) all0)
  have Z6 : n0 ≤ h6.size := Nat.le_trans Z0 K6.1
  obtain ⟨fs, hr, hrun, hended, hW, hsame⟩ := X6.leave (v := some (.ref b2)) (fun h => by rw [Bd.returns] at h; cases h)
  refine ⟨_, _, pre0 _ ?_, hrun, hended, _, _, rfl, ?_, ⟨_, rfl⟩, hW, hsame.mono (by decide) (by decide)⟩
  · show Steps p.tables e below (s₁.setTop (mkF m 0 #[.val (.ref a6_0), .val (.int (2 : Int32)), .unset] [])) _
    refine XS.iloadN X0.here hx rfl (hb hby d6_0) rfl ?_
    refine XS.aloadN X0.here hx rfl (hb hby d6_1) rfl rfl ?_
    show Steps p.tables e below (s₁.setTop (mkF m 2 #[.val (.ref a6_0), .val (.int (2 : Int32)), .unset] [(.ref a6_0), (.int (2 : Int32))])) _
    refine X0.arraylength hx (cell := cl1) (by rw [e0]; exact Ar1.1) (State.isArrayOf_alike hZ.alike Ar1.2.1) (g := (mkF m 2 #[.val (.ref a6_0), .val (.int (2 : Int32)), .unset] [(.ref a6_0), (.int (2 : Int32))])) rfl (rest := [(.int (2 : Int32))]) rfl (hb hby d6_2) _ ?_
    rw [len_of Sz1 Nz1]
    show Steps p.tables e below (s₁.setTop (mkF m 3 #[.val (.ref a6_0), .val (.int (2 : Int32)), .unset] [(.int (1 : Int32)), (.int (2 : Int32))])) _
    refine XS.icmpYes X0.here hx rfl (pc0 := 3) (pc' := 14) rfl (hb hby d6_3) rfl (feq (by decide : ¬ ((2 : Int32) = (1 : Int32)))).2 (by decide) (by decide) ?_
    refine XS.iloadN X0.here hx rfl (hb hby d6_14) rfl ?_
    refine st2 _ ?_
    show Steps p.tables e below (T2.setTop (mkF m 17 #[.val (.ref a6_0), .val (.int (2 : Int32)), .unset] [(.ref b2)])) _
    refine XS.astoreN X2.here hx rfl (hb hby d6_17) rfl rfl (l' := #[.val (.ref a6_0), .val (.int (2 : Int32)), .val (.ref b2)]) rfl ?_
    refine XS.aloadN X2.here hx rfl (hb hby d6_18) rfl rfl ?_
    refine XS.iconst X2.here hx rfl (hb hby d6_19) ?_
    show Steps p.tables e below (T2.setTop (mkF m 20 #[.val (.ref a6_0), .val (.int (2 : Int32)), .val (.ref b2)] [(.int (0 : Int32)), (.ref a6_0)])) _
    refine XS.aloadN X2.here hx rfl (hb hby d6_20) rfl rfl ?_
    refine XS.iconst X2.here hx rfl (hb hby d6_21) ?_
    refine XS.aloadN X2.here hx rfl (hb hby d6_22) rfl rfl ?_
    show Steps p.tables e below (T2.setTop (mkF m 23 #[.val (.ref a6_0), .val (.int (2 : Int32)), .val (.ref b2)] [(.ref a6_0), (.int (0 : Int32)), (.ref b2), (.int (0 : Int32)), (.ref a6_0)])) _
    refine X2.arraylength hx (cell := cl4) (by rw [e2]; exact Ar4.1) (State.isArrayOf_alike hZ.alike Ar4.2.1) (g := (mkF m 23 #[.val (.ref a6_0), .val (.int (2 : Int32)), .val (.ref b2)] [(.ref a6_0), (.int (0 : Int32)), (.ref b2), (.int (0 : Int32)), (.ref a6_0)])) rfl (rest := [(.int (0 : Int32)), (.ref b2), (.int (0 : Int32)), (.ref a6_0)]) rfl (hb hby d6_23) _ ?_
    rw [len_of Sz4 Nz4]
    refine XS.iloadN X2.here hx rfl (hb hby d6_24) rfl ?_
    show Steps p.tables e below (T2.setTop (mkF m 25 #[.val (.ref a6_0), .val (.int (2 : Int32)), .val (.ref b2)] [(.int (2 : Int32)), (.int (1 : Int32)), (.int (0 : Int32)), (.ref b2), (.int (0 : Int32)), (.ref a6_0)])) _
    refine st5 _ ?_
    refine st6 _ ?_
    refine XS.aloadN X6.here hx rfl (hb hby d6_31) rfl rfl ?_
    show Steps p.tables e below (T6.setTop (mkF m 32 #[.val (.ref a6_0), .val (.int (2 : Int32)), .val (.ref b2)] [(.ref b2)])) _
    jvm_step X6.here [X6.here.top, hx, (hb hby d6_32), X6.method', Bd.returns, Value.isRef, FieldType.isReference]
    first | (intro acts; rw [hr _ acts rfl rfl rfl]) | rw [hr _ _ rfl rfl rfl]
    exact Steps.refl _
  · show Q_rm6_2 Z a6_0 kc_a6_0 t_a6_0_0 h0 n0 _ T6.heap _
    rw [e6]
    exact ⟨b2, k2, rfl, N6, K6, sz_b2, V6⟩
theorem ef_rm9_3 (m : MethodId) (y0 : Addr) : entryFrame m #[(.ref y0), (.int (0 : Int32))] 5 = mkF m 0 #[.val (.ref y0), .val (.int (0 : Int32)), .unset, .unset, .unset] [] := by first | (simp [entryFrame, mkF, argsToLocals, Value.category]; done) | rfl
def Q_rm9_3 (Z : State) (a9_0 : Addr) (w_tree_a9_0 : Addr) (w_total_a9_0 : Int64) (kc_w_tree_a9_0 : ClassId) (t_w_tree_a9_0_0 : Int64) (h0 : Heap) (n0 : Nat) (v : Option Value) (h : Heap) (L : List Loc) : Prop := v = some (.long (0 : Int64)) ∧ Fr n0 L ∧ h = h0
set_option maxRecDepth 65536 in
set_option maxHeartbeats 40000000 in
theorem rm9_3 (l : Launch) (Z : State) (a0 : Array Value) (hw : ∀ d ∈ tables_1, d.before a0 Z = true) (ws : List Jvm.Cond) (a9_0 : Addr) (w_tree_a9_0 : Addr) (w_total_a9_0 : Int64) (kc_w_tree_a9_0 : ClassId) (t_w_tree_a9_0_0 : Int64) (h0 : Heap) (n0 : Nat) (Z0 : n0 ≤ h0.size) (E_a9_0 : Exa Z h0 a9_0 "com/example/motley/motley/CountTree") (F_tree_a9_0 : Fld Z h0 a9_0 "com/example/motley/motley/CountTree" "tree" "[J" (.ref w_tree_a9_0)) (F_size_a9_0 : Fld Z h0 a9_0 "com/example/motley/motley/CountTree" "size" "I" (.int (1 : Int32))) (F_total_a9_0 : Fld Z h0 a9_0 "com/example/motley/motley/CountTree" "total" "J" (.long w_total_a9_0)) (V_w_tree_a9_0 : Arv Z h0 w_tree_a9_0 kc_w_tree_a9_0 .long (1 : Int32) [(.long t_w_tree_a9_0_0)] (.long (0 : Int64))) :
    MetFree l (⟨"com/example/motley/motley/CountTree", "sumBefore", "(I)J"⟩ : MethodName) (head1 (Jvm.Cond.code (⟨"com/example/motley/motley/CountTree", "sumBefore", "(I)J"⟩ : MethodName) prog_14_method_8_code 5 (some .long) :: ws) ({ frames := 0, cells := 0, slots := 0, locals := 0 } : Room)) (fun a U => a = #[(.ref a9_0), (.int (0 : Int32))] ∧ Z.Warmed39 U.vm ∧ U.heap = h0) (fun _ _ _ _ _ => True) (fun _ U o U' => ∃ v L, o = .returned v ∧ Q_rm9_3 Z a9_0 w_tree_a9_0 w_total_a9_0 kc_w_tree_a9_0 t_w_tree_a9_0_0 h0 n0 v U'.heap L ∧ FrameEnd U o U' L ({ frames := 0, cells := 0, slots := 0, locals := 0 } : Room).cells ({ frames := 0, cells := 0, slots := 0, locals := 0 } : Room).slots) := by
  refine MetFree.of_bodySF (plainFor_of_name pn_9) hisR ?_
  intro p e s m args below meth c s₁ Bd hml0 hP hK
  obtain ⟨rfl, hZ, hh⟩ := hP
  have hx := Bd.exec
  have hby := Bd.bytes
  have hml : c.maxLocals = 5 := hml0
  have hown : s.vm.findClass "com/example/motley/motley/CountTree" = some m.cls := findClass_of_methodNamed Bd.named
  have hnm := (name_of_methodNamed Bd.named Bd.method).1
  have X0 : Stand p l e ({ frames := 0, cells := 0, slots := 0, locals := 0 } : Room) s m #[(.ref a9_0), (.int (0 : Int32))] below meth c s₁ [] 0 0 := Stand.of_body Bd
  have e0 : s₁.heap = h0 := by rw [← hh, Bd.state]; rfl
  have N0 := Fr.nil n0
  have pre0 : ∀ t, Steps p.tables e below (s₁.setTop (mkF m 0 #[.val (.ref a9_0), .val (.int (0 : Int32)), .unset, .unset, .unset] [])) t → Steps p.tables e below (s₁.setTop (entryFrame m #[(.ref a9_0), (.int (0 : Int32))] 5)) t := fun t k => castTop (ef_rm9_3 m a9_0) k
  obtain ⟨fs, hr, hrun, hended, hW, hsame⟩ := X0.leave (v := some (.long (0 : Int64))) (fun h => by rw [Bd.returns] at h; cases h)
  refine ⟨_, _, pre0 _ ?_, hrun, hended, _, _, rfl, ?_, ⟨_, rfl⟩, hW, hsame.mono (by decide) (by decide)⟩
  · show Steps p.tables e below (s₁.setTop (mkF m 0 #[.val (.ref a9_0), .val (.int (0 : Int32)), .unset, .unset, .unset] [])) _
    refine XS.lconst X0.here hx rfl (hb hby d9_0) ?_
    refine XS.lstoreN X0.here hx rfl (hb hby d9_1) rfl (l' := #[.val (.ref a9_0), .val (.int (0 : Int32)), .val (.long (0 : Int64)), .second, .unset]) rfl ?_
    refine XS.iloadN X0.here hx rfl (hb hby d9_2) rfl ?_
    show Steps p.tables e below (s₁.setTop (mkF m 3 #[.val (.ref a9_0), .val (.int (0 : Int32)), .val (.long (0 : Int64)), .second, .unset] [(.int (0 : Int32))])) _
    refine XS.istore X0.here hx rfl (hb hby d9_3) rfl (l' := #[.val (.ref a9_0), .val (.int (0 : Int32)), .val (.long (0 : Int64)), .second, .val (.int (0 : Int32))]) rfl ?_
    refine XS.iload X0.here hx rfl (hb hby d9_5) rfl ?_
    show Steps p.tables e below (s₁.setTop (mkF m 7 #[.val (.ref a9_0), .val (.int (0 : Int32)), .val (.long (0 : Int64)), .second, .val (.int (0 : Int32))] [(.int (0 : Int32))])) _
    refine XS.ifYes X0.here hx rfl (pc0 := 7) (pc' := 36) rfl (hb hby d9_7) rfl ((if0 _ _).trans (flt (by decide : ¬ ((0 : Int32) < (0 : Int32)))).2.2.2) (by decide) (by decide) ?_
    refine XS.lloadN X0.here hx rfl (hb hby d9_36) rfl ?_
    show Steps p.tables e below (s₁.setTop (mkF m 37 #[.val (.ref a9_0), .val (.int (0 : Int32)), .val (.long (0 : Int64)), .second, .val (.int (0 : Int32))] [(.long (0 : Int64))])) _
    exact own_retJ X0 hx Bd.returns (hb hby d9_37) hr
  · show Q_rm9_3 Z a9_0 w_tree_a9_0 w_total_a9_0 kc_w_tree_a9_0 t_w_tree_a9_0_0 h0 n0 _ s₁.heap _
    rw [e0]
    exact ⟨rfl, N0, rfl⟩
theorem d4_74 : decode prog_14_method_3_code 74 = .ok (.aload 4, 2) := by decide +kernel
theorem d4_76 : decode prog_14_method_3_code 76 = .ok (.iload 5, 2) := by decide +kernel
theorem d4_78 : decode prog_14_method_3_code 78 = .ok (.iconst 1, 1) := by decide +kernel
theorem d4_79 : decode prog_14_method_3_code 79 = .ok (.isub, 1) := by decide +kernel
theorem d4_80 : decode prog_14_method_3_code 80 = .ok (.aload_n 0, 1) := by decide +kernel
theorem d4_81 : decode prog_14_method_3_code 81 = .ok (.getfield 29, 3) := by decide +kernel
theorem d4_84 : decode prog_14_method_3_code 84 = .ok (.aload_n 0, 1) := by decide +kernel
theorem d4_85 : decode prog_14_method_3_code 85 = .ok (.iload 6, 2) := by decide +kernel
theorem d4_87 : decode prog_14_method_3_code 87 = .ok (.invokevirtual 33, 3) := by decide +kernel
theorem d4_90 : decode prog_14_method_3_code 90 = .ok (.lsub, 1) := by decide +kernel
theorem d4_91 : decode prog_14_method_3_code 91 = .ok (.lastore, 1) := by decide +kernel
theorem ef_rm4_2 (m : MethodId) (y0 : Addr) : entryFrame m #[(.ref y0), (.int (1 : Int32))] 7 = mkF m 0 #[.val (.ref y0), .val (.int (1 : Int32)), .unset, .unset, .unset, .unset, .unset] [] := by first | (simp [entryFrame, mkF, argsToLocals, Value.category]; done) | rfl
def Q_rm4_2 (Z : State) (a4_0 : Addr) (w_tree_a4_0 : Addr) (w_total_a4_0 : Int64) (kc_w_tree_a4_0 : ClassId) (t_w_tree_a4_0_0 : Int64) (h0 : Heap) (n0 : Nat) (v : Option Value) (h : Heap) (L : List Loc) : Prop := ∃ bx4_0 : Addr, ∃ kx4_0 : ClassId, v = none ∧ Fr n0 L ∧ Keep h0 h [a4_0] ∧ h0.size ≤ bx4_0 ∧ Exa Z h a4_0 "com/example/motley/motley/CountTree" ∧ Fld Z h a4_0 "com/example/motley/motley/CountTree" "tree" "[J" (.ref bx4_0) ∧ Fld Z h a4_0 "com/example/motley/motley/CountTree" "size" "I" (.int (1 : Int32)) ∧ Fld Z h a4_0 "com/example/motley/motley/CountTree" "total" "J" (.long w_total_a4_0) ∧ Arv Z h bx4_0 kx4_0 .long (2 : Int32) [(.long t_w_tree_a4_0_0), (.long (w_total_a4_0 - (0 : Int64)))] (.long (0 : Int64))
set_option maxRecDepth 65536 in
set_option maxHeartbeats 40000000 in
theorem rm4_2 (l : Launch) (Z : State) (a0 : Array Value) (hw : ∀ d ∈ tables_1, d.before a0 Z = true) (ws : List Jvm.Cond) (a4_0 : Addr) (w_tree_a4_0 : Addr) (w_total_a4_0 : Int64) (kc_w_tree_a4_0 : ClassId) (t_w_tree_a4_0_0 : Int64) (h0 : Heap) (n0 : Nat) (Z0 : n0 ≤ h0.size) (E_a4_0 : Exa Z h0 a4_0 "com/example/motley/motley/CountTree") (F_tree_a4_0 : Fld Z h0 a4_0 "com/example/motley/motley/CountTree" "tree" "[J" (.ref w_tree_a4_0)) (F_size_a4_0 : Fld Z h0 a4_0 "com/example/motley/motley/CountTree" "size" "I" (.int (1 : Int32))) (F_total_a4_0 : Fld Z h0 a4_0 "com/example/motley/motley/CountTree" "total" "J" (.long w_total_a4_0)) (V_w_tree_a4_0 : Arv Z h0 w_tree_a4_0 kc_w_tree_a4_0 .long (1 : Int32) [(.long t_w_tree_a4_0_0)] (.long (0 : Int64))) (g_a4_0 : n0 ≤ a4_0) :
    MetFree l (⟨"com/example/motley/motley/CountTree", "reserve", "(I)V"⟩ : MethodName) (head1 (Jvm.Cond.code (⟨"com/example/motley/motley/CountTree", "reserve", "(I)V"⟩ : MethodName) prog_14_method_3_code 7 none :: ws) ({ frames := 2, cells := 1, slots := 2, locals := 32 } : Room)) (fun a U => a = #[(.ref a4_0), (.int (1 : Int32))] ∧ Z.Warmed39 U.vm ∧ U.heap = h0) (fun _ _ _ _ _ => True) (fun _ U o U' => ∃ v L, o = .returned v ∧ Q_rm4_2 Z a4_0 w_tree_a4_0 w_total_a4_0 kc_w_tree_a4_0 t_w_tree_a4_0_0 h0 n0 v U'.heap L ∧ FrameEnd U o U' L ({ frames := 2, cells := 1, slots := 2, locals := 32 } : Room).cells ({ frames := 2, cells := 1, slots := 2, locals := 32 } : Room).slots) := by
  refine MetFree.of_bodySF (plainFor_of_name pn_4) hisR ?_
  intro p e s m args below meth c s₁ Bd hml0 hP hK
  obtain ⟨rfl, hZ, hh⟩ := hP
  have hx := Bd.exec
  have hby := Bd.bytes
  have hml : c.maxLocals = 7 := hml0
  have hown : s.vm.findClass "com/example/motley/motley/CountTree" = some m.cls := findClass_of_methodNamed Bd.named
  have hnm := (name_of_methodNamed Bd.named Bd.method).1
  have X0 : Stand p l e ({ frames := 2, cells := 1, slots := 2, locals := 32 } : Room) s m #[(.ref a4_0), (.int (1 : Int32))] below meth c s₁ [] 0 0 := Stand.of_body Bd
  have e0 : s₁.heap = h0 := by rw [← hh, Bd.state]; rfl
  have N0 := Fr.nil n0
  have pre0 : ∀ t, Steps p.tables e below (s₁.setTop (mkF m 0 #[.val (.ref a4_0), .val (.int (1 : Int32)), .unset, .unset, .unset, .unset, .unset] [])) t → Steps p.tables e below (s₁.setTop (entryFrame m #[(.ref a4_0), (.int (1 : Int32))] 7)) t := fun t k => castTop (ef_rm4_2 m a4_0) k
  obtain ⟨T1, X1, e1, st1⟩ := getF X0 hx hZ hown (host := "") (Or.inl (ow23 hw)) Via.refl e0 F_size_a4_0 (g := (mkF m 1 #[.val (.ref a4_0), .val (.int (1 : Int32)), .unset, .unset, .unset, .unset, .unset] [(.ref a4_0)])) rfl rfl (hb hby d4_1)
  obtain ⟨T2, X2, e2, st2⟩ := getF X1 hx hZ hown (host := "") (Or.inl (ow11 hw)) Via.refl e1 F_tree_a4_0 (g := (mkF m 9 #[.val (.ref a4_0), .val (.int (1 : Int32)), .val (.int (2 : Int32)), .unset, .unset, .unset, .unset] [(.ref a4_0), (.int (2 : Int32))])) rfl rfl (hb hby d4_9)
  obtain ⟨cl3, Ar3, qk3, Sz3, Nz3, Hh3, Gf3⟩ := id V_w_tree_a4_0
  obtain ⟨T4, X4, e4, st4⟩ := getF X2 hx hZ hown (host := "") (Or.inl (ow11 hw)) Via.refl e2 F_tree_a4_0 (g := (mkF m 20 #[.val (.ref a4_0), .val (.int (1 : Int32)), .val (.int (2 : Int32)), .unset, .unset, .unset, .unset] [(.ref a4_0), (.int (2 : Int32)), (.int (2 : Int32))])) rfl rfl (hb hby d4_20)
  obtain ⟨cl5, Ar5, qk5, Sz5, Nz5, Hh5, Gf5⟩ := id V_w_tree_a4_0
  obtain ⟨_, _, ⟨T6, L6, k6, n6⟩, -, X6, ⟨Lc6, hQ6, l6, y6, z6⟩, st6⟩ := Jvm.LawKit.callS X4 hx (y := (⟨"java/lang/Math", "max", "(II)I"⟩ : MethodName)) hown (mvT hZ (ow25 hw)) (mvT hZ (ow26 hw)) (mvT hZ (ow27 hw)) (mvT hZ (ow28 hw)) (by decide) (backOf (W := 0) (rm5_2 l Z a0 hw []  h0 n0 Z0 ) hZ (ow28 hw) (ow27 hw) (by decide) (by decide)) (g := (mkF m 25 #[.val (.ref a4_0), .val (.int (1 : Int32)), .val (.int (2 : Int32)), .unset, .unset, .unset, .unset] [(.int (2 : Int32)), (.int (2 : Int32))])) rfl (by rw [hml]; rfl) (argsL := [(.int (2 : Int32)), (.int (2 : Int32))]) (rest := []) (lenOf pd__II_I rfl) rfl (by show 2 * 0 + _ ≤ _; exact Nat.le_of_eq rfl) (hb hby d4_25) (fun _ _ => ⟨rfl, e4, (by decide : 0 + 0 ≤ _), (by decide : 0 + 0 ≤ _)⟩)
  dsimp only [Pt.U, Pt.locs, Pt.cells, Pt.slots] at X6 l6 y6 z6 st6 hQ6
  subst l6 y6 z6
  obtain ⟨rfl, Nq6, e6⟩ := hQ6
  have N6 := Fr.app N0 Nq6
  obtain ⟨T7, X7, e7, st7⟩ := getF X6 hx hZ hown (host := "") (Or.inl (ow11 hw)) Via.refl e6 F_tree_a4_0 (g := (mkF m 30 #[.val (.ref a4_0), .val (.int (1 : Int32)), .val (.int (2 : Int32)), .val (.int (2 : Int32)), .unset, .unset, .unset] [(.ref a4_0)])) rfl rfl (hb hby d4_30)
  obtain ⟨_, _, ⟨T8, L8, k8, n8⟩, -, X8, ⟨Lc8, hQ8, l8, y8, z8⟩, st8⟩ := Jvm.LawKit.callS X7 hx (y := (⟨"java/util/Arrays", "copyOf", "([JI)[J"⟩ : MethodName)) hown (mvT hZ (ow29 hw)) (mvT hZ (ow30 hw)) (mvT hZ (ow31 hw)) (mvT hZ (ow32 hw)) (by decide) (backOf (W := 0) (rm6_2 l Z a0 hw [] w_tree_a4_0 kc_w_tree_a4_0 t_w_tree_a4_0_0 h0 n0 Z0 V_w_tree_a4_0) hZ (ow32 hw) (ow31 hw) (by decide) (by decide)) (g := (mkF m 34 #[.val (.ref a4_0), .val (.int (1 : Int32)), .val (.int (2 : Int32)), .val (.int (2 : Int32)), .unset, .unset, .unset] [(.int (2 : Int32)), (.ref w_tree_a4_0)])) rfl (by rw [hml]; rfl) (argsL := [(.ref w_tree_a4_0), (.int (2 : Int32))]) (rest := []) (lenOf pd___JI__J rfl) rfl (by show 2 * 0 + _ ≤ _; exact Nat.le_of_eq rfl) (hb hby d4_34) (fun _ _ => ⟨rfl, e7, (by decide : 0 + 1 ≤ _), (by decide : 0 + 2 ≤ _)⟩)
  dsimp only [Pt.U, Pt.locs, Pt.cells, Pt.slots] at X8 l8 y8 z8 st8 hQ8
  subst l8 y8 z8
  obtain ⟨bx6_0_8, kx6_0_8, rfl, Nq8, Kc8, P8_0, P8_1⟩ := hQ8
  have K8 : Keep h0 T8.heap [a4_0] := Keep.trans (Keep.refl h0 [a4_0]) Kc8 all0
  have Z8 : n0 ≤ T8.heap.size := Nat.le_trans Z0 K8.1
  have g_bx6_0_8 : n0 ≤ bx6_0_8 := Nat.le_trans Z0 P8_0
  have sz_bx6_0_8 : h0.size ≤ bx6_0_8 := Nat.le_trans (Nat.le_refl _) P8_0
  have ne_a4_0_bx6_0_8 : a4_0 ≠ bx6_0_8 := Nat.ne_of_lt (Nat.lt_of_lt_of_le E_a4_0.lt P8_0)
  have ne_w_tree_a4_0_bx6_0_8 : w_tree_a4_0 ≠ bx6_0_8 := Nat.ne_of_lt (Nat.lt_of_lt_of_le V_w_tree_a4_0.lt P8_0)
  have N8 := Fr.app N6 Nq8
  have f9 := (F_tree_a4_0.keep Kc8 nin0)
  obtain ⟨T10, X10, e10, st10⟩ := getF X8 hx hZ hown (host := "") (Or.inl (ow11 hw)) Via.refl rfl f9 (g := (mkF m 40 #[.val (.ref a4_0), .val (.int (1 : Int32)), .val (.int (2 : Int32)), .val (.int (2 : Int32)), .val (.ref bx6_0_8), .unset, .unset] [(.ref a4_0)])) rfl rfl (hb hby d4_40)
  have f11 := (V_w_tree_a4_0.keep Kc8 nin0)
  obtain ⟨cl12, Ar12, qk12, Sz12, Nz12, Hh12, Gf12⟩ := id f11
  have f13 := (F_size_a4_0.keep Kc8 nin0)
  obtain ⟨T14, X14, e14, st14⟩ := getF X10 hx hZ hown (host := "") (Or.inl (ow23 hw)) Via.refl e10 f13 (g := (mkF m 68 #[.val (.ref a4_0), .val (.int (1 : Int32)), .val (.int (2 : Int32)), .val (.int (2 : Int32)), .val (.ref bx6_0_8), .val (.int (2 : Int32)), .val (.int (0 : Int32))] [(.ref a4_0), (.int (0 : Int32))])) rfl rfl (hb hby d4_68)
  have f15 := (F_total_a4_0.keep Kc8 nin0)
  obtain ⟨T16, X16, e16, st16⟩ := getF X14 hx hZ hown (host := "") (Or.inl (ow45 hw)) Via.refl e14 f15 (g := (mkF m 81 #[.val (.ref a4_0), .val (.int (1 : Int32)), .val (.int (2 : Int32)), .val (.int (2 : Int32)), .val (.ref bx6_0_8), .val (.int (2 : Int32)), .val (.int (0 : Int32))] [(.ref a4_0), (.int (1 : Int32)), (.ref bx6_0_8)])) rfl rfl (hb hby d4_81)
  have f17 := (E_a4_0.keep Kc8)
  obtain ⟨cq18, kq18, q18a, q18b, q18c⟩ := isOf hZ e16 f17
  obtain ⟨_, _, ⟨T18, L18, k18, n18⟩, -, X18, ⟨Lc18, hQ18, l18, y18, z18⟩, st18⟩ := X16.virtualBack hx (y := (⟨"com/example/motley/motley/CountTree", "sumBefore", "(I)J"⟩ : MethodName)) (z := (⟨"com/example/motley/motley/CountTree", "sumBefore", "(I)J"⟩ : MethodName)) hown (mvT hZ (ow47 hw)) (mvT hZ (ow48 hw)) (notFace_of_selects (args := #[]) (mvT hZ (ow50 hw))) (mvT hZ (ow50 hw)) (mvT hZ (ow49 hw)) (by decide) (backOf (W := 4) (rm9_3 l Z a0 hw [] a4_0 w_tree_a4_0 w_total_a4_0 kc_w_tree_a4_0 t_w_tree_a4_0_0 T8.heap n0 Z8 f17 f9 f13 f15 f11) hZ (ow51 hw) (ow3 hw) (by decide) (by decide)) q18a q18c (g := (mkF m 87 #[.val (.ref a4_0), .val (.int (1 : Int32)), .val (.int (2 : Int32)), .val (.int (2 : Int32)), .val (.ref bx6_0_8), .val (.int (2 : Int32)), .val (.int (0 : Int32))] [(.int (0 : Int32)), (.ref a4_0), (.long w_total_a4_0), (.int (1 : Int32)), (.ref bx6_0_8)])) rfl (by rw [hml]; rfl) (Steps.refl _) (argsL := [(.int (0 : Int32))]) (rest := [(.long w_total_a4_0), (.int (1 : Int32)), (.ref bx6_0_8)]) (lenOf pd__I_J rfl) rfl (by show 2 * 0 + _ ≤ _; exact Nat.le_of_eq rfl) (hb hby d4_87) (fun _ _ => ⟨rfl, e16, (by decide : 1 + 0 ≤ _), (by decide : 2 + 0 ≤ _)⟩)
  dsimp only [Pt.U, Pt.locs, Pt.cells, Pt.slots] at X18 l18 y18 z18 st18 hQ18
  subst l18 y18 z18
  obtain ⟨rfl, Nq18, e18⟩ := hQ18
  have N18 := Fr.app N8 Nq18
  obtain ⟨cl19, Ar19, qk19, Sz19, Nz19, Hh19, Gf19⟩ := id P8_1
  obtain ⟨T20, h20, X20, e20, W20, st20⟩ := stJ X18 hx hZ e18 Ar19 (j := (1 : Int32)) (inb_of Sz19 ⟨by decide, by decide⟩) (g := (mkF m 91 #[.val (.ref a4_0), .val (.int (1 : Int32)), .val (.int (2 : Int32)), .val (.int (2 : Int32)), .val (.ref bx6_0_8), .val (.int (2 : Int32)), .val (.int (0 : Int32))] [(.long (w_total_a4_0 - (0 : Int64))), (.int (1 : Int32)), (.ref bx6_0_8)])) rfl rfl (hb hby d4_91)
  have V20 : Arv Z h20 bx6_0_8 kx6_0_8 .long (2 : Int32) [(.long t_w_tree_a4_0_0), (.long (w_total_a4_0 - (0 : Int64)))] (.long (0 : Int64)) := Arv.set Ar19 qk19 Sz19 Nz19 Hh19 Gf19 rfl W20 1 rfl (Nat.le_of_ble_eq_true rfl)
  have K20 : Keep h0 h20 [a4_0] := K8.wr W20 (Or.inr sz_bx6_0_8)
  have Z20 : n0 ≤ h20.size := Nat.le_trans Z0 K20.1
  have N20 := Fr.snoc X20 N18 g_bx6_0_8
  have f21 := (f17.wr W20)
  have f22 := (f9.other W20 (Or.inl ne_a4_0_bx6_0_8))
  obtain ⟨T23, h23, X23, e23, W23, st23⟩ := putF X20 hx hZ hown (host := "") (Or.inl (ow11 hw)) Via.refl e20 f22 f21 (Or.inl (ow12 hw)) (ow2 hw) (ty := (.array .long)) (by decide) rfl rfl (g := (mkF m 101 #[.val (.ref a4_0), .val (.int (1 : Int32)), .val (.int (2 : Int32)), .val (.int (2 : Int32)), .val (.ref bx6_0_8), .val (.int (3 : Int32)), .val (.int (0 : Int32))] [(.ref bx6_0_8), (.ref a4_0)])) rfl rfl (hb hby d4_101)
  have F23 := f22.same W23
  have K23 : Keep h0 h23 [a4_0] := K20.wr W23 (Or.inl (List.mem_of_getElem? (i := 0) rfl))
  have Z23 : n0 ≤ h23.size := Nat.le_trans Z0 K23.1
  have N23 := Fr.snoc X23 N20 g_a4_0
  obtain ⟨fs, hr, hrun, hended, hW, hsame⟩ := X23.leave (v := none) (fun _ => rfl)
  refine ⟨_, _, pre0 _ ?_, hrun, hended, _, _, rfl, ?_, ⟨_, rfl⟩, hW, hsame.mono (by decide) (by decide)⟩
  · show Steps p.tables e below (s₁.setTop (mkF m 0 #[.val (.ref a4_0), .val (.int (1 : Int32)), .unset, .unset, .unset, .unset, .unset] [])) _
    refine XS.aloadN X0.here hx rfl (hb hby d4_0) rfl rfl ?_
    refine st1 _ ?_
    refine XS.iloadN X1.here hx rfl (hb hby d4_4) rfl ?_
    show Steps p.tables e below (T1.setTop (mkF m 5 #[.val (.ref a4_0), .val (.int (1 : Int32)), .unset, .unset, .unset, .unset, .unset] [(.int (1 : Int32)), (.int (1 : Int32))])) _
    refine XS.iadd X1.here hx rfl (hb hby d4_5) rfl ?_
    refine XS.istoreN X1.here hx rfl (hb hby d4_6) rfl (l' := #[.val (.ref a4_0), .val (.int (1 : Int32)), .val (.int (2 : Int32)), .unset, .unset, .unset, .unset]) rfl ?_
    refine XS.iloadN X1.here hx rfl (hb hby d4_7) rfl ?_
    show Steps p.tables e below (T1.setTop (mkF m 8 #[.val (.ref a4_0), .val (.int (1 : Int32)), .val (.int (2 : Int32)), .unset, .unset, .unset, .unset] [(.int (2 : Int32))])) _
    refine XS.aloadN X1.here hx rfl (hb hby d4_8) rfl rfl ?_
    refine st2 _ ?_
    show Steps p.tables e below (T2.setTop (mkF m 12 #[.val (.ref a4_0), .val (.int (1 : Int32)), .val (.int (2 : Int32)), .unset, .unset, .unset, .unset] [(.ref w_tree_a4_0), (.int (2 : Int32))])) _
    refine X2.arraylength hx (cell := cl3) (by rw [e2]; exact Ar3.1) (State.isArrayOf_alike hZ.alike Ar3.2.1) (g := (mkF m 12 #[.val (.ref a4_0), .val (.int (1 : Int32)), .val (.int (2 : Int32)), .unset, .unset, .unset, .unset] [(.ref w_tree_a4_0), (.int (2 : Int32))])) rfl (rest := [(.int (2 : Int32))]) rfl (hb hby d4_12) _ ?_
    rw [len_of Sz3 Nz3]
    show Steps p.tables e below (T2.setTop (mkF m 13 #[.val (.ref a4_0), .val (.int (1 : Int32)), .val (.int (2 : Int32)), .unset, .unset, .unset, .unset] [(.int (1 : Int32)), (.int (2 : Int32))])) _
    refine XS.icmpYes X2.here hx rfl (pc0 := 13) (pc' := 17) rfl (hb hby d4_13) rfl (tlt (by decide : (1 : Int32) < (2 : Int32))).2.2.1 (by decide) (by decide) ?_
    refine XS.iloadN X2.here hx rfl (hb hby d4_17) rfl ?_
    refine XS.iconst X2.here hx rfl (hb hby d4_18) ?_
    show Steps p.tables e below (T2.setTop (mkF m 19 #[.val (.ref a4_0), .val (.int (1 : Int32)), .val (.int (2 : Int32)), .unset, .unset, .unset, .unset] [(.int (2 : Int32)), (.int (2 : Int32))])) _
    refine XS.aloadN X2.here hx rfl (hb hby d4_19) rfl rfl ?_
    refine st4 _ ?_
    show Steps p.tables e below (T4.setTop (mkF m 23 #[.val (.ref a4_0), .val (.int (1 : Int32)), .val (.int (2 : Int32)), .unset, .unset, .unset, .unset] [(.ref w_tree_a4_0), (.int (2 : Int32)), (.int (2 : Int32))])) _
    refine X4.arraylength hx (cell := cl5) (by rw [e4]; exact Ar5.1) (State.isArrayOf_alike hZ.alike Ar5.2.1) (g := (mkF m 23 #[.val (.ref a4_0), .val (.int (1 : Int32)), .val (.int (2 : Int32)), .unset, .unset, .unset, .unset] [(.ref w_tree_a4_0), (.int (2 : Int32)), (.int (2 : Int32))])) rfl (rest := [(.int (2 : Int32)), (.int (2 : Int32))]) rfl (hb hby d4_23) _ ?_
    rw [len_of Sz5 Nz5]
    refine XS.imul X4.here hx rfl (hb hby d4_24) rfl ?_
    show Steps p.tables e below (T4.setTop (mkF m 25 #[.val (.ref a4_0), .val (.int (1 : Int32)), .val (.int (2 : Int32)), .unset, .unset, .unset, .unset] [(.int (2 : Int32)), (.int (2 : Int32))])) _
    refine st6 _ ?_
    refine XS.istoreN X6.here hx rfl (hb hby d4_28) rfl (l' := #[.val (.ref a4_0), .val (.int (1 : Int32)), .val (.int (2 : Int32)), .val (.int (2 : Int32)), .unset, .unset, .unset]) rfl ?_
    refine XS.aloadN X6.here hx rfl (hb hby d4_29) rfl rfl ?_
    show Steps p.tables e below (T6.setTop (mkF m 30 #[.val (.ref a4_0), .val (.int (1 : Int32)), .val (.int (2 : Int32)), .val (.int (2 : Int32)), .unset, .unset, .unset] [(.ref a4_0)])) _
    refine st7 _ ?_
    refine XS.iloadN X7.here hx rfl (hb hby d4_33) rfl ?_
    refine st8 _ ?_
    show Steps p.tables e below (T8.setTop (mkF m 37 #[.val (.ref a4_0), .val (.int (1 : Int32)), .val (.int (2 : Int32)), .val (.int (2 : Int32)), .unset, .unset, .unset] [(.ref bx6_0_8)])) _
    refine XS.astore X8.here hx rfl (hb hby d4_37) rfl rfl (l' := #[.val (.ref a4_0), .val (.int (1 : Int32)), .val (.int (2 : Int32)), .val (.int (2 : Int32)), .val (.ref bx6_0_8), .unset, .unset]) rfl ?_
    refine XS.aloadN X8.here hx rfl (hb hby d4_39) rfl rfl ?_
    refine st10 _ ?_
    show Steps p.tables e below (T10.setTop (mkF m 43 #[.val (.ref a4_0), .val (.int (1 : Int32)), .val (.int (2 : Int32)), .val (.int (2 : Int32)), .val (.ref bx6_0_8), .unset, .unset] [(.ref w_tree_a4_0)])) _
    refine X10.arraylength hx (cell := cl12) (by rw [e10]; exact Ar12.1) (State.isArrayOf_alike hZ.alike Ar12.2.1) (g := (mkF m 43 #[.val (.ref a4_0), .val (.int (1 : Int32)), .val (.int (2 : Int32)), .val (.int (2 : Int32)), .val (.ref bx6_0_8), .unset, .unset] [(.ref w_tree_a4_0)])) rfl (rest := []) rfl (hb hby d4_43) _ ?_
    rw [len_of Sz12 Nz12]
    refine XS.iconst X10.here hx rfl (hb hby d4_44) ?_
    show Steps p.tables e below (T10.setTop (mkF m 45 #[.val (.ref a4_0), .val (.int (1 : Int32)), .val (.int (2 : Int32)), .val (.int (2 : Int32)), .val (.ref bx6_0_8), .unset, .unset] [(.int (1 : Int32)), (.int (1 : Int32))])) _
    refine XS.iadd X10.here hx rfl (hb hby d4_45) rfl ?_
    refine XS.istore X10.here hx rfl (hb hby d4_46) rfl (l' := #[.val (.ref a4_0), .val (.int (1 : Int32)), .val (.int (2 : Int32)), .val (.int (2 : Int32)), .val (.ref bx6_0_8), .val (.int (2 : Int32)), .unset]) rfl ?_
    refine XS.iload X10.here hx rfl (hb hby d4_48) rfl ?_
    show Steps p.tables e below (T10.setTop (mkF m 50 #[.val (.ref a4_0), .val (.int (1 : Int32)), .val (.int (2 : Int32)), .val (.int (2 : Int32)), .val (.ref bx6_0_8), .val (.int (2 : Int32)), .unset] [(.int (2 : Int32))])) _
    refine XS.iloadN X10.here hx rfl (hb hby d4_50) rfl ?_
    show Steps p.tables e below (T10.setTop (mkF m 51 #[.val (.ref a4_0), .val (.int (1 : Int32)), .val (.int (2 : Int32)), .val (.int (2 : Int32)), .val (.ref bx6_0_8), .val (.int (2 : Int32)), .unset] [(.int (2 : Int32)), (.int (2 : Int32))])) _
    refine XS.icmpNo X10.here hx rfl (hb hby d4_51) rfl (flt (by decide : ¬ ((2 : Int32) < (2 : Int32)))).2.2.1 ?_
    refine XS.iload X10.here hx rfl (hb hby d4_54) rfl ?_
    refine XS.iload X10.here hx rfl (hb hby d4_56) rfl ?_
    show Steps p.tables e below (T10.setTop (mkF m 58 #[.val (.ref a4_0), .val (.int (1 : Int32)), .val (.int (2 : Int32)), .val (.int (2 : Int32)), .val (.ref bx6_0_8), .val (.int (2 : Int32)), .unset] [(.int (2 : Int32)), (.int (2 : Int32))])) _
    refine XS.iload X10.here hx rfl (hb hby d4_58) rfl ?_
    refine XS.ineg X10.here hx rfl (hb hby d4_60) rfl ?_
    refine XS.iand X10.here hx rfl (hb hby d4_61) rfl ?_
    show Steps p.tables e below (T10.setTop (mkF m 62 #[.val (.ref a4_0), .val (.int (1 : Int32)), .val (.int (2 : Int32)), .val (.int (2 : Int32)), .val (.ref bx6_0_8), .val (.int (2 : Int32)), .unset] [(.int (2 : Int32)), (.int (2 : Int32))])) _
    refine XS.isub X10.here hx rfl (hb hby d4_62) rfl ?_
    refine XS.istore X10.here hx rfl (hb hby d4_63) rfl (l' := #[.val (.ref a4_0), .val (.int (1 : Int32)), .val (.int (2 : Int32)), .val (.int (2 : Int32)), .val (.ref bx6_0_8), .val (.int (2 : Int32)), .val (.int (0 : Int32))]) rfl ?_
    refine XS.iload X10.here hx rfl (hb hby d4_65) rfl ?_
    show Steps p.tables e below (T10.setTop (mkF m 67 #[.val (.ref a4_0), .val (.int (1 : Int32)), .val (.int (2 : Int32)), .val (.int (2 : Int32)), .val (.ref bx6_0_8), .val (.int (2 : Int32)), .val (.int (0 : Int32))] [(.int (0 : Int32))])) _
    refine XS.aloadN X10.here hx rfl (hb hby d4_67) rfl rfl ?_
    refine st14 _ ?_
    show Steps p.tables e below (T14.setTop (mkF m 71 #[.val (.ref a4_0), .val (.int (1 : Int32)), .val (.int (2 : Int32)), .val (.int (2 : Int32)), .val (.ref bx6_0_8), .val (.int (2 : Int32)), .val (.int (0 : Int32))] [(.int (1 : Int32)), (.int (0 : Int32))])) _
    refine XS.icmpNo X14.here hx rfl (hb hby d4_71) rfl (tlt (by decide : (0 : Int32) < (1 : Int32))).2.1 ?_
    refine XS.aload X14.here hx rfl (hb hby d4_74) rfl rfl ?_
    refine XS.iload X14.here hx rfl (hb hby d4_76) rfl ?_
    show Steps p.tables e below (T14.setTop (mkF m 78 #[.val (.ref a4_0), .val (.int (1 : Int32)), .val (.int (2 : Int32)), .val (.int (2 : Int32)), .val (.ref bx6_0_8), .val (.int (2 : Int32)), .val (.int (0 : Int32))] [(.int (2 : Int32)), (.ref bx6_0_8)])) _
    refine XS.iconst X14.here hx rfl (hb hby d4_78) ?_
    refine XS.isub X14.here hx rfl (hb hby d4_79) rfl ?_
    refine XS.aloadN X14.here hx rfl (hb hby d4_80) rfl rfl ?_
    show Steps p.tables e below (T14.setTop (mkF m 81 #[.val (.ref a4_0), .val (.int (1 : Int32)), .val (.int (2 : Int32)), .val (.int (2 : Int32)), .val (.ref bx6_0_8), .val (.int (2 : Int32)), .val (.int (0 : Int32))] [(.ref a4_0), (.int (1 : Int32)), (.ref bx6_0_8)])) _
    refine st16 _ ?_
    refine XS.aloadN X16.here hx rfl (hb hby d4_84) rfl rfl ?_
    refine XS.iload X16.here hx rfl (hb hby d4_85) rfl ?_
    show Steps p.tables e below (T16.setTop (mkF m 87 #[.val (.ref a4_0), .val (.int (1 : Int32)), .val (.int (2 : Int32)), .val (.int (2 : Int32)), .val (.ref bx6_0_8), .val (.int (2 : Int32)), .val (.int (0 : Int32))] [(.int (0 : Int32)), (.ref a4_0), (.long w_total_a4_0), (.int (1 : Int32)), (.ref bx6_0_8)])) _
    refine st18.trans ?_
    refine XS.lsub X18.here hx rfl (hb hby d4_90) rfl ?_
    refine st20 _ ?_
    show Steps p.tables e below (T20.setTop (mkF m 92 #[.val (.ref a4_0), .val (.int (1 : Int32)), .val (.int (2 : Int32)), .val (.int (2 : Int32)), .val (.ref bx6_0_8), .val (.int (2 : Int32)), .val (.int (0 : Int32))] [])) _
    refine XS.iinc X20.here hx rfl (hb hby d4_92) rfl (l' := #[.val (.ref a4_0), .val (.int (1 : Int32)), .val (.int (2 : Int32)), .val (.int (2 : Int32)), .val (.ref bx6_0_8), .val (.int (3 : Int32)), .val (.int (0 : Int32))]) rfl ?_
    refine XS.goto X20.here hx rfl (pc0 := 95) (pc' := 48) rfl (hb hby d4_95) (by decide) (by decide) ?_
    refine XS.iload X20.here hx rfl (hb hby d4_48) rfl ?_
    show Steps p.tables e below (T20.setTop (mkF m 50 #[.val (.ref a4_0), .val (.int (1 : Int32)), .val (.int (2 : Int32)), .val (.int (2 : Int32)), .val (.ref bx6_0_8), .val (.int (3 : Int32)), .val (.int (0 : Int32))] [(.int (3 : Int32))])) _
    refine XS.iloadN X20.here hx rfl (hb hby d4_50) rfl ?_
    show Steps p.tables e below (T20.setTop (mkF m 51 #[.val (.ref a4_0), .val (.int (1 : Int32)), .val (.int (2 : Int32)), .val (.int (2 : Int32)), .val (.ref bx6_0_8), .val (.int (3 : Int32)), .val (.int (0 : Int32))] [(.int (2 : Int32)), (.int (3 : Int32))])) _
    refine XS.icmpYes X20.here hx rfl (pc0 := 51) (pc' := 98) rfl (hb hby d4_51) rfl (tlt (by decide : (2 : Int32) < (3 : Int32))).2.2.1 (by decide) (by decide) ?_
    refine XS.aloadN X20.here hx rfl (hb hby d4_98) rfl rfl ?_
    refine XS.aload X20.here hx rfl (hb hby d4_99) rfl rfl ?_
    show Steps p.tables e below (T20.setTop (mkF m 101 #[.val (.ref a4_0), .val (.int (1 : Int32)), .val (.int (2 : Int32)), .val (.int (2 : Int32)), .val (.ref bx6_0_8), .val (.int (3 : Int32)), .val (.int (0 : Int32))] [(.ref bx6_0_8), (.ref a4_0)])) _
    refine st23 _ ?_
    show Steps p.tables e below (T23.setTop (mkF m 104 #[.val (.ref a4_0), .val (.int (1 : Int32)), .val (.int (2 : Int32)), .val (.int (2 : Int32)), .val (.ref bx6_0_8), .val (.int (3 : Int32)), .val (.int (0 : Int32))] [])) _
    exact X23.returnOut hx Bd.returns (hb hby d4_104) hr
  · have f24 := (f21.wr W23)
    have f25 := ((f13.other W20 (Or.inl ne_a4_0_bx6_0_8)).other W23 (Or.inr (slot_ne (Or.inl (ow24 hw)) (Or.inl (ow12 hw)) (by decide) (t := .int) (t' := (.array .long)) (by decide) (by decide))))
    have f26 := ((f15.other W20 (Or.inl ne_a4_0_bx6_0_8)).other W23 (Or.inr (slot_ne (Or.inl (ow46 hw)) (Or.inl (ow12 hw)) (by decide) (t := .long) (t' := (.array .long)) (by decide) (by decide))))
    have f27 := (V20.other W23 (Ne.symm ne_a4_0_bx6_0_8))
    show Q_rm4_2 Z a4_0 w_tree_a4_0 w_total_a4_0 kc_w_tree_a4_0 t_w_tree_a4_0_0 h0 n0 _ T23.heap _
    rw [e23]
    exact ⟨bx6_0_8, kx6_0_8, rfl, N23, K23, sz_bx6_0_8, f24, F23, f25, f26, f27⟩
theorem ef_rm8_2 (m : MethodId) (y0 : Addr) (y2 : Int64) : entryFrame m #[(.ref y0), (.int (1 : Int32)), (.long y2)] 5 = mkF m 0 #[.val (.ref y0), .val (.int (1 : Int32)), .val (.long y2), .second, .unset] [] := by first | (simp [entryFrame, mkF, argsToLocals, Value.category]; done) | rfl
def Q_rm8_2 (Z : State) (a8_0 : Addr) (q8_2 : Int64) (w_tree_a8_0 : Addr) (w_total_a8_0 : Int64) (kc_w_tree_a8_0 : ClassId) (t_w_tree_a8_0_0 : Int64) (t_w_tree_a8_0_1 : Int64) (h0 : Heap) (n0 : Nat) (v : Option Value) (h : Heap) (L : List Loc) : Prop := v = none ∧ Fr n0 L ∧ Keep h0 h [a8_0, w_tree_a8_0] ∧ Exa Z h a8_0 "com/example/motley/motley/CountTree" ∧ Fld Z h a8_0 "com/example/motley/motley/CountTree" "tree" "[J" (.ref w_tree_a8_0) ∧ Fld Z h a8_0 "com/example/motley/motley/CountTree" "size" "I" (.int (2 : Int32)) ∧ Fld Z h a8_0 "com/example/motley/motley/CountTree" "total" "J" (.long (w_total_a8_0 + q8_2)) ∧ Arv Z h w_tree_a8_0 kc_w_tree_a8_0 .long (2 : Int32) [(.long t_w_tree_a8_0_0), (.long (t_w_tree_a8_0_1 + q8_2))] (.long (0 : Int64))
set_option maxRecDepth 65536 in
set_option maxHeartbeats 40000000 in
theorem rm8_2 (l : Launch) (Z : State) (a0 : Array Value) (hw : ∀ d ∈ tables_1, d.before a0 Z = true) (ws : List Jvm.Cond) (a8_0 : Addr) (q8_2 : Int64) (w_tree_a8_0 : Addr) (w_total_a8_0 : Int64) (kc_w_tree_a8_0 : ClassId) (t_w_tree_a8_0_0 : Int64) (t_w_tree_a8_0_1 : Int64) (h0 : Heap) (n0 : Nat) (Z0 : n0 ≤ h0.size) (E_a8_0 : Exa Z h0 a8_0 "com/example/motley/motley/CountTree") (F_tree_a8_0 : Fld Z h0 a8_0 "com/example/motley/motley/CountTree" "tree" "[J" (.ref w_tree_a8_0)) (F_size_a8_0 : Fld Z h0 a8_0 "com/example/motley/motley/CountTree" "size" "I" (.int (2 : Int32))) (F_total_a8_0 : Fld Z h0 a8_0 "com/example/motley/motley/CountTree" "total" "J" (.long w_total_a8_0)) (V_w_tree_a8_0 : Arv Z h0 w_tree_a8_0 kc_w_tree_a8_0 .long (2 : Int32) [(.long t_w_tree_a8_0_0), (.long t_w_tree_a8_0_1)] (.long (0 : Int64))) (g_a8_0 : n0 ≤ a8_0) (ne_w_tree_a8_0_a8_0 : w_tree_a8_0 ≠ a8_0) (g_w_tree_a8_0 : n0 ≤ w_tree_a8_0) :
    MetFree l (⟨"com/example/motley/motley/CountTree", "add", "(IJ)V"⟩ : MethodName) (head1 (Jvm.Cond.code (⟨"com/example/motley/motley/CountTree", "add", "(IJ)V"⟩ : MethodName) prog_14_method_7_code 5 none :: ws) ({ frames := 0, cells := 0, slots := 0, locals := 0 } : Room)) (fun a U => a = #[(.ref a8_0), (.int (1 : Int32)), (.long q8_2)] ∧ Z.Warmed39 U.vm ∧ U.heap = h0) (fun _ _ _ _ _ => True) (fun _ U o U' => ∃ v L, o = .returned v ∧ Q_rm8_2 Z a8_0 q8_2 w_tree_a8_0 w_total_a8_0 kc_w_tree_a8_0 t_w_tree_a8_0_0 t_w_tree_a8_0_1 h0 n0 v U'.heap L ∧ FrameEnd U o U' L ({ frames := 0, cells := 0, slots := 0, locals := 0 } : Room).cells ({ frames := 0, cells := 0, slots := 0, locals := 0 } : Room).slots) := by
  refine MetFree.of_bodySF (plainFor_of_name pn_8) hisR ?_
  intro p e s m args below meth c s₁ Bd hml0 hP hK
  obtain ⟨rfl, hZ, hh⟩ := hP
  have hx := Bd.exec
  have hby := Bd.bytes
  have hml : c.maxLocals = 5 := hml0
  have hown : s.vm.findClass "com/example/motley/motley/CountTree" = some m.cls := findClass_of_methodNamed Bd.named
  have hnm := (name_of_methodNamed Bd.named Bd.method).1
  have X0 : Stand p l e ({ frames := 0, cells := 0, slots := 0, locals := 0 } : Room) s m #[(.ref a8_0), (.int (1 : Int32)), (.long q8_2)] below meth c s₁ [] 0 0 := Stand.of_body Bd
  have e0 : s₁.heap = h0 := by rw [← hh, Bd.state]; rfl
  have N0 := Fr.nil n0
  have pre0 : ∀ t, Steps p.tables e below (s₁.setTop (mkF m 0 #[.val (.ref a8_0), .val (.int (1 : Int32)), .val (.long q8_2), .second, .unset] [])) t → Steps p.tables e below (s₁.setTop (entryFrame m #[(.ref a8_0), (.int (1 : Int32)), (.long q8_2)] 5)) t := fun t k => castTop (ef_rm8_2 m a8_0 q8_2) k
  obtain ⟨T1, X1, e1, st1⟩ := getF X0 hx hZ hown (host := "") (Or.inl (ow45 hw)) Via.refl e0 F_total_a8_0 (g := (mkF m 2 #[.val (.ref a8_0), .val (.int (1 : Int32)), .val (.long q8_2), .second, .unset] [(.ref a8_0), (.ref a8_0)])) rfl rfl (hb hby d8_2)
  obtain ⟨T2, h2, X2, e2, W2, st2⟩ := putF X1 hx hZ hown (host := "") (Or.inl (ow45 hw)) Via.refl e1 F_total_a8_0 E_a8_0 (Or.inl (ow46 hw)) (ow2 hw) (ty := .long) (by decide) rfl rfl (g := (mkF m 7 #[.val (.ref a8_0), .val (.int (1 : Int32)), .val (.long q8_2), .second, .unset] [(.long (w_total_a8_0 + q8_2)), (.ref a8_0)])) rfl rfl (hb hby d8_7)
  have F2 := F_total_a8_0.same W2
  have K2 : Keep h0 h2 [a8_0, w_tree_a8_0] := (Keep.refl h0 [a8_0, w_tree_a8_0]).wr W2 (Or.inl (List.mem_of_getElem? (i := 0) rfl))
  have Z2 : n0 ≤ h2.size := Nat.le_trans Z0 K2.1
  have N2 := Fr.snoc X2 N0 g_a8_0
  have f3 := (F_tree_a8_0.other W2 (Or.inr (slot_ne (Or.inl (ow12 hw)) (Or.inl (ow46 hw)) (by decide) (t := (.array .long)) (t' := .long) (by decide) (by decide))))
  obtain ⟨T4, X4, e4, st4⟩ := getF X2 hx hZ hown (host := "") (Or.inl (ow11 hw)) Via.refl e2 f3 (g := (mkF m 18 #[.val (.ref a8_0), .val (.int (1 : Int32)), .val (.long q8_2), .second, .val (.int (2 : Int32))] [(.ref a8_0), (.int (2 : Int32))])) rfl rfl (hb hby d8_18)
  have f5 := (V_w_tree_a8_0.other W2 ne_w_tree_a8_0_a8_0)
  obtain ⟨cl6, Ar6, qk6, Sz6, Nz6, Hh6, Gf6⟩ := id f5
  obtain ⟨T7, X7, e7, st7⟩ := getF X4 hx hZ hown (host := "") (Or.inl (ow11 hw)) Via.refl e4 f3 (g := (mkF m 26 #[.val (.ref a8_0), .val (.int (1 : Int32)), .val (.long q8_2), .second, .val (.int (2 : Int32))] [(.ref a8_0)])) rfl rfl (hb hby d8_26)
  obtain ⟨cl8, Ar8, qk8, Sz8, Nz8, Hh8, Gf8⟩ := id f5
  obtain ⟨cl9, Ar9, qk9, Sz9, Nz9, Hh9, Gf9⟩ := id f5
  obtain ⟨T10, h10, X10, e10, W10, st10⟩ := stJ X7 hx hZ e7 Ar9 (j := (1 : Int32)) (inb_of Sz9 ⟨by decide, by decide⟩) (g := (mkF m 37 #[.val (.ref a8_0), .val (.int (1 : Int32)), .val (.long q8_2), .second, .val (.int (2 : Int32))] [(.long (t_w_tree_a8_0_1 + q8_2)), (.int (1 : Int32)), (.ref w_tree_a8_0)])) rfl rfl (hb hby d8_37)
  have V10 : Arv Z h10 w_tree_a8_0 kc_w_tree_a8_0 .long (2 : Int32) [(.long t_w_tree_a8_0_0), (.long (t_w_tree_a8_0_1 + q8_2))] (.long (0 : Int64)) := Arv.set Ar9 qk9 Sz9 Nz9 Hh9 Gf9 rfl W10 1 rfl (Nat.le_of_ble_eq_true rfl)
  have K10 : Keep h0 h10 [a8_0, w_tree_a8_0] := K2.wr W10 (Or.inl (List.mem_of_getElem? (i := 1) rfl))
  have Z10 : n0 ≤ h10.size := Nat.le_trans Z0 K10.1
  have N10 := Fr.snoc X10 N2 g_w_tree_a8_0
  have f11 := (f3.other W10 (Or.inl (Ne.symm ne_w_tree_a8_0_a8_0)))
  obtain ⟨T12, X12, e12, st12⟩ := getF X10 hx hZ hown (host := "") (Or.inl (ow11 hw)) Via.refl e10 f11 (g := (mkF m 18 #[.val (.ref a8_0), .val (.int (1 : Int32)), .val (.long q8_2), .second, .val (.int (4 : Int32))] [(.ref a8_0), (.int (4 : Int32))])) rfl rfl (hb hby d8_18)
  obtain ⟨cl13, Ar13, qk13, Sz13, Nz13, Hh13, Gf13⟩ := id V10
  obtain ⟨fs, hr, hrun, hended, hW, hsame⟩ := X12.leave (v := none) (fun _ => rfl)
  refine ⟨_, _, pre0 _ ?_, hrun, hended, _, _, rfl, ?_, ⟨_, rfl⟩, hW, hsame.mono (by decide) (by decide)⟩
  · show Steps p.tables e below (s₁.setTop (mkF m 0 #[.val (.ref a8_0), .val (.int (1 : Int32)), .val (.long q8_2), .second, .unset] [])) _
    refine XS.aloadN X0.here hx rfl (hb hby d8_0) rfl rfl ?_
    refine XS.dup X0.here hx rfl (hb hby d8_1) rfl rfl ?_
    refine st1 _ ?_
    show Steps p.tables e below (T1.setTop (mkF m 5 #[.val (.ref a8_0), .val (.int (1 : Int32)), .val (.long q8_2), .second, .unset] [(.long w_total_a8_0), (.ref a8_0)])) _
    refine XS.lloadN X1.here hx rfl (hb hby d8_5) rfl ?_
    refine XS.ladd X1.here hx rfl (hb hby d8_6) rfl ?_
    refine st2 _ ?_
    show Steps p.tables e below (T2.setTop (mkF m 10 #[.val (.ref a8_0), .val (.int (1 : Int32)), .val (.long q8_2), .second, .unset] [])) _
    refine XS.iloadN X2.here hx rfl (hb hby d8_10) rfl ?_
    refine XS.iconst X2.here hx rfl (hb hby d8_11) ?_
    refine XS.iadd X2.here hx rfl (hb hby d8_12) rfl ?_
    show Steps p.tables e below (T2.setTop (mkF m 13 #[.val (.ref a8_0), .val (.int (1 : Int32)), .val (.long q8_2), .second, .unset] [(.int (2 : Int32))])) _
    refine XS.istore X2.here hx rfl (hb hby d8_13) rfl (l' := #[.val (.ref a8_0), .val (.int (1 : Int32)), .val (.long q8_2), .second, .val (.int (2 : Int32))]) rfl ?_
    refine XS.iload X2.here hx rfl (hb hby d8_15) rfl ?_
    refine XS.aloadN X2.here hx rfl (hb hby d8_17) rfl rfl ?_
    show Steps p.tables e below (T2.setTop (mkF m 18 #[.val (.ref a8_0), .val (.int (1 : Int32)), .val (.long q8_2), .second, .val (.int (2 : Int32))] [(.ref a8_0), (.int (2 : Int32))])) _
    refine st4 _ ?_
    show Steps p.tables e below (T4.setTop (mkF m 21 #[.val (.ref a8_0), .val (.int (1 : Int32)), .val (.long q8_2), .second, .val (.int (2 : Int32))] [(.ref w_tree_a8_0), (.int (2 : Int32))])) _
    refine X4.arraylength hx (cell := cl6) (by rw [e4]; exact Ar6.1) (State.isArrayOf_alike hZ.alike Ar6.2.1) (g := (mkF m 21 #[.val (.ref a8_0), .val (.int (1 : Int32)), .val (.long q8_2), .second, .val (.int (2 : Int32))] [(.ref w_tree_a8_0), (.int (2 : Int32))])) rfl (rest := [(.int (2 : Int32))]) rfl (hb hby d8_21) _ ?_
    rw [len_of Sz6 Nz6]
    show Steps p.tables e below (T4.setTop (mkF m 22 #[.val (.ref a8_0), .val (.int (1 : Int32)), .val (.long q8_2), .second, .val (.int (2 : Int32))] [(.int (2 : Int32)), (.int (2 : Int32))])) _
    refine XS.icmpNo X4.here hx rfl (hb hby d8_22) rfl (flt (by decide : ¬ ((2 : Int32) < (2 : Int32)))).2.2.1 ?_
    refine XS.aloadN X4.here hx rfl (hb hby d8_25) rfl rfl ?_
    refine st7 _ ?_
    show Steps p.tables e below (T7.setTop (mkF m 29 #[.val (.ref a8_0), .val (.int (1 : Int32)), .val (.long q8_2), .second, .val (.int (2 : Int32))] [(.ref w_tree_a8_0)])) _
    refine XS.iload X7.here hx rfl (hb hby d8_29) rfl ?_
    refine XS.iconst X7.here hx rfl (hb hby d8_31) ?_
    refine XS.isub X7.here hx rfl (hb hby d8_32) rfl ?_
    show Steps p.tables e below (T7.setTop (mkF m 33 #[.val (.ref a8_0), .val (.int (1 : Int32)), .val (.long q8_2), .second, .val (.int (2 : Int32))] [(.int (1 : Int32)), (.ref w_tree_a8_0)])) _
    jvm_step X7.here [X7.here.top, hx, (hb hby d8_33), Value.category]
    refine X7.laload hx (j := (1 : Int32)) (v := (.long t_w_tree_a8_0_1)) (by rw [e7]; exact Ar8.1) (State.isArrayOf_alike hZ.alike Ar8.2.1) Ar8.2.2 (inb_of Sz8 ⟨by decide, by decide⟩) (Hh8.at (inb_of Sz8 ⟨by decide, by decide⟩) rfl) (g := (mkF m 34 #[.val (.ref a8_0), .val (.int (1 : Int32)), .val (.long q8_2), .second, .val (.int (2 : Int32))] [(.int (1 : Int32)), (.ref w_tree_a8_0), (.int (1 : Int32)), (.ref w_tree_a8_0)])) rfl rfl (hb hby d8_34) _ ?_
    refine XS.lloadN X7.here hx rfl (hb hby d8_35) rfl ?_
    show Steps p.tables e below (T7.setTop (mkF m 36 #[.val (.ref a8_0), .val (.int (1 : Int32)), .val (.long q8_2), .second, .val (.int (2 : Int32))] [(.long q8_2), (.long t_w_tree_a8_0_1), (.int (1 : Int32)), (.ref w_tree_a8_0)])) _
    refine XS.ladd X7.here hx rfl (hb hby d8_36) rfl ?_
    refine st10 _ ?_
    refine XS.iload X10.here hx rfl (hb hby d8_38) rfl ?_
    show Steps p.tables e below (T10.setTop (mkF m 40 #[.val (.ref a8_0), .val (.int (1 : Int32)), .val (.long q8_2), .second, .val (.int (2 : Int32))] [(.int (2 : Int32))])) _
    refine XS.iload X10.here hx rfl (hb hby d8_40) rfl ?_
    refine XS.iload X10.here hx rfl (hb hby d8_42) rfl ?_
    refine XS.ineg X10.here hx rfl (hb hby d8_44) rfl ?_
    show Steps p.tables e below (T10.setTop (mkF m 45 #[.val (.ref a8_0), .val (.int (1 : Int32)), .val (.long q8_2), .second, .val (.int (2 : Int32))] [(.int (-2 : Int32)), (.int (2 : Int32)), (.int (2 : Int32))])) _
    refine XS.iand X10.here hx rfl (hb hby d8_45) rfl ?_
    refine XS.iadd X10.here hx rfl (hb hby d8_46) rfl ?_
    refine XS.istore X10.here hx rfl (hb hby d8_47) rfl (l' := #[.val (.ref a8_0), .val (.int (1 : Int32)), .val (.long q8_2), .second, .val (.int (4 : Int32))]) rfl ?_
    show Steps p.tables e below (T10.setTop (mkF m 49 #[.val (.ref a8_0), .val (.int (1 : Int32)), .val (.long q8_2), .second, .val (.int (4 : Int32))] [])) _
    refine XS.goto X10.here hx rfl (pc0 := 49) (pc' := 15) rfl (hb hby d8_49) (by decide) (by decide) ?_
    refine XS.iload X10.here hx rfl (hb hby d8_15) rfl ?_
    refine XS.aloadN X10.here hx rfl (hb hby d8_17) rfl rfl ?_
    show Steps p.tables e below (T10.setTop (mkF m 18 #[.val (.ref a8_0), .val (.int (1 : Int32)), .val (.long q8_2), .second, .val (.int (4 : Int32))] [(.ref a8_0), (.int (4 : Int32))])) _
    refine st12 _ ?_
    show Steps p.tables e below (T12.setTop (mkF m 21 #[.val (.ref a8_0), .val (.int (1 : Int32)), .val (.long q8_2), .second, .val (.int (4 : Int32))] [(.ref w_tree_a8_0), (.int (4 : Int32))])) _
    refine X12.arraylength hx (cell := cl13) (by rw [e12]; exact Ar13.1) (State.isArrayOf_alike hZ.alike Ar13.2.1) (g := (mkF m 21 #[.val (.ref a8_0), .val (.int (1 : Int32)), .val (.long q8_2), .second, .val (.int (4 : Int32))] [(.ref w_tree_a8_0), (.int (4 : Int32))])) rfl (rest := [(.int (4 : Int32))]) rfl (hb hby d8_21) _ ?_
    rw [len_of Sz13 Nz13]
    show Steps p.tables e below (T12.setTop (mkF m 22 #[.val (.ref a8_0), .val (.int (1 : Int32)), .val (.long q8_2), .second, .val (.int (4 : Int32))] [(.int (2 : Int32)), (.int (4 : Int32))])) _
    refine XS.icmpYes X12.here hx rfl (pc0 := 22) (pc' := 52) rfl (hb hby d8_22) rfl (tlt (by decide : (2 : Int32) < (4 : Int32))).2.2.1 (by decide) (by decide) ?_
    show Steps p.tables e below (T12.setTop (mkF m 52 #[.val (.ref a8_0), .val (.int (1 : Int32)), .val (.long q8_2), .second, .val (.int (4 : Int32))] [])) _
    exact X12.returnOut hx Bd.returns (hb hby d8_52) hr
  · have f14 := ((E_a8_0.wr W2).wr W10)
    have f15 := ((F_size_a8_0.other W2 (Or.inr (slot_ne (Or.inl (ow24 hw)) (Or.inl (ow46 hw)) (by decide) (t := .int) (t' := .long) (by decide) (by decide)))).other W10 (Or.inl (Ne.symm ne_w_tree_a8_0_a8_0)))
    have f16 := (F2.other W10 (Or.inl (Ne.symm ne_w_tree_a8_0_a8_0)))
    show Q_rm8_2 Z a8_0 q8_2 w_tree_a8_0 w_total_a8_0 kc_w_tree_a8_0 t_w_tree_a8_0_0 t_w_tree_a8_0_1 h0 n0 _ T12.heap _
    rw [e12]
    exact ⟨rfl, N10, K10, f14, f11, f15, f16, V10⟩
theorem ef_rm3_2 (m : MethodId) (y0 : Addr) (y1 : Int64) : entryFrame m #[(.ref y0), (.long y1)] 3 = mkF m 0 #[.val (.ref y0), .val (.long y1), .second] [] := by first | (simp [entryFrame, mkF, argsToLocals, Value.category]; done) | rfl
def Q_rm3_2 (Z : State) (a3_0 : Addr) (q3_1 : Int64) (w_tree_a3_0 : Addr) (w_total_a3_0 : Int64) (kc_w_tree_a3_0 : ClassId) (t_w_tree_a3_0_0 : Int64) (h0 : Heap) (n0 : Nat) (v : Option Value) (h : Heap) (L : List Loc) : Prop := ∃ bx3_0 : Addr, ∃ kx3_0 : ClassId, v = none ∧ Fr n0 L ∧ Keep h0 h [a3_0] ∧ h0.size ≤ bx3_0 ∧ Exa Z h a3_0 "com/example/motley/motley/CountTree" ∧ Fld Z h a3_0 "com/example/motley/motley/CountTree" "tree" "[J" (.ref bx3_0) ∧ Fld Z h a3_0 "com/example/motley/motley/CountTree" "size" "I" (.int (2 : Int32)) ∧ Fld Z h a3_0 "com/example/motley/motley/CountTree" "total" "J" (.long (w_total_a3_0 + q3_1)) ∧ Arv Z h bx3_0 kx3_0 .long (2 : Int32) [(.long t_w_tree_a3_0_0), (.long ((w_total_a3_0 - (0 : Int64)) + q3_1))] (.long (0 : Int64))
set_option maxRecDepth 65536 in
set_option maxHeartbeats 40000000 in
theorem rm3_2 (l : Launch) (Z : State) (a0 : Array Value) (hw : ∀ d ∈ tables_1, d.before a0 Z = true) (ws : List Jvm.Cond) (a3_0 : Addr) (q3_1 : Int64) (w_tree_a3_0 : Addr) (w_total_a3_0 : Int64) (kc_w_tree_a3_0 : ClassId) (t_w_tree_a3_0_0 : Int64) (h0 : Heap) (n0 : Nat) (Z0 : n0 ≤ h0.size) (E_a3_0 : Exa Z h0 a3_0 "com/example/motley/motley/CountTree") (F_tree_a3_0 : Fld Z h0 a3_0 "com/example/motley/motley/CountTree" "tree" "[J" (.ref w_tree_a3_0)) (F_size_a3_0 : Fld Z h0 a3_0 "com/example/motley/motley/CountTree" "size" "I" (.int (1 : Int32))) (F_total_a3_0 : Fld Z h0 a3_0 "com/example/motley/motley/CountTree" "total" "J" (.long w_total_a3_0)) (V_w_tree_a3_0 : Arv Z h0 w_tree_a3_0 kc_w_tree_a3_0 .long (1 : Int32) [(.long t_w_tree_a3_0_0)] (.long (0 : Int64))) (g_a3_0 : n0 ≤ a3_0) :
    MetFree l (⟨"com/example/motley/motley/CountTree", "append", "(J)V"⟩ : MethodName) (head1 (Jvm.Cond.code (⟨"com/example/motley/motley/CountTree", "append", "(J)V"⟩ : MethodName) prog_14_method_4_code 3 none :: ws) ({ frames := 3, cells := 1, slots := 2, locals := 50 } : Room)) (fun a U => a = #[(.ref a3_0), (.long q3_1)] ∧ Z.Warmed39 U.vm ∧ U.heap = h0) (fun _ _ _ _ _ => True) (fun _ U o U' => ∃ v L, o = .returned v ∧ Q_rm3_2 Z a3_0 q3_1 w_tree_a3_0 w_total_a3_0 kc_w_tree_a3_0 t_w_tree_a3_0_0 h0 n0 v U'.heap L ∧ FrameEnd U o U' L ({ frames := 3, cells := 1, slots := 2, locals := 50 } : Room).cells ({ frames := 3, cells := 1, slots := 2, locals := 50 } : Room).slots) := by
  refine MetFree.of_bodySF (plainFor_of_name pn_3) hisR ?_
  intro p e s m args below meth c s₁ Bd hml0 hP hK
  obtain ⟨rfl, hZ, hh⟩ := hP
  have hx := Bd.exec
  have hby := Bd.bytes
  have hml : c.maxLocals = 3 := hml0
  have hown : s.vm.findClass "com/example/motley/motley/CountTree" = some m.cls := findClass_of_methodNamed Bd.named
  have hnm := (name_of_methodNamed Bd.named Bd.method).1
  have X0 : Stand p l e ({ frames := 3, cells := 1, slots := 2, locals := 50 } : Room) s m #[(.ref a3_0), (.long q3_1)] below meth c s₁ [] 0 0 := Stand.of_body Bd
  have e0 : s₁.heap = h0 := by rw [← hh, Bd.state]; rfl
  have N0 := Fr.nil n0
  have pre0 : ∀ t, Steps p.tables e below (s₁.setTop (mkF m 0 #[.val (.ref a3_0), .val (.long q3_1), .second] [])) t → Steps p.tables e below (s₁.setTop (entryFrame m #[(.ref a3_0), (.long q3_1)] 3)) t := fun t k => castTop (ef_rm3_2 m a3_0 q3_1) k
  obtain ⟨cq1, kq1, q1a, q1b, q1c⟩ := isOf hZ e0 E_a3_0
  obtain ⟨_, _, ⟨T1, L1, k1, n1⟩, -, X1, ⟨Lc1, hQ1, l1, y1, z1⟩, st1⟩ := X0.virtualBack hx (y := (⟨"com/example/motley/motley/CountTree", "reserve", "(I)V"⟩ : MethodName)) (z := (⟨"com/example/motley/motley/CountTree", "reserve", "(I)V"⟩ : MethodName)) hown (mvT hZ (ow18 hw)) (mvT hZ (ow19 hw)) (notFace_of_selects (args := #[]) (mvT hZ (ow21 hw))) (mvT hZ (ow21 hw)) (mvT hZ (ow20 hw)) (by decide) (backOf (W := 0) (rm4_2 l Z a0 hw [] a3_0 w_tree_a3_0 w_total_a3_0 kc_w_tree_a3_0 t_w_tree_a3_0_0 h0 n0 Z0 E_a3_0 F_tree_a3_0 F_size_a3_0 F_total_a3_0 V_w_tree_a3_0 g_a3_0) hZ (ow22 hw) (ow3 hw) (by decide) (by decide)) q1a q1c (g := (mkF m 2 #[.val (.ref a3_0), .val (.long q3_1), .second] [(.int (1 : Int32)), (.ref a3_0)])) rfl (by rw [hml]; rfl) (Steps.refl _) (argsL := [(.int (1 : Int32))]) (rest := []) (lenOf pd__I_V rfl) rfl (by show 2 * 0 + _ ≤ _; exact Nat.le_of_eq rfl) (hb hby d3_2) (fun _ _ => ⟨rfl, e0, (by decide : 0 + 1 ≤ _), (by decide : 0 + 2 ≤ _)⟩)
  dsimp only [Pt.U, Pt.locs, Pt.cells, Pt.slots] at X1 l1 y1 z1 st1 hQ1
  subst l1 y1 z1
  obtain ⟨bx4_0_1, kx4_0_1, rfl, Nq1, Kc1, P1_0, P1_1, P1_2, P1_3, P1_4, P1_5⟩ := hQ1
  have K1 : Keep h0 T1.heap [a3_0] := Keep.trans (Keep.refl h0 [a3_0]) Kc1 (allS (P := fun x => x ∈ ([a3_0] : List Addr) ∨ h0.size ≤ x) (Or.inl (List.mem_of_getElem? (i := 0) rfl)) all0)
  have Z1 : n0 ≤ T1.heap.size := Nat.le_trans Z0 K1.1
  have g_bx4_0_1 : n0 ≤ bx4_0_1 := Nat.le_trans Z0 P1_0
  have sz_bx4_0_1 : h0.size ≤ bx4_0_1 := Nat.le_trans (Nat.le_refl _) P1_0
  have ne_a3_0_bx4_0_1 : a3_0 ≠ bx4_0_1 := Nat.ne_of_lt (Nat.lt_of_lt_of_le E_a3_0.lt P1_0)
  have ne_w_tree_a3_0_bx4_0_1 : w_tree_a3_0 ≠ bx4_0_1 := Nat.ne_of_lt (Nat.lt_of_lt_of_le V_w_tree_a3_0.lt P1_0)
  obtain ⟨y2, hy2⟩ : ∃ z : Int64, z = (w_total_a3_0 - (0 : Int64)) := ⟨_, rfl⟩
  rw [← hy2] at P1_5
  have N1 := Fr.app N0 Nq1
  obtain ⟨T3, X3, e3, st3⟩ := getF X1 hx hZ hown (host := "") (Or.inl (ow23 hw)) Via.refl rfl P1_3 (g := (mkF m 7 #[.val (.ref a3_0), .val (.long q3_1), .second] [(.ref a3_0), (.ref a3_0)])) rfl rfl (hb hby d3_7)
  obtain ⟨T4, h4, X4, e4, W4, st4⟩ := putF X3 hx hZ hown (host := "") (Or.inl (ow23 hw)) Via.refl e3 P1_3 P1_1 (Or.inl (ow24 hw)) (ow2 hw) (ty := .int) (by decide) rfl rfl (g := (mkF m 12 #[.val (.ref a3_0), .val (.long q3_1), .second] [(.int (2 : Int32)), (.ref a3_0)])) rfl rfl (hb hby d3_12)
  have F4 := P1_3.same W4
  have K4 : Keep h0 h4 [a3_0] := K1.wr W4 (Or.inl (List.mem_of_getElem? (i := 0) rfl))
  have Z4 : n0 ≤ h4.size := Nat.le_trans Z0 K4.1
  have N4 := Fr.snoc X4 N1 g_a3_0
  obtain ⟨T5, X5, e5, st5⟩ := getF X4 hx hZ hown (host := "") (Or.inl (ow23 hw)) Via.refl e4 F4 (g := (mkF m 17 #[.val (.ref a3_0), .val (.long q3_1), .second] [(.ref a3_0), (.ref a3_0)])) rfl rfl (hb hby d3_17)
  have f6 := (P1_5.other W4 (Ne.symm ne_a3_0_bx4_0_1))
  have f7 := (P1_1.wr W4)
  have f8 := (P1_2.other W4 (Or.inr (slot_ne (Or.inl (ow12 hw)) (Or.inl (ow24 hw)) (by decide) (t := (.array .long)) (t' := .int) (by decide) (by decide))))
  have f9 := (P1_4.other W4 (Or.inr (slot_ne (Or.inl (ow46 hw)) (Or.inl (ow24 hw)) (by decide) (t := .long) (t' := .int) (by decide) (by decide))))
  obtain ⟨cq10, kq10, q10a, q10b, q10c⟩ := isOf hZ e5 f7
  obtain ⟨_, _, ⟨T10, L10, k10, n10⟩, -, X10, ⟨Lc10, hQ10, l10, y10, z10⟩, st10⟩ := X5.virtualBack hx (y := (⟨"com/example/motley/motley/CountTree", "add", "(IJ)V"⟩ : MethodName)) (z := (⟨"com/example/motley/motley/CountTree", "add", "(IJ)V"⟩ : MethodName)) hown (mvT hZ (ow40 hw)) (mvT hZ (ow41 hw)) (notFace_of_selects (args := #[]) (mvT hZ (ow43 hw))) (mvT hZ (ow43 hw)) (mvT hZ (ow42 hw)) (by decide) (backOf (W := 0) (rm8_2 l Z a0 hw [] a3_0 q3_1 bx4_0_1 w_total_a3_0 kx4_0_1 t_w_tree_a3_0_0 y2 h4 n0 Z4 f7 f8 F4 f9 f6 g_a3_0 (Ne.symm ne_a3_0_bx4_0_1) g_bx4_0_1) hZ (ow44 hw) (ow3 hw) (by decide) (by decide)) q10a q10c (g := (mkF m 23 #[.val (.ref a3_0), .val (.long q3_1), .second] [(.long q3_1), (.int (1 : Int32)), (.ref a3_0)])) rfl (by rw [hml]; rfl) (Steps.refl _) (argsL := [(.int (1 : Int32)), (.long q3_1)]) (rest := []) (lenOf pd__IJ_V rfl) rfl (by show 2 * 0 + _ ≤ _; exact Nat.le_of_eq rfl) (hb hby d3_23) (fun _ _ => ⟨rfl, e5, (by decide : 1 + 0 ≤ _), (by decide : 2 + 0 ≤ _)⟩)
  dsimp only [Pt.U, Pt.locs, Pt.cells, Pt.slots] at X10 l10 y10 z10 st10 hQ10
  subst l10 y10 z10
  obtain ⟨rfl, Nq10, Kc10, P10_0, P10_1, P10_2, P10_3, P10_4⟩ := hQ10
  have K10 : Keep h0 T10.heap [a3_0] := Keep.trans K4 Kc10 (allS (P := fun x => x ∈ ([a3_0] : List Addr) ∨ h0.size ≤ x) (Or.inl (List.mem_of_getElem? (i := 0) rfl)) (allS (P := fun x => x ∈ ([a3_0] : List Addr) ∨ h0.size ≤ x) (Or.inr sz_bx4_0_1) all0))
  have Z10 : n0 ≤ T10.heap.size := Nat.le_trans Z0 K10.1
  obtain ⟨y11, hy11⟩ : ∃ z : Int64, z = (w_total_a3_0 + q3_1) := ⟨_, rfl⟩
  rw [← hy11] at P10_3
  obtain ⟨y12, hy12⟩ : ∃ z : Int64, z = (y2 + q3_1) := ⟨_, rfl⟩
  rw [← hy12] at P10_4
  have N10 := Fr.app N4 Nq10
  obtain ⟨fs, hr, hrun, hended, hW, hsame⟩ := X10.leave (v := none) (fun _ => rfl)
  refine ⟨_, _, pre0 _ ?_, hrun, hended, _, _, rfl, ?_, ⟨_, rfl⟩, hW, hsame.mono (by decide) (by decide)⟩
  · show Steps p.tables e below (s₁.setTop (mkF m 0 #[.val (.ref a3_0), .val (.long q3_1), .second] [])) _
    refine XS.aloadN X0.here hx rfl (hb hby d3_0) rfl rfl ?_
    refine XS.iconst X0.here hx rfl (hb hby d3_1) ?_
    refine st1.trans ?_
    show Steps p.tables e below (T1.setTop (mkF m 5 #[.val (.ref a3_0), .val (.long q3_1), .second] [])) _
    refine XS.aloadN X1.here hx rfl (hb hby d3_5) rfl rfl ?_
    refine XS.dup X1.here hx rfl (hb hby d3_6) rfl rfl ?_
    refine st3 _ ?_
    show Steps p.tables e below (T3.setTop (mkF m 10 #[.val (.ref a3_0), .val (.long q3_1), .second] [(.int (1 : Int32)), (.ref a3_0)])) _
    refine XS.iconst X3.here hx rfl (hb hby d3_10) ?_
    refine XS.iadd X3.here hx rfl (hb hby d3_11) rfl ?_
    refine st4 _ ?_
    show Steps p.tables e below (T4.setTop (mkF m 15 #[.val (.ref a3_0), .val (.long q3_1), .second] [])) _
    refine XS.aloadN X4.here hx rfl (hb hby d3_15) rfl rfl ?_
    refine XS.aloadN X4.here hx rfl (hb hby d3_16) rfl rfl ?_
    refine st5 _ ?_
    show Steps p.tables e below (T5.setTop (mkF m 20 #[.val (.ref a3_0), .val (.long q3_1), .second] [(.int (2 : Int32)), (.ref a3_0)])) _
    refine XS.iconst X5.here hx rfl (hb hby d3_20) ?_
    refine XS.isub X5.here hx rfl (hb hby d3_21) rfl ?_
    refine XS.lloadN X5.here hx rfl (hb hby d3_22) rfl ?_
    show Steps p.tables e below (T5.setTop (mkF m 23 #[.val (.ref a3_0), .val (.long q3_1), .second] [(.long q3_1), (.int (1 : Int32)), (.ref a3_0)])) _
    refine st10.trans ?_
    show Steps p.tables e below (T10.setTop (mkF m 26 #[.val (.ref a3_0), .val (.long q3_1), .second] [])) _
    exact X10.returnOut hx Bd.returns (hb hby d3_26) hr
  · show Q_rm3_2 Z a3_0 q3_1 w_tree_a3_0 w_total_a3_0 kc_w_tree_a3_0 t_w_tree_a3_0_0 h0 n0 _ T10.heap _
    subst hy12
    subst hy11
    subst hy2
    exact ⟨bx4_0_1, kx4_0_1, rfl, N10, K10, sz_bx4_0_1, P10_0, P10_1, P10_2, P10_3, P10_4⟩
theorem ef_rm9_4 (m : MethodId) (y0 : Addr) (y1 : Int32) : entryFrame m #[(.ref y0), (.int y1)] 5 = mkF m 0 #[.val (.ref y0), .val (.int y1), .unset, .unset, .unset] [] := by first | (simp [entryFrame, mkF, argsToLocals, Value.category]; done) | rfl
def Q_rm9_4 (Z : State) (a9_0 : Addr) (p9_1 : Int32) (w_tree_a9_0 : Addr) (w_total_a9_0 : Int64) (kc_w_tree_a9_0 : ClassId) (t_w_tree_a9_0_0 : Int64) (t_w_tree_a9_0_1 : Int64) (h0 : Heap) (n0 : Nat) (v : Option Value) (h : Heap) (L : List Loc) : Prop := v = some (.long (if p9_1 = (0 : Int32) then (0 : Int64) else (if p9_1 = (1 : Int32) then ((0 : Int64) + t_w_tree_a9_0_0) else ((0 : Int64) + t_w_tree_a9_0_1)))) ∧ Fr n0 L ∧ h = h0
set_option maxRecDepth 65536 in
set_option maxHeartbeats 40000000 in
theorem rm9_4 (l : Launch) (Z : State) (a0 : Array Value) (hw : ∀ d ∈ tables_1, d.before a0 Z = true) (ws : List Jvm.Cond) (a9_0 : Addr) (p9_1 : Int32) (w_tree_a9_0 : Addr) (w_total_a9_0 : Int64) (kc_w_tree_a9_0 : ClassId) (t_w_tree_a9_0_0 : Int64) (t_w_tree_a9_0_1 : Int64) (h0 : Heap) (n0 : Nat) (Z0 : n0 ≤ h0.size) (hq : p9_1 = (0 : Int32) ∨ p9_1 = (1 : Int32) ∨ p9_1 = (2 : Int32)) (E_a9_0 : Exa Z h0 a9_0 "com/example/motley/motley/CountTree") (F_tree_a9_0 : Fld Z h0 a9_0 "com/example/motley/motley/CountTree" "tree" "[J" (.ref w_tree_a9_0)) (F_size_a9_0 : Fld Z h0 a9_0 "com/example/motley/motley/CountTree" "size" "I" (.int (2 : Int32))) (F_total_a9_0 : Fld Z h0 a9_0 "com/example/motley/motley/CountTree" "total" "J" (.long w_total_a9_0)) (V_w_tree_a9_0 : Arv Z h0 w_tree_a9_0 kc_w_tree_a9_0 .long (2 : Int32) [(.long t_w_tree_a9_0_0), (.long t_w_tree_a9_0_1)] (.long (0 : Int64))) :
    MetFree l (⟨"com/example/motley/motley/CountTree", "sumBefore", "(I)J"⟩ : MethodName) (head1 (Jvm.Cond.code (⟨"com/example/motley/motley/CountTree", "sumBefore", "(I)J"⟩ : MethodName) prog_14_method_8_code 5 (some .long) :: ws) ({ frames := 0, cells := 0, slots := 0, locals := 0 } : Room)) (fun a U => a = #[(.ref a9_0), (.int p9_1)] ∧ Z.Warmed39 U.vm ∧ U.heap = h0) (fun _ _ _ _ _ => True) (fun _ U o U' => ∃ v L, o = .returned v ∧ Q_rm9_4 Z a9_0 p9_1 w_tree_a9_0 w_total_a9_0 kc_w_tree_a9_0 t_w_tree_a9_0_0 t_w_tree_a9_0_1 h0 n0 v U'.heap L ∧ FrameEnd U o U' L ({ frames := 0, cells := 0, slots := 0, locals := 0 } : Room).cells ({ frames := 0, cells := 0, slots := 0, locals := 0 } : Room).slots) := by
  refine MetFree.of_bodySF (plainFor_of_name pn_9) hisR ?_
  intro p e s m args below meth c s₁ Bd hml0 hP hK
  obtain ⟨rfl, hZ, hh⟩ := hP
  have hx := Bd.exec
  have hby := Bd.bytes
  have hml : c.maxLocals = 5 := hml0
  have hown : s.vm.findClass "com/example/motley/motley/CountTree" = some m.cls := findClass_of_methodNamed Bd.named
  have hnm := (name_of_methodNamed Bd.named Bd.method).1
  have X0 : Stand p l e ({ frames := 0, cells := 0, slots := 0, locals := 0 } : Room) s m #[(.ref a9_0), (.int p9_1)] below meth c s₁ [] 0 0 := Stand.of_body Bd
  have e0 : s₁.heap = h0 := by rw [← hh, Bd.state]; rfl
  have N0 := Fr.nil n0
  have pre0 : ∀ t, Steps p.tables e below (s₁.setTop (mkF m 0 #[.val (.ref a9_0), .val (.int p9_1), .unset, .unset, .unset] [])) t → Steps p.tables e below (s₁.setTop (entryFrame m #[(.ref a9_0), (.int p9_1)] 5)) t := fun t k => castTop (ef_rm9_4 m a9_0 p9_1) k
  by_cases hb1 : p9_1 = (0 : Int32)
  · have own_t1 : True := trivial
    obtain ⟨fs, hr, hrun, hended, hW, hsame⟩ := X0.leave (v := some (.long (0 : Int64))) (fun h => by rw [Bd.returns] at h; cases h)
    refine ⟨_, _, pre0 _ ?_, hrun, hended, _, _, rfl, ?_, ⟨_, rfl⟩, hW, hsame.mono (by decide) (by decide)⟩
    · show Steps p.tables e below (s₁.setTop (mkF m 0 #[.val (.ref a9_0), .val (.int p9_1), .unset, .unset, .unset] [])) _
      rw [hb1]
      show Steps p.tables e below (s₁.setTop (mkF m 0 #[.val (.ref a9_0), .val (.int (0 : Int32)), .unset, .unset, .unset] [])) _
      refine XS.lconst X0.here hx rfl (hb hby d9_0) ?_
      refine XS.lstoreN X0.here hx rfl (hb hby d9_1) rfl (l' := #[.val (.ref a9_0), .val (.int (0 : Int32)), .val (.long (0 : Int64)), .second, .unset]) rfl ?_
      refine XS.iloadN X0.here hx rfl (hb hby d9_2) rfl ?_
      show Steps p.tables e below (s₁.setTop (mkF m 3 #[.val (.ref a9_0), .val (.int (0 : Int32)), .val (.long (0 : Int64)), .second, .unset] [(.int (0 : Int32))])) _
      refine XS.istore X0.here hx rfl (hb hby d9_3) rfl (l' := #[.val (.ref a9_0), .val (.int (0 : Int32)), .val (.long (0 : Int64)), .second, .val (.int (0 : Int32))]) rfl ?_
      refine XS.iload X0.here hx rfl (hb hby d9_5) rfl ?_
      show Steps p.tables e below (s₁.setTop (mkF m 7 #[.val (.ref a9_0), .val (.int (0 : Int32)), .val (.long (0 : Int64)), .second, .val (.int (0 : Int32))] [(.int (0 : Int32))])) _
      refine XS.ifYes X0.here hx rfl (pc0 := 7) (pc' := 36) rfl (hb hby d9_7) rfl ((if0 _ _).trans (flt (by decide : ¬ ((0 : Int32) < (0 : Int32)))).2.2.2) (by decide) (by decide) ?_
      refine XS.lloadN X0.here hx rfl (hb hby d9_36) rfl ?_
      show Steps p.tables e below (s₁.setTop (mkF m 37 #[.val (.ref a9_0), .val (.int (0 : Int32)), .val (.long (0 : Int64)), .second, .val (.int (0 : Int32))] [(.long (0 : Int64))])) _
      exact own_retJ X0 hx Bd.returns (hb hby d9_37) hr
    · show Q_rm9_4 Z a9_0 p9_1 w_tree_a9_0 w_total_a9_0 kc_w_tree_a9_0 t_w_tree_a9_0_0 t_w_tree_a9_0_1 h0 n0 _ s₁.heap _
      rw [e0]
      exact ⟨(congrArg (fun z => some (Value.long z)) (if_pos hb1).symm), N0, rfl⟩
  · have own_u1 : True := trivial
    by_cases hb2 : p9_1 = (1 : Int32)
    · have own_t2 : True := trivial
      obtain ⟨T3, X3, e3, st3⟩ := getF X0 hx hZ hown (host := "") (Or.inl (ow11 hw)) Via.refl e0 F_tree_a9_0 (g := (mkF m 12 #[.val (.ref a9_0), .val (.int (1 : Int32)), .val (.long (0 : Int64)), .second, .val (.int (1 : Int32))] [(.ref a9_0), (.long (0 : Int64))])) rfl rfl (hb hby d9_12)
      obtain ⟨cl4, Ar4, qk4, Sz4, Nz4, Hh4, Gf4⟩ := id V_w_tree_a9_0
      obtain ⟨fs, hr, hrun, hended, hW, hsame⟩ := X3.leave (v := some (.long ((0 : Int64) + t_w_tree_a9_0_0))) (fun h => by rw [Bd.returns] at h; cases h)
      refine ⟨_, _, pre0 _ ?_, hrun, hended, _, _, rfl, ?_, ⟨_, rfl⟩, hW, hsame.mono (by decide) (by decide)⟩
      · show Steps p.tables e below (s₁.setTop (mkF m 0 #[.val (.ref a9_0), .val (.int p9_1), .unset, .unset, .unset] [])) _
        rw [hb2]
        show Steps p.tables e below (s₁.setTop (mkF m 0 #[.val (.ref a9_0), .val (.int (1 : Int32)), .unset, .unset, .unset] [])) _
        refine XS.lconst X0.here hx rfl (hb hby d9_0) ?_
        refine XS.lstoreN X0.here hx rfl (hb hby d9_1) rfl (l' := #[.val (.ref a9_0), .val (.int (1 : Int32)), .val (.long (0 : Int64)), .second, .unset]) rfl ?_
        refine XS.iloadN X0.here hx rfl (hb hby d9_2) rfl ?_
        show Steps p.tables e below (s₁.setTop (mkF m 3 #[.val (.ref a9_0), .val (.int (1 : Int32)), .val (.long (0 : Int64)), .second, .unset] [(.int (1 : Int32))])) _
        refine XS.istore X0.here hx rfl (hb hby d9_3) rfl (l' := #[.val (.ref a9_0), .val (.int (1 : Int32)), .val (.long (0 : Int64)), .second, .val (.int (1 : Int32))]) rfl ?_
        refine XS.iload X0.here hx rfl (hb hby d9_5) rfl ?_
        show Steps p.tables e below (s₁.setTop (mkF m 7 #[.val (.ref a9_0), .val (.int (1 : Int32)), .val (.long (0 : Int64)), .second, .val (.int (1 : Int32))] [(.int (1 : Int32))])) _
        refine XS.ifNo X0.here hx rfl (hb hby d9_7) rfl ((if0 _ _).trans (tlt (by decide : (0 : Int32) < (1 : Int32))).2.2.2) ?_
        refine XS.lloadN X0.here hx rfl (hb hby d9_10) rfl ?_
        refine XS.aloadN X0.here hx rfl (hb hby d9_11) rfl rfl ?_
        show Steps p.tables e below (s₁.setTop (mkF m 12 #[.val (.ref a9_0), .val (.int (1 : Int32)), .val (.long (0 : Int64)), .second, .val (.int (1 : Int32))] [(.ref a9_0), (.long (0 : Int64))])) _
        refine st3 _ ?_
        refine XS.iload X3.here hx rfl (hb hby d9_15) rfl ?_
        refine XS.iconst X3.here hx rfl (hb hby d9_17) ?_
        show Steps p.tables e below (T3.setTop (mkF m 18 #[.val (.ref a9_0), .val (.int (1 : Int32)), .val (.long (0 : Int64)), .second, .val (.int (1 : Int32))] [(.int (1 : Int32)), (.int (1 : Int32)), (.ref w_tree_a9_0), (.long (0 : Int64))])) _
        refine XS.isub X3.here hx rfl (hb hby d9_18) rfl ?_
        refine X3.laload hx (j := (0 : Int32)) (v := (.long t_w_tree_a9_0_0)) (by rw [e3]; exact Ar4.1) (State.isArrayOf_alike hZ.alike Ar4.2.1) Ar4.2.2 (inb_of Sz4 ⟨by decide, by decide⟩) (Hh4.at (inb_of Sz4 ⟨by decide, by decide⟩) rfl) (g := (mkF m 19 #[.val (.ref a9_0), .val (.int (1 : Int32)), .val (.long (0 : Int64)), .second, .val (.int (1 : Int32))] [(.int (0 : Int32)), (.ref w_tree_a9_0), (.long (0 : Int64))])) rfl rfl (hb hby d9_19) _ ?_
        refine XS.ladd X3.here hx rfl (hb hby d9_20) rfl ?_
        show Steps p.tables e below (T3.setTop (mkF m 21 #[.val (.ref a9_0), .val (.int (1 : Int32)), .val (.long (0 : Int64)), .second, .val (.int (1 : Int32))] [(.long ((0 : Int64) + t_w_tree_a9_0_0))])) _
        refine XS.lstoreN X3.here hx rfl (hb hby d9_21) rfl (l' := #[.val (.ref a9_0), .val (.int (1 : Int32)), .val (.long ((0 : Int64) + t_w_tree_a9_0_0)), .second, .val (.int (1 : Int32))]) rfl ?_
        refine XS.iload X3.here hx rfl (hb hby d9_22) rfl ?_
        refine XS.iload X3.here hx rfl (hb hby d9_24) rfl ?_
        show Steps p.tables e below (T3.setTop (mkF m 26 #[.val (.ref a9_0), .val (.int (1 : Int32)), .val (.long ((0 : Int64) + t_w_tree_a9_0_0)), .second, .val (.int (1 : Int32))] [(.int (1 : Int32)), (.int (1 : Int32))])) _
        refine XS.iload X3.here hx rfl (hb hby d9_26) rfl ?_
        refine XS.ineg X3.here hx rfl (hb hby d9_28) rfl ?_
        refine XS.iand X3.here hx rfl (hb hby d9_29) rfl ?_
        show Steps p.tables e below (T3.setTop (mkF m 30 #[.val (.ref a9_0), .val (.int (1 : Int32)), .val (.long ((0 : Int64) + t_w_tree_a9_0_0)), .second, .val (.int (1 : Int32))] [(.int (1 : Int32)), (.int (1 : Int32))])) _
        refine XS.isub X3.here hx rfl (hb hby d9_30) rfl ?_
        refine XS.istore X3.here hx rfl (hb hby d9_31) rfl (l' := #[.val (.ref a9_0), .val (.int (1 : Int32)), .val (.long ((0 : Int64) + t_w_tree_a9_0_0)), .second, .val (.int (0 : Int32))]) rfl ?_
        refine XS.goto X3.here hx rfl (pc0 := 33) (pc' := 5) rfl (hb hby d9_33) (by decide) (by decide) ?_
        show Steps p.tables e below (T3.setTop (mkF m 5 #[.val (.ref a9_0), .val (.int (1 : Int32)), .val (.long ((0 : Int64) + t_w_tree_a9_0_0)), .second, .val (.int (0 : Int32))] [])) _
        refine XS.iload X3.here hx rfl (hb hby d9_5) rfl ?_
        show Steps p.tables e below (T3.setTop (mkF m 7 #[.val (.ref a9_0), .val (.int (1 : Int32)), .val (.long ((0 : Int64) + t_w_tree_a9_0_0)), .second, .val (.int (0 : Int32))] [(.int (0 : Int32))])) _
        refine XS.ifYes X3.here hx rfl (pc0 := 7) (pc' := 36) rfl (hb hby d9_7) rfl ((if0 _ _).trans (flt (by decide : ¬ ((0 : Int32) < (0 : Int32)))).2.2.2) (by decide) (by decide) ?_
        refine XS.lloadN X3.here hx rfl (hb hby d9_36) rfl ?_
        show Steps p.tables e below (T3.setTop (mkF m 37 #[.val (.ref a9_0), .val (.int (1 : Int32)), .val (.long ((0 : Int64) + t_w_tree_a9_0_0)), .second, .val (.int (0 : Int32))] [(.long ((0 : Int64) + t_w_tree_a9_0_0))])) _
        exact own_retJ X3 hx Bd.returns (hb hby d9_37) hr
      · show Q_rm9_4 Z a9_0 p9_1 w_tree_a9_0 w_total_a9_0 kc_w_tree_a9_0 t_w_tree_a9_0_0 t_w_tree_a9_0_1 h0 n0 _ T3.heap _
        rw [e3]
        exact ⟨(congrArg (fun z => some (Value.long z)) ((if_neg hb1).trans (if_pos hb2)).symm), N0, rfl⟩
    · have own_u2 : True := trivial
      have hl5 : p9_1 = (2 : Int32) := ((hq.resolve_left hb1).resolve_left hb2)
      obtain ⟨T6, X6, e6, st6⟩ := getF X0 hx hZ hown (host := "") (Or.inl (ow11 hw)) Via.refl e0 F_tree_a9_0 (g := (mkF m 12 #[.val (.ref a9_0), .val (.int (2 : Int32)), .val (.long (0 : Int64)), .second, .val (.int (2 : Int32))] [(.ref a9_0), (.long (0 : Int64))])) rfl rfl (hb hby d9_12)
      obtain ⟨cl7, Ar7, qk7, Sz7, Nz7, Hh7, Gf7⟩ := id V_w_tree_a9_0
      obtain ⟨fs, hr, hrun, hended, hW, hsame⟩ := X6.leave (v := some (.long ((0 : Int64) + t_w_tree_a9_0_1))) (fun h => by rw [Bd.returns] at h; cases h)
      refine ⟨_, _, pre0 _ ?_, hrun, hended, _, _, rfl, ?_, ⟨_, rfl⟩, hW, hsame.mono (by decide) (by decide)⟩
      · show Steps p.tables e below (s₁.setTop (mkF m 0 #[.val (.ref a9_0), .val (.int p9_1), .unset, .unset, .unset] [])) _
        rw [hl5]
        show Steps p.tables e below (s₁.setTop (mkF m 0 #[.val (.ref a9_0), .val (.int (2 : Int32)), .unset, .unset, .unset] [])) _
        refine XS.lconst X0.here hx rfl (hb hby d9_0) ?_
        refine XS.lstoreN X0.here hx rfl (hb hby d9_1) rfl (l' := #[.val (.ref a9_0), .val (.int (2 : Int32)), .val (.long (0 : Int64)), .second, .unset]) rfl ?_
        refine XS.iloadN X0.here hx rfl (hb hby d9_2) rfl ?_
        show Steps p.tables e below (s₁.setTop (mkF m 3 #[.val (.ref a9_0), .val (.int (2 : Int32)), .val (.long (0 : Int64)), .second, .unset] [(.int (2 : Int32))])) _
        refine XS.istore X0.here hx rfl (hb hby d9_3) rfl (l' := #[.val (.ref a9_0), .val (.int (2 : Int32)), .val (.long (0 : Int64)), .second, .val (.int (2 : Int32))]) rfl ?_
        refine XS.iload X0.here hx rfl (hb hby d9_5) rfl ?_
        show Steps p.tables e below (s₁.setTop (mkF m 7 #[.val (.ref a9_0), .val (.int (2 : Int32)), .val (.long (0 : Int64)), .second, .val (.int (2 : Int32))] [(.int (2 : Int32))])) _
        refine XS.ifNo X0.here hx rfl (hb hby d9_7) rfl ((if0 _ _).trans (tlt (by decide : (0 : Int32) < (2 : Int32))).2.2.2) ?_
        refine XS.lloadN X0.here hx rfl (hb hby d9_10) rfl ?_
        refine XS.aloadN X0.here hx rfl (hb hby d9_11) rfl rfl ?_
        show Steps p.tables e below (s₁.setTop (mkF m 12 #[.val (.ref a9_0), .val (.int (2 : Int32)), .val (.long (0 : Int64)), .second, .val (.int (2 : Int32))] [(.ref a9_0), (.long (0 : Int64))])) _
        refine st6 _ ?_
        refine XS.iload X6.here hx rfl (hb hby d9_15) rfl ?_
        refine XS.iconst X6.here hx rfl (hb hby d9_17) ?_
        show Steps p.tables e below (T6.setTop (mkF m 18 #[.val (.ref a9_0), .val (.int (2 : Int32)), .val (.long (0 : Int64)), .second, .val (.int (2 : Int32))] [(.int (1 : Int32)), (.int (2 : Int32)), (.ref w_tree_a9_0), (.long (0 : Int64))])) _
        refine XS.isub X6.here hx rfl (hb hby d9_18) rfl ?_
        refine X6.laload hx (j := (1 : Int32)) (v := (.long t_w_tree_a9_0_1)) (by rw [e6]; exact Ar7.1) (State.isArrayOf_alike hZ.alike Ar7.2.1) Ar7.2.2 (inb_of Sz7 ⟨by decide, by decide⟩) (Hh7.at (inb_of Sz7 ⟨by decide, by decide⟩) rfl) (g := (mkF m 19 #[.val (.ref a9_0), .val (.int (2 : Int32)), .val (.long (0 : Int64)), .second, .val (.int (2 : Int32))] [(.int (1 : Int32)), (.ref w_tree_a9_0), (.long (0 : Int64))])) rfl rfl (hb hby d9_19) _ ?_
        refine XS.ladd X6.here hx rfl (hb hby d9_20) rfl ?_
        show Steps p.tables e below (T6.setTop (mkF m 21 #[.val (.ref a9_0), .val (.int (2 : Int32)), .val (.long (0 : Int64)), .second, .val (.int (2 : Int32))] [(.long ((0 : Int64) + t_w_tree_a9_0_1))])) _
        refine XS.lstoreN X6.here hx rfl (hb hby d9_21) rfl (l' := #[.val (.ref a9_0), .val (.int (2 : Int32)), .val (.long ((0 : Int64) + t_w_tree_a9_0_1)), .second, .val (.int (2 : Int32))]) rfl ?_
        refine XS.iload X6.here hx rfl (hb hby d9_22) rfl ?_
        refine XS.iload X6.here hx rfl (hb hby d9_24) rfl ?_
        show Steps p.tables e below (T6.setTop (mkF m 26 #[.val (.ref a9_0), .val (.int (2 : Int32)), .val (.long ((0 : Int64) + t_w_tree_a9_0_1)), .second, .val (.int (2 : Int32))] [(.int (2 : Int32)), (.int (2 : Int32))])) _
        refine XS.iload X6.here hx rfl (hb hby d9_26) rfl ?_
        refine XS.ineg X6.here hx rfl (hb hby d9_28) rfl ?_
        refine XS.iand X6.here hx rfl (hb hby d9_29) rfl ?_
        show Steps p.tables e below (T6.setTop (mkF m 30 #[.val (.ref a9_0), .val (.int (2 : Int32)), .val (.long ((0 : Int64) + t_w_tree_a9_0_1)), .second, .val (.int (2 : Int32))] [(.int (2 : Int32)), (.int (2 : Int32))])) _
        refine XS.isub X6.here hx rfl (hb hby d9_30) rfl ?_
        refine XS.istore X6.here hx rfl (hb hby d9_31) rfl (l' := #[.val (.ref a9_0), .val (.int (2 : Int32)), .val (.long ((0 : Int64) + t_w_tree_a9_0_1)), .second, .val (.int (0 : Int32))]) rfl ?_
        refine XS.goto X6.here hx rfl (pc0 := 33) (pc' := 5) rfl (hb hby d9_33) (by decide) (by decide) ?_
        show Steps p.tables e below (T6.setTop (mkF m 5 #[.val (.ref a9_0), .val (.int (2 : Int32)), .val (.long ((0 : Int64) + t_w_tree_a9_0_1)), .second, .val (.int (0 : Int32))] [])) _
        refine XS.iload X6.here hx rfl (hb hby d9_5) rfl ?_
        show Steps p.tables e below (T6.setTop (mkF m 7 #[.val (.ref a9_0), .val (.int (2 : Int32)), .val (.long ((0 : Int64) + t_w_tree_a9_0_1)), .second, .val (.int (0 : Int32))] [(.int (0 : Int32))])) _
        refine XS.ifYes X6.here hx rfl (pc0 := 7) (pc' := 36) rfl (hb hby d9_7) rfl ((if0 _ _).trans (flt (by decide : ¬ ((0 : Int32) < (0 : Int32)))).2.2.2) (by decide) (by decide) ?_
        refine XS.lloadN X6.here hx rfl (hb hby d9_36) rfl ?_
        show Steps p.tables e below (T6.setTop (mkF m 37 #[.val (.ref a9_0), .val (.int (2 : Int32)), .val (.long ((0 : Int64) + t_w_tree_a9_0_1)), .second, .val (.int (0 : Int32))] [(.long ((0 : Int64) + t_w_tree_a9_0_1))])) _
        exact own_retJ X6 hx Bd.returns (hb hby d9_37) hr
      · show Q_rm9_4 Z a9_0 p9_1 w_tree_a9_0 w_total_a9_0 kc_w_tree_a9_0 t_w_tree_a9_0_0 t_w_tree_a9_0_1 h0 n0 _ T6.heap _
        rw [e6]
        exact ⟨(congrArg (fun z => some (Value.long z)) ((if_neg hb1).trans (if_neg hb2)).symm), N0, rfl⟩
theorem own_fin3 (q0_0 : Int64) (q0_1 : Int64) (q0_2 : Int64) (q0_3 : Int64) (q0_4 : Int64) (p0_5 : Int32) (x2 : Int64) (hx2 : x2 = (q0_0 &&& (9223372036854775807 : Int64))) (x4 : Int64) (hx4 : x4 = (q0_1 &&& (9223372036854775807 : Int64))) (x6 : Int64) (hx6 : x6 = (q0_2 &&& (9223372036854775807 : Int64))) (x8 : Int64) (hx8 : x8 = (q0_3 &&& (9223372036854775807 : Int64))) (x10 : Int64) (hx10 : x10 = (q0_4 &&& (9223372036854775807 : Int64))) (x12 : Int32) (hx12 : x12 = ((p0_5 &&& (7 : Int32)) % (6 : Int32))) (x109 : Int32) (hx109 : x109 = ((((p0_5.toUInt32 >>> ((3 : Int32) &&& 31).toUInt32).toInt32) &&& (7 : Int32)) % (3 : Int32))) (y115 : Int64) (hy115 : y115 = ((0 : Int64) + x2)) (y118 : Int64) (hy118 : y118 = (((0 : Int64) + x2) + x4)) (y119 : Int64) (hy119 : y119 = ((((0 : Int64) + x2) - (0 : Int64)) + x4)) (v124 : Int64) (hv124 : v124 = (if (0 : Int32) < x109 then ((0 : Int64) + x2) else (0 : Int64))) (v130 : Int64) (hv130 : v130 = (if (1 : Int32) < x109 then (v124 + x4) else v124)) (v136 : Int64) (hv136 : v136 = (if (2 : Int32) < x109 then (v130 + x6) else v130)) (v142 : Int64) (hv142 : v142 = (if (3 : Int32) < x109 then (v136 + x8) else v136)) (v148 : Int64) (hv148 : v148 = (if (4 : Int32) < x109 then (v142 + x10) else v142)) (x152 : Int64) (hx152 : x152 = (if x109 = (0 : Int32) then (0 : Int64) else (if x109 = (1 : Int32) then ((0 : Int64) + y115) else ((0 : Int64) + y119)))) (v155 : Int32) (hv155 : v155 = (if x152 = v148 then (1 : Int32) else (0 : Int32))) (hc17 : x12 = (2 : Int32)) : v155 = (1 : Int32) := by
  have hp := own_p3 ((p0_5.toUInt32 >>> ((3 : Int32) &&& 31).toUInt32).toInt32) x109 hx109
  clear hx109
  have e : x152 = v148 := by
    clear hv155
    simp only [hy115, hy118, hy119, hv124, hv130, hv136, hv142, hv148, hx152]
    rcases hp with rfl | rfl | rfl <;> first | (simp +decide only [↓reduceIte] <;> first | rfl | grind) | (simp +decide <;> grind) | grind
  rw [hv155, if_pos e]
theorem d5_9 : decode jdk_29_method_65_code 9 = .ok (.iload_n 1, 1) := by decide +kernel
theorem ef_rm5_3 (m : MethodId)  : entryFrame m #[(.int (3 : Int32)), (.int (4 : Int32))] 2 = mkF m 0 #[.val (.int (3 : Int32)), .val (.int (4 : Int32))] [] := by first | (simp [entryFrame, mkF, argsToLocals, Value.category]; done) | rfl
def Q_rm5_3 (Z : State)  (h0 : Heap) (n0 : Nat) (v : Option Value) (h : Heap) (L : List Loc) : Prop := v = some (.int (4 : Int32)) ∧ Fr n0 L ∧ h = h0
set_option maxRecDepth 65536 in
set_option maxHeartbeats 40000000 in
theorem rm5_3 (l : Launch) (Z : State) (a0 : Array Value) (hw : ∀ d ∈ tables_1, d.before a0 Z = true) (ws : List Jvm.Cond)  (h0 : Heap) (n0 : Nat) (Z0 : n0 ≤ h0.size) :
    MetFree l (⟨"java/lang/Math", "max", "(II)I"⟩ : MethodName) (head1 (Jvm.Cond.code (⟨"java/lang/Math", "max", "(II)I"⟩ : MethodName) jdk_29_method_65_code 2 (some .int) :: ws) ({ frames := 0, cells := 0, slots := 0, locals := 0 } : Room)) (fun a U => a = #[(.int (3 : Int32)), (.int (4 : Int32))] ∧ Z.Warmed39 U.vm ∧ U.heap = h0) (fun _ _ _ _ _ => True) (fun _ U o U' => ∃ v L, o = .returned v ∧ Q_rm5_3 Z  h0 n0 v U'.heap L ∧ FrameEnd U o U' L ({ frames := 0, cells := 0, slots := 0, locals := 0 } : Room).cells ({ frames := 0, cells := 0, slots := 0, locals := 0 } : Room).slots) := by
  refine MetFree.of_bodySF (Jvm.Free.JP.mathPlain rfl (by decide +kernel)) hisR ?_
  intro p e s m args below meth c s₁ Bd hml0 hP hK
  obtain ⟨rfl, hZ, hh⟩ := hP
  have hx := Bd.exec
  have hby := Bd.bytes
  have hml : c.maxLocals = 2 := hml0
  have hown : s.vm.findClass "java/lang/Math" = some m.cls := findClass_of_methodNamed Bd.named
  have hnm := (name_of_methodNamed Bd.named Bd.method).1
  have X0 : Stand p l e ({ frames := 0, cells := 0, slots := 0, locals := 0 } : Room) s m #[(.int (3 : Int32)), (.int (4 : Int32))] below meth c s₁ [] 0 0 := Stand.of_body Bd
  have e0 : s₁.heap = h0 := by rw [← hh, Bd.state]; rfl
  have N0 := Fr.nil n0
  have pre0 : ∀ t, Steps p.tables e below (s₁.setTop (mkF m 0 #[.val (.int (3 : Int32)), .val (.int (4 : Int32))] [])) t → Steps p.tables e below (s₁.setTop (entryFrame m #[(.int (3 : Int32)), (.int (4 : Int32))] 2)) t := fun t k => castTop (ef_rm5_3 m ) k
  obtain ⟨fs, hr, hrun, hended, hW, hsame⟩ := X0.leave (v := some (.int (4 : Int32))) (fun h => by rw [Bd.returns] at h; cases h)
  refine ⟨_, _, pre0 _ ?_, hrun, hended, _, _, rfl, ?_, ⟨_, rfl⟩, hW, hsame.mono (by decide) (by decide)⟩
  · show Steps p.tables e below (s₁.setTop (mkF m 0 #[.val (.int (3 : Int32)), .val (.int (4 : Int32))] [])) _
    refine XS.iloadN X0.here hx rfl (hb hby d5_0) rfl ?_
    refine XS.iloadN X0.here hx rfl (hb hby d5_1) rfl ?_
    show Steps p.tables e below (s₁.setTop (mkF m 2 #[.val (.int (3 : Int32)), .val (.int (4 : Int32))] [(.int (4 : Int32)), (.int (3 : Int32))])) _
    refine XS.icmpYes X0.here hx rfl (pc0 := 2) (pc' := 9) rfl (hb hby d5_2) rfl (tlt (by decide : (3 : Int32) < (4 : Int32))).1 (by decide) (by decide) ?_
    refine XS.iloadN X0.here hx rfl (hb hby d5_9) rfl ?_
    show Steps p.tables e below (s₁.setTop (mkF m 10 #[.val (.int (3 : Int32)), .val (.int (4 : Int32))] [(.int (4 : Int32))])) _
    exact retI X0 hx Bd.returns (hb hby d5_10) hr
  · show Q_rm5_3 Z  h0 n0 _ s₁.heap _
    rw [e0]
    exact ⟨rfl, N0, rfl⟩
theorem ef_rm7_3 (m : MethodId)  : entryFrame m #[(.int (2 : Int32)), (.int (4 : Int32))] 2 = mkF m 0 #[.val (.int (2 : Int32)), .val (.int (4 : Int32))] [] := by first | (simp [entryFrame, mkF, argsToLocals, Value.category]; done) | rfl
def Q_rm7_3 (Z : State)  (h0 : Heap) (n0 : Nat) (v : Option Value) (h : Heap) (L : List Loc) : Prop := v = some (.int (2 : Int32)) ∧ Fr n0 L ∧ h = h0
set_option maxRecDepth 65536 in
set_option maxHeartbeats 40000000 in
theorem rm7_3 (l : Launch) (Z : State) (a0 : Array Value) (hw : ∀ d ∈ tables_1, d.before a0 Z = true) (ws : List Jvm.Cond)  (h0 : Heap) (n0 : Nat) (Z0 : n0 ≤ h0.size) :
    MetFree l (⟨"java/lang/Math", "min", "(II)I"⟩ : MethodName) (head1 (Jvm.Cond.code (⟨"java/lang/Math", "min", "(II)I"⟩ : MethodName) jdk_29_method_69_code 2 (some .int) :: ws) ({ frames := 0, cells := 0, slots := 0, locals := 0 } : Room)) (fun a U => a = #[(.int (2 : Int32)), (.int (4 : Int32))] ∧ Z.Warmed39 U.vm ∧ U.heap = h0) (fun _ _ _ _ _ => True) (fun _ U o U' => ∃ v L, o = .returned v ∧ Q_rm7_3 Z  h0 n0 v U'.heap L ∧ FrameEnd U o U' L ({ frames := 0, cells := 0, slots := 0, locals := 0 } : Room).cells ({ frames := 0, cells := 0, slots := 0, locals := 0 } : Room).slots) := by
  refine MetFree.of_bodySF (Jvm.Free.JP.mathPlain rfl (by decide +kernel)) hisR ?_
  intro p e s m args below meth c s₁ Bd hml0 hP hK
  obtain ⟨rfl, hZ, hh⟩ := hP
  have hx := Bd.exec
  have hby := Bd.bytes
  have hml : c.maxLocals = 2 := hml0
  have hown : s.vm.findClass "java/lang/Math" = some m.cls := findClass_of_methodNamed Bd.named
  have hnm := (name_of_methodNamed Bd.named Bd.method).1
  have X0 : Stand p l e ({ frames := 0, cells := 0, slots := 0, locals := 0 } : Room) s m #[(.int (2 : Int32)), (.int (4 : Int32))] below meth c s₁ [] 0 0 := Stand.of_body Bd
  have e0 : s₁.heap = h0 := by rw [← hh, Bd.state]; rfl
  have N0 := Fr.nil n0
  have pre0 : ∀ t, Steps p.tables e below (s₁.setTop (mkF m 0 #[.val (.int (2 : Int32)), .val (.int (4 : Int32))] [])) t → Steps p.tables e below (s₁.setTop (entryFrame m #[(.int (2 : Int32)), (.int (4 : Int32))] 2)) t := fun t k => castTop (ef_rm7_3 m ) k
  obtain ⟨fs, hr, hrun, hended, hW, hsame⟩ := X0.leave (v := some (.int (2 : Int32))) (fun h => by rw [Bd.returns] at h; cases h)
  refine ⟨_, _, pre0 _ ?_, hrun, hended, _, _, rfl, ?_, ⟨_, rfl⟩, hW, hsame.mono (by decide) (by decide)⟩
  · show Steps p.tables e below (s₁.setTop (mkF m 0 #[.val (.int (2 : Int32)), .val (.int (4 : Int32))] [])) _
    refine XS.iloadN X0.here hx rfl (hb hby d7_0) rfl ?_
    refine XS.iloadN X0.here hx rfl (hb hby d7_1) rfl ?_
    show Steps p.tables e below (s₁.setTop (mkF m 2 #[.val (.int (2 : Int32)), .val (.int (4 : Int32))] [(.int (4 : Int32)), (.int (2 : Int32))])) _
    refine XS.icmpNo X0.here hx rfl (hb hby d7_2) rfl (flt (by decide : ¬ ((4 : Int32) < (2 : Int32)))).2.2.1 ?_
    refine XS.iloadN X0.here hx rfl (hb hby d7_5) rfl ?_
    refine XS.goto X0.here hx rfl (pc0 := 6) (pc' := 10) rfl (hb hby d7_6) (by decide) (by decide) ?_
    show Steps p.tables e below (s₁.setTop (mkF m 10 #[.val (.int (2 : Int32)), .val (.int (4 : Int32))] [(.int (2 : Int32))])) _
    exact retI X0 hx Bd.returns (hb hby d7_10) hr
  · show Q_rm7_3 Z  h0 n0 _ s₁.heap _
    rw [e0]
    exact ⟨rfl, N0, rfl⟩
theorem ef_rm6_3 (m : MethodId) (y0 : Addr) : entryFrame m #[(.ref y0), (.int (4 : Int32))] 3 = mkF m 0 #[.val (.ref y0), .val (.int (4 : Int32)), .unset] [] := by first | (simp [entryFrame, mkF, argsToLocals, Value.category]; done) | rfl
def Q_rm6_3 (Z : State) (a6_0 : Addr) (kc_a6_0 : ClassId) (t_a6_0_0 : Int64) (t_a6_0_1 : Int64) (h0 : Heap) (n0 : Nat) (v : Option Value) (h : Heap) (L : List Loc) : Prop := ∃ bx6_0 : Addr, ∃ kx6_0 : ClassId, v = some (.ref bx6_0) ∧ Fr n0 L ∧ Keep h0 h [] ∧ h0.size ≤ bx6_0 ∧ Arv Z h bx6_0 kx6_0 .long (4 : Int32) [(.long t_a6_0_0), (.long t_a6_0_1), (.long (0 : Int64)), (.long (0 : Int64))] (.long (0 : Int64))
set_option maxRecDepth 65536 in
set_option maxHeartbeats 40000000 in
theorem rm6_3 (l : Launch) (Z : State) (a0 : Array Value) (hw : ∀ d ∈ tables_1, d.before a0 Z = true) (ws : List Jvm.Cond) (a6_0 : Addr) (kc_a6_0 : ClassId) (t_a6_0_0 : Int64) (t_a6_0_1 : Int64) (h0 : Heap) (n0 : Nat) (Z0 : n0 ≤ h0.size) (V_a6_0 : Arv Z h0 a6_0 kc_a6_0 .long (2 : Int32) [(.long t_a6_0_0), (.long t_a6_0_1)] (.long (0 : Int64))) :
    MetFree l (⟨"java/util/Arrays", "copyOf", "([JI)[J"⟩ : MethodName) (head1 (Jvm.Cond.code (⟨"java/util/Arrays", "copyOf", "([JI)[J"⟩ : MethodName) jdk_65_method_124_code 3 (some (.array .long)) :: ws) ({ frames := 1, cells := 1, slots := 4, locals := 18 } : Room)) (fun a U => a = #[(.ref a6_0), (.int (4 : Int32))] ∧ Z.Warmed39 U.vm ∧ U.heap = h0) (fun _ _ _ _ _ => True) (fun _ U o U' => ∃ v L, o = .returned v ∧ Q_rm6_3 Z a6_0 kc_a6_0 t_a6_0_0 t_a6_0_1 h0 n0 v U'.heap L ∧ FrameEnd U o U' L ({ frames := 1, cells := 1, slots := 4, locals := 18 } : Room).cells ({ frames := 1, cells := 1, slots := 4, locals := 18 } : Room).slots) := by
  refine MetFree.of_bodySF (plainFor_of_name pn_6) hisR ?_
  intro p e s m args below meth c s₁ Bd hml0 hP hK
  obtain ⟨rfl, hZ, hh⟩ := hP
  have hx := Bd.exec
  have hby := Bd.bytes
  have hml : c.maxLocals = 3 := hml0
  have hown : s.vm.findClass "java/util/Arrays" = some m.cls := findClass_of_methodNamed Bd.named
  have hnm := (name_of_methodNamed Bd.named Bd.method).1
  have X0 : Stand p l e ({ frames := 1, cells := 1, slots := 4, locals := 18 } : Room) s m #[(.ref a6_0), (.int (4 : Int32))] below meth c s₁ [] 0 0 := Stand.of_body Bd
  have e0 : s₁.heap = h0 := by rw [← hh, Bd.state]; rfl
  have N0 := Fr.nil n0
  have pre0 : ∀ t, Steps p.tables e below (s₁.setTop (mkF m 0 #[.val (.ref a6_0), .val (.int (4 : Int32)), .unset] [])) t → Steps p.tables e below (s₁.setTop (entryFrame m #[(.ref a6_0), (.int (4 : Int32))] 3)) t := fun t k => castTop (ef_rm6_3 m a6_0) k
  obtain ⟨cl1, Ar1, qk1, Sz1, Nz1, Hh1, Gf1⟩ := id V_a6_0
  obtain ⟨T2, h2, k2, X2, e2, E2, A2, st2⟩ := newP X0 hx hZ (aty := .long) (ow10 hw) e0 (g := (mkF m 15 #[.val (.ref a6_0), .val (.int (4 : Int32)), .unset] [(.int (4 : Int32))])) rfl (hb hby d6_15) rfl (by decide) (cap := 4) (by decide) (by decide) (by decide) (by decide)
  obtain ⟨b2, g2⟩ : ∃ z, z = h0.size := ⟨_, rfl⟩
  rw [← g2] at A2 st2
  have ne_a6_0_b2 : a6_0 ≠ b2 := Nat.ne_of_lt (Nat.lt_of_lt_of_le V_a6_0.lt (Nat.le_of_eq g2.symm))
  have V_b2 : Arv Z h2 b2 k2 .long (4 : Int32) [(.long (0 : Int64)), (.long (0 : Int64)), (.long (0 : Int64)), (.long (0 : Int64))] (.long (0 : Int64)) := (Arv.new A2 (by decide)).pad (pad_rep [] (.long (0 : Int64)) 4)
  have g_b2 : n0 ≤ b2 := Nat.le_trans Z0 (Nat.le_of_eq g2.symm)
  have sz_b2 : h0.size ≤ b2 := Nat.le_trans (Nat.le_refl _) (Nat.le_of_eq g2.symm)
  have K2 : Keep h0 h2 [] := (Keep.refl h0 []).ext E2
  have Z2 : n0 ≤ h2.size := Nat.le_trans Z0 K2.1
  have f3 := (V_a6_0.ext E2)
  obtain ⟨cl4, Ar4, qk4, Sz4, Nz4, Hh4, Gf4⟩ := id f3
  obtain ⟨_, _, ⟨T5, L5, k5, n5⟩, -, X5, ⟨Lc5, hQ5, l5, y5, z5⟩, st5⟩ := Jvm.LawKit.callS X2 hx (y := (⟨"java/lang/Math", "min", "(II)I"⟩ : MethodName)) hown (mvT hZ (ow33 hw)) (mvT hZ (ow34 hw)) (mvT hZ (ow27 hw)) (mvT hZ (ow35 hw)) (by decide) (backOf (W := 4) (rm7_3 l Z a0 hw []  h2 n0 Z2 ) hZ (ow35 hw) (ow27 hw) (by decide) (by decide)) (g := (mkF m 25 #[.val (.ref a6_0), .val (.int (4 : Int32)), .val (.ref b2)] [(.int (4 : Int32)), (.int (2 : Int32)), (.int (0 : Int32)), (.ref b2), (.int (0 : Int32)), (.ref a6_0)])) rfl (by rw [hml]; rfl) (argsL := [(.int (2 : Int32)), (.int (4 : Int32))]) (rest := [(.int (0 : Int32)), (.ref b2), (.int (0 : Int32)), (.ref a6_0)]) (lenOf pd__II_I rfl) rfl (by show 2 * 0 + _ ≤ _; exact Nat.le_of_eq rfl) (hb hby d6_25) (fun _ _ => ⟨rfl, e2, (by decide : 1 + 0 ≤ _), (by decide : 4 + 0 ≤ _)⟩)
  dsimp only [Pt.U, Pt.locs, Pt.cells, Pt.slots] at X5 l5 y5 z5 st5 hQ5
  subst l5 y5 z5
  obtain ⟨rfl, Nq5, e5⟩ := hQ5
  have N5 := Fr.app N0 Nq5
  obtain ⟨T6, h6, Lo6, X6, e6, N6, Kc6, V6, st6⟩ := cpA X5 hx hZ hown (ow36 hw) (ow39 hw) (ow37 hw) (ow38 hw) e5 f3 V_b2 (Or.inl ⟨rfl, rfl⟩) (sp := (0 : Int32)) (dp := (0 : Int32)) (nn := (2 : Int32)) (us := [(.long t_a6_0_0), (.long t_a6_0_1)]) (by decide) (by decide) (by decide) (by decide) (by decide) rfl (Nat.le_of_ble_eq_true rfl) N5 g_b2 (g := (mkF m 28 #[.val (.ref a6_0), .val (.int (4 : Int32)), .val (.ref b2)] [(.int (2 : Int32)), (.int (0 : Int32)), (.ref b2), (.int (0 : Int32)), (.ref a6_0)])) rfl (by rw [hml]; rfl) rfl (hb hby d6_28) (by decide) (W := 0) (by show 2 * 0 + _ ≤ _; exact Nat.le_of_eq rfl) (by decide)
  have V6 : Arv Z h6 b2 k2 .long (4 : Int32) [(.long t_a6_0_0), (.long t_a6_0_1), (.long (0 : Int64)), (.long (0 : Int64))] (.long (0 : Int64)) := V6
  have K6 : Keep h0 h6 [] := Keep.trans K2 Kc6 (allS (P := fun x => x ∈ ([] : List Addr) ∨ h0.size ≤ x) (Or.inr sz_b2) all0)
  have Z6 : n0 ≤ h6.size := Nat.le_trans Z0 K6.1
  obtain ⟨fs, hr, hrun, hended, hW, hsame⟩ := X6.leave (v := some (.ref b2)) (fun h => by rw [Bd.returns] at h; cases h)
  refine ⟨_, _, pre0 _ ?_, hrun, hended, _, _, rfl, ?_, ⟨_, rfl⟩, hW, hsame.mono (by decide) (by decide)⟩
  · show Steps p.tables e below (s₁.setTop (mkF m 0 #[.val (.ref a6_0), .val (.int (4 : Int32)), .unset] [])) _
    refine XS.iloadN X0.here hx rfl (hb hby d6_0) rfl ?_
    refine XS.aloadN X0.here hx rfl (hb hby d6_1) rfl rfl ?_
    show Steps p.tables e below (s₁.setTop (mkF m 2 #[.val (.ref a6_0), .val (.int (4 : Int32)), .unset] [(.ref a6_0), (.int (4 : Int32))])) _
    refine X0.arraylength hx (cell := cl1) (by rw [e0]; exact Ar1.1) (State.isArrayOf_alike hZ.alike Ar1.2.1) (g := (mkF m 2 #[.val (.ref a6_0), .val (.int (4 : Int32)), .unset] [(.ref a6_0), (.int (4 : Int32))])) rfl (rest := [(.int (4 : Int32))]) rfl (hb hby d6_2) _ ?_
    rw [len_of Sz1 Nz1]
    show Steps p.tables e below (s₁.setTop (mkF m 3 #[.val (.ref a6_0), .val (.int (4 : Int32)), .unset] [(.int (2 : Int32)), (.int (4 : Int32))])) _
    refine XS.icmpYes X0.here hx rfl (pc0 := 3) (pc' := 14) rfl (hb hby d6_3) rfl (feq (by decide : ¬ ((4 : Int32) = (2 : Int32)))).2 (by decide) (by decide) ?_
    refine XS.iloadN X0.here hx rfl (hb hby d6_14) rfl ?_
    refine st2 _ ?_
    show Steps p.tables e below (T2.setTop (mkF m 17 #[.val (.ref a6_0), .val (.int (4 : Int32)), .unset] [(.ref b2)])) _
    refine XS.astoreN X2.here hx rfl (hb hby d6_17) rfl rfl (l' := #[.val (.ref a6_0), .val (.int (4 : Int32)), .val (.ref b2)]) rfl ?_
    refine XS.aloadN X2.here hx rfl (hb hby d6_18) rfl rfl ?_
    refine XS.iconst X2.here hx rfl (hb hby d6_19) ?_
    show Steps p.tables e below (T2.setTop (mkF m 20 #[.val (.ref a6_0), .val (.int (4 : Int32)), .val (.ref b2)] [(.int (0 : Int32)), (.ref a6_0)])) _
    refine XS.aloadN X2.here hx rfl (hb hby d6_20) rfl rfl ?_
    refine XS.iconst X2.here hx rfl (hb hby d6_21) ?_
    refine XS.aloadN X2.here hx rfl (hb hby d6_22) rfl rfl ?_
    show Steps p.tables e below (T2.setTop (mkF m 23 #[.val (.ref a6_0), .val (.int (4 : Int32)), .val (.ref b2)] [(.ref a6_0), (.int (0 : Int32)), (.ref b2), (.int (0 : Int32)), (.ref a6_0)])) _
    refine X2.arraylength hx (cell := cl4) (by rw [e2]; exact Ar4.1) (State.isArrayOf_alike hZ.alike Ar4.2.1) (g := (mkF m 23 #[.val (.ref a6_0), .val (.int (4 : Int32)), .val (.ref b2)] [(.ref a6_0), (.int (0 : Int32)), (.ref b2), (.int (0 : Int32)), (.ref a6_0)])) rfl (rest := [(.int (0 : Int32)), (.ref b2), (.int (0 : Int32)), (.ref a6_0)]) rfl (hb hby d6_23) _ ?_
    rw [len_of Sz4 Nz4]
    refine XS.iloadN X2.here hx rfl (hb hby d6_24) rfl ?_
    show Steps p.tables e below (T2.setTop (mkF m 25 #[.val (.ref a6_0), .val (.int (4 : Int32)), .val (.ref b2)] [(.int (4 : Int32)), (.int (2 : Int32)), (.int (0 : Int32)), (.ref b2), (.int (0 : Int32)), (.ref a6_0)])) _
    refine st5 _ ?_
    refine st6 _ ?_
    refine XS.aloadN X6.here hx rfl (hb hby d6_31) rfl rfl ?_
    show Steps p.tables e below (T6.setTop (mkF m 32 #[.val (.ref a6_0), .val (.int (4 : Int32)), .val (.ref b2)] [(.ref b2)])) _
    jvm_step X6.here [X6.here.top, hx, (hb hby d6_32), X6.method', Bd.returns, Value.isRef, FieldType.isReference]
    first | (intro acts; rw [hr _ acts rfl rfl rfl]) | rw [hr _ _ rfl rfl rfl]
    exact Steps.refl _
  · show Q_rm6_3 Z a6_0 kc_a6_0 t_a6_0_0 t_a6_0_1 h0 n0 _ T6.heap _
    rw [e6]
    exact ⟨b2, k2, rfl, N6, K6, sz_b2, V6⟩
theorem ef_rm9_5 (m : MethodId) (y0 : Addr) : entryFrame m #[(.ref y0), (.int (0 : Int32))] 5 = mkF m 0 #[.val (.ref y0), .val (.int (0 : Int32)), .unset, .unset, .unset] [] := by first | (simp [entryFrame, mkF, argsToLocals, Value.category]; done) | rfl
def Q_rm9_5 (Z : State) (a9_0 : Addr) (w_tree_a9_0 : Addr) (w_total_a9_0 : Int64) (kc_w_tree_a9_0 : ClassId) (t_w_tree_a9_0_0 : Int64) (t_w_tree_a9_0_1 : Int64) (h0 : Heap) (n0 : Nat) (v : Option Value) (h : Heap) (L : List Loc) : Prop := v = some (.long (0 : Int64)) ∧ Fr n0 L ∧ h = h0
set_option maxRecDepth 65536 in
set_option maxHeartbeats 40000000 in
theorem rm9_5 (l : Launch) (Z : State) (a0 : Array Value) (hw : ∀ d ∈ tables_1, d.before a0 Z = true) (ws : List Jvm.Cond) (a9_0 : Addr) (w_tree_a9_0 : Addr) (w_total_a9_0 : Int64) (kc_w_tree_a9_0 : ClassId) (t_w_tree_a9_0_0 : Int64) (t_w_tree_a9_0_1 : Int64) (h0 : Heap) (n0 : Nat) (Z0 : n0 ≤ h0.size) (E_a9_0 : Exa Z h0 a9_0 "com/example/motley/motley/CountTree") (F_tree_a9_0 : Fld Z h0 a9_0 "com/example/motley/motley/CountTree" "tree" "[J" (.ref w_tree_a9_0)) (F_size_a9_0 : Fld Z h0 a9_0 "com/example/motley/motley/CountTree" "size" "I" (.int (2 : Int32))) (F_total_a9_0 : Fld Z h0 a9_0 "com/example/motley/motley/CountTree" "total" "J" (.long w_total_a9_0)) (V_w_tree_a9_0 : Arv Z h0 w_tree_a9_0 kc_w_tree_a9_0 .long (2 : Int32) [(.long t_w_tree_a9_0_0), (.long t_w_tree_a9_0_1)] (.long (0 : Int64))) :
    MetFree l (⟨"com/example/motley/motley/CountTree", "sumBefore", "(I)J"⟩ : MethodName) (head1 (Jvm.Cond.code (⟨"com/example/motley/motley/CountTree", "sumBefore", "(I)J"⟩ : MethodName) prog_14_method_8_code 5 (some .long) :: ws) ({ frames := 0, cells := 0, slots := 0, locals := 0 } : Room)) (fun a U => a = #[(.ref a9_0), (.int (0 : Int32))] ∧ Z.Warmed39 U.vm ∧ U.heap = h0) (fun _ _ _ _ _ => True) (fun _ U o U' => ∃ v L, o = .returned v ∧ Q_rm9_5 Z a9_0 w_tree_a9_0 w_total_a9_0 kc_w_tree_a9_0 t_w_tree_a9_0_0 t_w_tree_a9_0_1 h0 n0 v U'.heap L ∧ FrameEnd U o U' L ({ frames := 0, cells := 0, slots := 0, locals := 0 } : Room).cells ({ frames := 0, cells := 0, slots := 0, locals := 0 } : Room).slots) := by
  refine MetFree.of_bodySF (plainFor_of_name pn_9) hisR ?_
  intro p e s m args below meth c s₁ Bd hml0 hP hK
  obtain ⟨rfl, hZ, hh⟩ := hP
  have hx := Bd.exec
  have hby := Bd.bytes
  have hml : c.maxLocals = 5 := hml0
  have hown : s.vm.findClass "com/example/motley/motley/CountTree" = some m.cls := findClass_of_methodNamed Bd.named
  have hnm := (name_of_methodNamed Bd.named Bd.method).1
  have X0 : Stand p l e ({ frames := 0, cells := 0, slots := 0, locals := 0 } : Room) s m #[(.ref a9_0), (.int (0 : Int32))] below meth c s₁ [] 0 0 := Stand.of_body Bd
  have e0 : s₁.heap = h0 := by rw [← hh, Bd.state]; rfl
  have N0 := Fr.nil n0
  have pre0 : ∀ t, Steps p.tables e below (s₁.setTop (mkF m 0 #[.val (.ref a9_0), .val (.int (0 : Int32)), .unset, .unset, .unset] [])) t → Steps p.tables e below (s₁.setTop (entryFrame m #[(.ref a9_0), (.int (0 : Int32))] 5)) t := fun t k => castTop (ef_rm9_5 m a9_0) k
  obtain ⟨fs, hr, hrun, hended, hW, hsame⟩ := X0.leave (v := some (.long (0 : Int64))) (fun h => by rw [Bd.returns] at h; cases h)
  refine ⟨_, _, pre0 _ ?_, hrun, hended, _, _, rfl, ?_, ⟨_, rfl⟩, hW, hsame.mono (by decide) (by decide)⟩
  · show Steps p.tables e below (s₁.setTop (mkF m 0 #[.val (.ref a9_0), .val (.int (0 : Int32)), .unset, .unset, .unset] [])) _
    refine XS.lconst X0.here hx rfl (hb hby d9_0) ?_
    refine XS.lstoreN X0.here hx rfl (hb hby d9_1) rfl (l' := #[.val (.ref a9_0), .val (.int (0 : Int32)), .val (.long (0 : Int64)), .second, .unset]) rfl ?_
    refine XS.iloadN X0.here hx rfl (hb hby d9_2) rfl ?_
    show Steps p.tables e below (s₁.setTop (mkF m 3 #[.val (.ref a9_0), .val (.int (0 : Int32)), .val (.long (0 : Int64)), .second, .unset] [(.int (0 : Int32))])) _
    refine XS.istore X0.here hx rfl (hb hby d9_3) rfl (l' := #[.val (.ref a9_0), .val (.int (0 : Int32)), .val (.long (0 : Int64)), .second, .val (.int (0 : Int32))]) rfl ?_
    refine XS.iload X0.here hx rfl (hb hby d9_5) rfl ?_
    show Steps p.tables e below (s₁.setTop (mkF m 7 #[.val (.ref a9_0), .val (.int (0 : Int32)), .val (.long (0 : Int64)), .second, .val (.int (0 : Int32))] [(.int (0 : Int32))])) _
    refine XS.ifYes X0.here hx rfl (pc0 := 7) (pc' := 36) rfl (hb hby d9_7) rfl ((if0 _ _).trans (flt (by decide : ¬ ((0 : Int32) < (0 : Int32)))).2.2.2) (by decide) (by decide) ?_
    refine XS.lloadN X0.here hx rfl (hb hby d9_36) rfl ?_
    show Steps p.tables e below (s₁.setTop (mkF m 37 #[.val (.ref a9_0), .val (.int (0 : Int32)), .val (.long (0 : Int64)), .second, .val (.int (0 : Int32))] [(.long (0 : Int64))])) _
    exact own_retJ X0 hx Bd.returns (hb hby d9_37) hr
  · show Q_rm9_5 Z a9_0 w_tree_a9_0 w_total_a9_0 kc_w_tree_a9_0 t_w_tree_a9_0_0 t_w_tree_a9_0_1 h0 n0 _ s₁.heap _
    rw [e0]
    exact ⟨rfl, N0, rfl⟩
theorem ef_rm4_3 (m : MethodId) (y0 : Addr) : entryFrame m #[(.ref y0), (.int (1 : Int32))] 7 = mkF m 0 #[.val (.ref y0), .val (.int (1 : Int32)), .unset, .unset, .unset, .unset, .unset] [] := by first | (simp [entryFrame, mkF, argsToLocals, Value.category]; done) | rfl
def Q_rm4_3 (Z : State) (a4_0 : Addr) (w_tree_a4_0 : Addr) (w_total_a4_0 : Int64) (kc_w_tree_a4_0 : ClassId) (t_w_tree_a4_0_0 : Int64) (t_w_tree_a4_0_1 : Int64) (h0 : Heap) (n0 : Nat) (v : Option Value) (h : Heap) (L : List Loc) : Prop := ∃ bx4_0 : Addr, ∃ kx4_0 : ClassId, v = none ∧ Fr n0 L ∧ Keep h0 h [a4_0] ∧ h0.size ≤ bx4_0 ∧ Exa Z h a4_0 "com/example/motley/motley/CountTree" ∧ Fld Z h a4_0 "com/example/motley/motley/CountTree" "tree" "[J" (.ref bx4_0) ∧ Fld Z h a4_0 "com/example/motley/motley/CountTree" "size" "I" (.int (2 : Int32)) ∧ Fld Z h a4_0 "com/example/motley/motley/CountTree" "total" "J" (.long w_total_a4_0) ∧ Arv Z h bx4_0 kx4_0 .long (4 : Int32) [(.long t_w_tree_a4_0_0), (.long t_w_tree_a4_0_1), (.long (0 : Int64)), (.long (w_total_a4_0 - (0 : Int64)))] (.long (0 : Int64))
set_option maxRecDepth 65536 in
set_option maxHeartbeats 40000000 in
theorem rm4_3 (l : Launch) (Z : State) (a0 : Array Value) (hw : ∀ d ∈ tables_1, d.before a0 Z = true) (ws : List Jvm.Cond) (a4_0 : Addr) (w_tree_a4_0 : Addr) (w_total_a4_0 : Int64) (kc_w_tree_a4_0 : ClassId) (t_w_tree_a4_0_0 : Int64) (t_w_tree_a4_0_1 : Int64) (h0 : Heap) (n0 : Nat) (Z0 : n0 ≤ h0.size) (E_a4_0 : Exa Z h0 a4_0 "com/example/motley/motley/CountTree") (F_tree_a4_0 : Fld Z h0 a4_0 "com/example/motley/motley/CountTree" "tree" "[J" (.ref w_tree_a4_0)) (F_size_a4_0 : Fld Z h0 a4_0 "com/example/motley/motley/CountTree" "size" "I" (.int (2 : Int32))) (F_total_a4_0 : Fld Z h0 a4_0 "com/example/motley/motley/CountTree" "total" "J" (.long w_total_a4_0)) (V_w_tree_a4_0 : Arv Z h0 w_tree_a4_0 kc_w_tree_a4_0 .long (2 : Int32) [(.long t_w_tree_a4_0_0), (.long t_w_tree_a4_0_1)] (.long (0 : Int64))) (g_a4_0 : n0 ≤ a4_0) :
    MetFree l (⟨"com/example/motley/motley/CountTree", "reserve", "(I)V"⟩ : MethodName) (head1 (Jvm.Cond.code (⟨"com/example/motley/motley/CountTree", "reserve", "(I)V"⟩ : MethodName) prog_14_method_3_code 7 none :: ws) ({ frames := 2, cells := 1, slots := 4, locals := 32 } : Room)) (fun a U => a = #[(.ref a4_0), (.int (1 : Int32))] ∧ Z.Warmed39 U.vm ∧ U.heap = h0) (fun _ _ _ _ _ => True) (fun _ U o U' => ∃ v L, o = .returned v ∧ Q_rm4_3 Z a4_0 w_tree_a4_0 w_total_a4_0 kc_w_tree_a4_0 t_w_tree_a4_0_0 t_w_tree_a4_0_1 h0 n0 v U'.heap L ∧ FrameEnd U o U' L ({ frames := 2, cells := 1, slots := 4, locals := 32 } : Room).cells ({ frames := 2, cells := 1, slots := 4, locals := 32 } : Room).slots) := by
  refine MetFree.of_bodySF (plainFor_of_name pn_4) hisR ?_
  intro p e s m args below meth c s₁ Bd hml0 hP hK
  obtain ⟨rfl, hZ, hh⟩ := hP
  have hx := Bd.exec
  have hby := Bd.bytes
  have hml : c.maxLocals = 7 := hml0
  have hown : s.vm.findClass "com/example/motley/motley/CountTree" = some m.cls := findClass_of_methodNamed Bd.named
  have hnm := (name_of_methodNamed Bd.named Bd.method).1
  have X0 : Stand p l e ({ frames := 2, cells := 1, slots := 4, locals := 32 } : Room) s m #[(.ref a4_0), (.int (1 : Int32))] below meth c s₁ [] 0 0 := Stand.of_body Bd
  have e0 : s₁.heap = h0 := by rw [← hh, Bd.state]; rfl
  have N0 := Fr.nil n0
  have pre0 : ∀ t, Steps p.tables e below (s₁.setTop (mkF m 0 #[.val (.ref a4_0), .val (.int (1 : Int32)), .unset, .unset, .unset, .unset, .unset] [])) t → Steps p.tables e below (s₁.setTop (entryFrame m #[(.ref a4_0), (.int (1 : Int32))] 7)) t := fun t k => castTop (ef_rm4_3 m a4_0) k
  obtain ⟨T1, X1, e1, st1⟩ := getF X0 hx hZ hown (host := "") (Or.inl (ow23 hw)) Via.refl e0 F_size_a4_0 (g := (mkF m 1 #[.val (.ref a4_0), .val (.int (1 : Int32)), .unset, .unset, .unset, .unset, .unset] [(.ref a4_0)])) rfl rfl (hb hby d4_1)
  obtain ⟨T2, X2, e2, st2⟩ := getF X1 hx hZ hown (host := "") (Or.inl (ow11 hw)) Via.refl e1 F_tree_a4_0 (g := (mkF m 9 #[.val (.ref a4_0), .val (.int (1 : Int32)), .val (.int (3 : Int32)), .unset, .unset, .unset, .unset] [(.ref a4_0), (.int (3 : Int32))])) rfl rfl (hb hby d4_9)
  obtain ⟨cl3, Ar3, qk3, Sz3, Nz3, Hh3, Gf3⟩ := id V_w_tree_a4_0
  obtain ⟨T4, X4, e4, st4⟩ := getF X2 hx hZ hown (host := "") (Or.inl (ow11 hw)) Via.refl e2 F_tree_a4_0 (g := (mkF m 20 #[.val (.ref a4_0), .val (.int (1 : Int32)), .val (.int (3 : Int32)), .unset, .unset, .unset, .unset] [(.ref a4_0), (.int (2 : Int32)), (.int (3 : Int32))])) rfl rfl (hb hby d4_20)
  obtain ⟨cl5, Ar5, qk5, Sz5, Nz5, Hh5, Gf5⟩ := id V_w_tree_a4_0
  obtain ⟨_, _, ⟨T6, L6, k6, n6⟩, -, X6, ⟨Lc6, hQ6, l6, y6, z6⟩, st6⟩ := Jvm.LawKit.callS X4 hx (y := (⟨"java/lang/Math", "max", "(II)I"⟩ : MethodName)) hown (mvT hZ (ow25 hw)) (mvT hZ (ow26 hw)) (mvT hZ (ow27 hw)) (mvT hZ (ow28 hw)) (by decide) (backOf (W := 0) (rm5_3 l Z a0 hw []  h0 n0 Z0 ) hZ (ow28 hw) (ow27 hw) (by decide) (by decide)) (g := (mkF m 25 #[.val (.ref a4_0), .val (.int (1 : Int32)), .val (.int (3 : Int32)), .unset, .unset, .unset, .unset] [(.int (4 : Int32)), (.int (3 : Int32))])) rfl (by rw [hml]; rfl) (argsL := [(.int (3 : Int32)), (.int (4 : Int32))]) (rest := []) (lenOf pd__II_I rfl) rfl (by show 2 * 0 + _ ≤ _; exact Nat.le_of_eq rfl) (hb hby d4_25) (fun _ _ => ⟨rfl, e4, (by decide : 0 + 0 ≤ _), (by decide : 0 + 0 ≤ _)⟩)
  dsimp only [Pt.U, Pt.locs, Pt.cells, Pt.slots] at X6 l6 y6 z6 st6 hQ6
  subst l6 y6 z6
  obtain ⟨rfl, Nq6, e6⟩ := hQ6
  have N6 := Fr.app N0 Nq6
  obtain ⟨T7, X7, e7, st7⟩ := getF X6 hx hZ hown (host := "") (Or.inl (ow11 hw)) Via.refl e6 F_tree_a4_0 (g := (mkF m 30 #[.val (.ref a4_0), .val (.int (1 : Int32)), .val (.int (3 : Int32)), .val (.int (4 : Int32)), .unset, .unset, .unset] [(.ref a4_0)])) rfl rfl (hb hby d4_30)
  obtain ⟨_, _, ⟨T8, L8, k8, n8⟩, -, X8, ⟨Lc8, hQ8, l8, y8, z8⟩, st8⟩ := Jvm.LawKit.callS X7 hx (y := (⟨"java/util/Arrays", "copyOf", "([JI)[J"⟩ : MethodName)) hown (mvT hZ (ow29 hw)) (mvT hZ (ow30 hw)) (mvT hZ (ow31 hw)) (mvT hZ (ow32 hw)) (by decide) (backOf (W := 0) (rm6_3 l Z a0 hw [] w_tree_a4_0 kc_w_tree_a4_0 t_w_tree_a4_0_0 t_w_tree_a4_0_1 h0 n0 Z0 V_w_tree_a4_0) hZ (ow32 hw) (ow31 hw) (by decide) (by decide)) (g := (mkF m 34 #[.val (.ref a4_0), .val (.int (1 : Int32)), .val (.int (3 : Int32)), .val (.int (4 : Int32)), .unset, .unset, .unset] [(.int (4 : Int32)), (.ref w_tree_a4_0)])) rfl (by rw [hml]; rfl) (argsL := [(.ref w_tree_a4_0), (.int (4 : Int32))]) (rest := []) (lenOf pd___JI__J rfl) rfl (by show 2 * 0 + _ ≤ _; exact Nat.le_of_eq rfl) (hb hby d4_34) (fun _ _ => ⟨rfl, e7, (by decide : 0 + 1 ≤ _), (by decide : 0 + 4 ≤ _)⟩)
  dsimp only [Pt.U, Pt.locs, Pt.cells, Pt.slots] at X8 l8 y8 z8 st8 hQ8
  subst l8 y8 z8
  obtain ⟨bx6_0_8, kx6_0_8, rfl, Nq8, Kc8, P8_0, P8_1⟩ := hQ8
  have K8 : Keep h0 T8.heap [a4_0] := Keep.trans (Keep.refl h0 [a4_0]) Kc8 all0
  have Z8 : n0 ≤ T8.heap.size := Nat.le_trans Z0 K8.1
  have g_bx6_0_8 : n0 ≤ bx6_0_8 := Nat.le_trans Z0 P8_0
  have sz_bx6_0_8 : h0.size ≤ bx6_0_8 := Nat.le_trans (Nat.le_refl _) P8_0
  have ne_a4_0_bx6_0_8 : a4_0 ≠ bx6_0_8 := Nat.ne_of_lt (Nat.lt_of_lt_of_le E_a4_0.lt P8_0)
  have ne_w_tree_a4_0_bx6_0_8 : w_tree_a4_0 ≠ bx6_0_8 := Nat.ne_of_lt (Nat.lt_of_lt_of_le V_w_tree_a4_0.lt P8_0)
  have N8 := Fr.app N6 Nq8
  have f9 := (F_tree_a4_0.keep Kc8 nin0)
  obtain ⟨T10, X10, e10, st10⟩ := getF X8 hx hZ hown (host := "") (Or.inl (ow11 hw)) Via.refl rfl f9 (g := (mkF m 40 #[.val (.ref a4_0), .val (.int (1 : Int32)), .val (.int (3 : Int32)), .val (.int (4 : Int32)), .val (.ref bx6_0_8), .unset, .unset] [(.ref a4_0)])) rfl rfl (hb hby d4_40)
  have f11 := (V_w_tree_a4_0.keep Kc8 nin0)
  obtain ⟨cl12, Ar12, qk12, Sz12, Nz12, Hh12, Gf12⟩ := id f11
  have f13 := (F_size_a4_0.keep Kc8 nin0)
  obtain ⟨T14, X14, e14, st14⟩ := getF X10 hx hZ hown (host := "") (Or.inl (ow23 hw)) Via.refl e10 f13 (g := (mkF m 68 #[.val (.ref a4_0), .val (.int (1 : Int32)), .val (.int (3 : Int32)), .val (.int (4 : Int32)), .val (.ref bx6_0_8), .val (.int (3 : Int32)), .val (.int (2 : Int32))] [(.ref a4_0), (.int (2 : Int32))])) rfl rfl (hb hby d4_68)
  obtain ⟨T15, X15, e15, st15⟩ := getF X14 hx hZ hown (host := "") (Or.inl (ow23 hw)) Via.refl e14 f13 (g := (mkF m 68 #[.val (.ref a4_0), .val (.int (1 : Int32)), .val (.int (3 : Int32)), .val (.int (4 : Int32)), .val (.ref bx6_0_8), .val (.int (4 : Int32)), .val (.int (0 : Int32))] [(.ref a4_0), (.int (0 : Int32))])) rfl rfl (hb hby d4_68)
  have f16 := (F_total_a4_0.keep Kc8 nin0)
  obtain ⟨T17, X17, e17, st17⟩ := getF X15 hx hZ hown (host := "") (Or.inl (ow45 hw)) Via.refl e15 f16 (g := (mkF m 81 #[.val (.ref a4_0), .val (.int (1 : Int32)), .val (.int (3 : Int32)), .val (.int (4 : Int32)), .val (.ref bx6_0_8), .val (.int (4 : Int32)), .val (.int (0 : Int32))] [(.ref a4_0), (.int (3 : Int32)), (.ref bx6_0_8)])) rfl rfl (hb hby d4_81)
  have f18 := (E_a4_0.keep Kc8)
  obtain ⟨cq19, kq19, q19a, q19b, q19c⟩ := isOf hZ e17 f18
  obtain ⟨_, _, ⟨T19, L19, k19, n19⟩, -, X19, ⟨Lc19, hQ19, l19, y19, z19⟩, st19⟩ := X17.virtualBack hx (y := (⟨"com/example/motley/motley/CountTree", "sumBefore", "(I)J"⟩ : MethodName)) (z := (⟨"com/example/motley/motley/CountTree", "sumBefore", "(I)J"⟩ : MethodName)) hown (mvT hZ (ow47 hw)) (mvT hZ (ow48 hw)) (notFace_of_selects (args := #[]) (mvT hZ (ow50 hw))) (mvT hZ (ow50 hw)) (mvT hZ (ow49 hw)) (by decide) (backOf (W := 4) (rm9_5 l Z a0 hw [] a4_0 w_tree_a4_0 w_total_a4_0 kc_w_tree_a4_0 t_w_tree_a4_0_0 t_w_tree_a4_0_1 T8.heap n0 Z8 f18 f9 f13 f16 f11) hZ (ow51 hw) (ow3 hw) (by decide) (by decide)) q19a q19c (g := (mkF m 87 #[.val (.ref a4_0), .val (.int (1 : Int32)), .val (.int (3 : Int32)), .val (.int (4 : Int32)), .val (.ref bx6_0_8), .val (.int (4 : Int32)), .val (.int (0 : Int32))] [(.int (0 : Int32)), (.ref a4_0), (.long w_total_a4_0), (.int (3 : Int32)), (.ref bx6_0_8)])) rfl (by rw [hml]; rfl) (Steps.refl _) (argsL := [(.int (0 : Int32))]) (rest := [(.long w_total_a4_0), (.int (3 : Int32)), (.ref bx6_0_8)]) (lenOf pd__I_J rfl) rfl (by show 2 * 0 + _ ≤ _; exact Nat.le_of_eq rfl) (hb hby d4_87) (fun _ _ => ⟨rfl, e17, (by decide : 1 + 0 ≤ _), (by decide : 4 + 0 ≤ _)⟩)
  dsimp only [Pt.U, Pt.locs, Pt.cells, Pt.slots] at X19 l19 y19 z19 st19 hQ19
  subst l19 y19 z19
  obtain ⟨rfl, Nq19, e19⟩ := hQ19
  have N19 := Fr.app N8 Nq19
  obtain ⟨cl20, Ar20, qk20, Sz20, Nz20, Hh20, Gf20⟩ := id P8_1
  obtain ⟨T21, h21, X21, e21, W21, st21⟩ := stJ X19 hx hZ e19 Ar20 (j := (3 : Int32)) (inb_of Sz20 ⟨by decide, by decide⟩) (g := (mkF m 91 #[.val (.ref a4_0), .val (.int (1 : Int32)), .val (.int (3 : Int32)), .val (.int (4 : Int32)), .val (.ref bx6_0_8), .val (.int (4 : Int32)), .val (.int (0 : Int32))] [(.long (w_total_a4_0 - (0 : Int64))), (.int (3 : Int32)), (.ref bx6_0_8)])) rfl rfl (hb hby d4_91)
  have V21 : Arv Z h21 bx6_0_8 kx6_0_8 .long (4 : Int32) [(.long t_w_tree_a4_0_0), (.long t_w_tree_a4_0_1), (.long (0 : Int64)), (.long (w_total_a4_0 - (0 : Int64)))] (.long (0 : Int64)) := Arv.set Ar20 qk20 Sz20 Nz20 Hh20 Gf20 rfl W21 3 rfl (Nat.le_of_ble_eq_true rfl)
  have K21 : Keep h0 h21 [a4_0] := K8.wr W21 (Or.inr sz_bx6_0_8)
  have Z21 : n0 ≤ h21.size := Nat.le_trans Z0 K21.1
  have N21 := Fr.snoc X21 N19 g_bx6_0_8
  have f22 := (f18.wr W21)
  have f23 := (f9.other W21 (Or.inl ne_a4_0_bx6_0_8))
  obtain ⟨T24, h24, X24, e24, W24, st24⟩ := putF X21 hx hZ hown (host := "") (Or.inl (ow11 hw)) Via.refl e21 f23 f22 (Or.inl (ow12 hw)) (ow2 hw) (ty := (.array .long)) (by decide) rfl rfl (g := (mkF m 101 #[.val (.ref a4_0), .val (.int (1 : Int32)), .val (.int (3 : Int32)), .val (.int (4 : Int32)), .val (.ref bx6_0_8), .val (.int (5 : Int32)), .val (.int (0 : Int32))] [(.ref bx6_0_8), (.ref a4_0)])) rfl rfl (hb hby d4_101)
  have F24 := f23.same W24
  have K24 : Keep h0 h24 [a4_0] := K21.wr W24 (Or.inl (List.mem_of_getElem? (i := 0) rfl))
  have Z24 : n0 ≤ h24.size := Nat.le_trans Z0 K24.1
  have N24 := Fr.snoc X24 N21 g_a4_0
  obtain ⟨fs, hr, hrun, hended, hW, hsame⟩ := X24.leave (v := none) (fun _ => rfl)
  refine ⟨_, _, pre0 _ ?_, hrun, hended, _, _, rfl, ?_, ⟨_, rfl⟩, hW, hsame.mono (by decide) (by decide)⟩
  · show Steps p.tables e below (s₁.setTop (mkF m 0 #[.val (.ref a4_0), .val (.int (1 : Int32)), .unset, .unset, .unset, .unset, .unset] [])) _
    refine XS.aloadN X0.here hx rfl (hb hby d4_0) rfl rfl ?_
    refine st1 _ ?_
    refine XS.iloadN X1.here hx rfl (hb hby d4_4) rfl ?_
    show Steps p.tables e below (T1.setTop (mkF m 5 #[.val (.ref a4_0), .val (.int (1 : Int32)), .unset, .unset, .unset, .unset, .unset] [(.int (1 : Int32)), (.int (2 : Int32))])) _
    refine XS.iadd X1.here hx rfl (hb hby d4_5) rfl ?_
    refine XS.istoreN X1.here hx rfl (hb hby d4_6) rfl (l' := #[.val (.ref a4_0), .val (.int (1 : Int32)), .val (.int (3 : Int32)), .unset, .unset, .unset, .unset]) rfl ?_
    refine XS.iloadN X1.here hx rfl (hb hby d4_7) rfl ?_
    show Steps p.tables e below (T1.setTop (mkF m 8 #[.val (.ref a4_0), .val (.int (1 : Int32)), .val (.int (3 : Int32)), .unset, .unset, .unset, .unset] [(.int (3 : Int32))])) _
    refine XS.aloadN X1.here hx rfl (hb hby d4_8) rfl rfl ?_
    refine st2 _ ?_
    show Steps p.tables e below (T2.setTop (mkF m 12 #[.val (.ref a4_0), .val (.int (1 : Int32)), .val (.int (3 : Int32)), .unset, .unset, .unset, .unset] [(.ref w_tree_a4_0), (.int (3 : Int32))])) _
    refine X2.arraylength hx (cell := cl3) (by rw [e2]; exact Ar3.1) (State.isArrayOf_alike hZ.alike Ar3.2.1) (g := (mkF m 12 #[.val (.ref a4_0), .val (.int (1 : Int32)), .val (.int (3 : Int32)), .unset, .unset, .unset, .unset] [(.ref w_tree_a4_0), (.int (3 : Int32))])) rfl (rest := [(.int (3 : Int32))]) rfl (hb hby d4_12) _ ?_
    rw [len_of Sz3 Nz3]
    show Steps p.tables e below (T2.setTop (mkF m 13 #[.val (.ref a4_0), .val (.int (1 : Int32)), .val (.int (3 : Int32)), .unset, .unset, .unset, .unset] [(.int (2 : Int32)), (.int (3 : Int32))])) _
    refine XS.icmpYes X2.here hx rfl (pc0 := 13) (pc' := 17) rfl (hb hby d4_13) rfl (tlt (by decide : (2 : Int32) < (3 : Int32))).2.2.1 (by decide) (by decide) ?_
    refine XS.iloadN X2.here hx rfl (hb hby d4_17) rfl ?_
    refine XS.iconst X2.here hx rfl (hb hby d4_18) ?_
    show Steps p.tables e below (T2.setTop (mkF m 19 #[.val (.ref a4_0), .val (.int (1 : Int32)), .val (.int (3 : Int32)), .unset, .unset, .unset, .unset] [(.int (2 : Int32)), (.int (3 : Int32))])) _
    refine XS.aloadN X2.here hx rfl (hb hby d4_19) rfl rfl ?_
    refine st4 _ ?_
    show Steps p.tables e below (T4.setTop (mkF m 23 #[.val (.ref a4_0), .val (.int (1 : Int32)), .val (.int (3 : Int32)), .unset, .unset, .unset, .unset] [(.ref w_tree_a4_0), (.int (2 : Int32)), (.int (3 : Int32))])) _
    refine X4.arraylength hx (cell := cl5) (by rw [e4]; exact Ar5.1) (State.isArrayOf_alike hZ.alike Ar5.2.1) (g := (mkF m 23 #[.val (.ref a4_0), .val (.int (1 : Int32)), .val (.int (3 : Int32)), .unset, .unset, .unset, .unset] [(.ref w_tree_a4_0), (.int (2 : Int32)), (.int (3 : Int32))])) rfl (rest := [(.int (2 : Int32)), (.int (3 : Int32))]) rfl (hb hby d4_23) _ ?_
    rw [len_of Sz5 Nz5]
    refine XS.imul X4.here hx rfl (hb hby d4_24) rfl ?_
    show Steps p.tables e below (T4.setTop (mkF m 25 #[.val (.ref a4_0), .val (.int (1 : Int32)), .val (.int (3 : Int32)), .unset, .unset, .unset, .unset] [(.int (4 : Int32)), (.int (3 : Int32))])) _
    refine st6 _ ?_
    refine XS.istoreN X6.here hx rfl (hb hby d4_28) rfl (l' := #[.val (.ref a4_0), .val (.int (1 : Int32)), .val (.int (3 : Int32)), .val (.int (4 : Int32)), .unset, .unset, .unset]) rfl ?_
    refine XS.aloadN X6.here hx rfl (hb hby d4_29) rfl rfl ?_
    show Steps p.tables e below (T6.setTop (mkF m 30 #[.val (.ref a4_0), .val (.int (1 : Int32)), .val (.int (3 : Int32)), .val (.int (4 : Int32)), .unset, .unset, .unset] [(.ref a4_0)])) _
    refine st7 _ ?_
    refine XS.iloadN X7.here hx rfl (hb hby d4_33) rfl ?_
    refine st8 _ ?_
    show Steps p.tables e below (T8.setTop (mkF m 37 #[.val (.ref a4_0), .val (.int (1 : Int32)), .val (.int (3 : Int32)), .val (.int (4 : Int32)), .unset, .unset, .unset] [(.ref bx6_0_8)])) _
    refine XS.astore X8.here hx rfl (hb hby d4_37) rfl rfl (l' := #[.val (.ref a4_0), .val (.int (1 : Int32)), .val (.int (3 : Int32)), .val (.int (4 : Int32)), .val (.ref bx6_0_8), .unset, .unset]) rfl ?_
    refine XS.aloadN X8.here hx rfl (hb hby d4_39) rfl rfl ?_
    refine st10 _ ?_
    show Steps p.tables e below (T10.setTop (mkF m 43 #[.val (.ref a4_0), .val (.int (1 : Int32)), .val (.int (3 : Int32)), .val (.int (4 : Int32)), .val (.ref bx6_0_8), .unset, .unset] [(.ref w_tree_a4_0)])) _
    refine X10.arraylength hx (cell := cl12) (by rw [e10]; exact Ar12.1) (State.isArrayOf_alike hZ.alike Ar12.2.1) (g := (mkF m 43 #[.val (.ref a4_0), .val (.int (1 : Int32)), .val (.int (3 : Int32)), .val (.int (4 : Int32)), .val (.ref bx6_0_8), .unset, .unset] [(.ref w_tree_a4_0)])) rfl (rest := []) rfl (hb hby d4_43) _ ?_
    rw [len_of Sz12 Nz12]
    refine XS.iconst X10.here hx rfl (hb hby d4_44) ?_
    show Steps p.tables e below (T10.setTop (mkF m 45 #[.val (.ref a4_0), .val (.int (1 : Int32)), .val (.int (3 : Int32)), .val (.int (4 : Int32)), .val (.ref bx6_0_8), .unset, .unset] [(.int (1 : Int32)), (.int (2 : Int32))])) _
    refine XS.iadd X10.here hx rfl (hb hby d4_45) rfl ?_
    refine XS.istore X10.here hx rfl (hb hby d4_46) rfl (l' := #[.val (.ref a4_0), .val (.int (1 : Int32)), .val (.int (3 : Int32)), .val (.int (4 : Int32)), .val (.ref bx6_0_8), .val (.int (3 : Int32)), .unset]) rfl ?_
    refine XS.iload X10.here hx rfl (hb hby d4_48) rfl ?_
    show Steps p.tables e below (T10.setTop (mkF m 50 #[.val (.ref a4_0), .val (.int (1 : Int32)), .val (.int (3 : Int32)), .val (.int (4 : Int32)), .val (.ref bx6_0_8), .val (.int (3 : Int32)), .unset] [(.int (3 : Int32))])) _
    refine XS.iloadN X10.here hx rfl (hb hby d4_50) rfl ?_
    show Steps p.tables e below (T10.setTop (mkF m 51 #[.val (.ref a4_0), .val (.int (1 : Int32)), .val (.int (3 : Int32)), .val (.int (4 : Int32)), .val (.ref bx6_0_8), .val (.int (3 : Int32)), .unset] [(.int (4 : Int32)), (.int (3 : Int32))])) _
    refine XS.icmpNo X10.here hx rfl (hb hby d4_51) rfl (flt (by decide : ¬ ((4 : Int32) < (3 : Int32)))).2.2.1 ?_
    refine XS.iload X10.here hx rfl (hb hby d4_54) rfl ?_
    refine XS.iload X10.here hx rfl (hb hby d4_56) rfl ?_
    show Steps p.tables e below (T10.setTop (mkF m 58 #[.val (.ref a4_0), .val (.int (1 : Int32)), .val (.int (3 : Int32)), .val (.int (4 : Int32)), .val (.ref bx6_0_8), .val (.int (3 : Int32)), .unset] [(.int (3 : Int32)), (.int (3 : Int32))])) _
    refine XS.iload X10.here hx rfl (hb hby d4_58) rfl ?_
    refine XS.ineg X10.here hx rfl (hb hby d4_60) rfl ?_
    refine XS.iand X10.here hx rfl (hb hby d4_61) rfl ?_
    show Steps p.tables e below (T10.setTop (mkF m 62 #[.val (.ref a4_0), .val (.int (1 : Int32)), .val (.int (3 : Int32)), .val (.int (4 : Int32)), .val (.ref bx6_0_8), .val (.int (3 : Int32)), .unset] [(.int (1 : Int32)), (.int (3 : Int32))])) _
    refine XS.isub X10.here hx rfl (hb hby d4_62) rfl ?_
    refine XS.istore X10.here hx rfl (hb hby d4_63) rfl (l' := #[.val (.ref a4_0), .val (.int (1 : Int32)), .val (.int (3 : Int32)), .val (.int (4 : Int32)), .val (.ref bx6_0_8), .val (.int (3 : Int32)), .val (.int (2 : Int32))]) rfl ?_
    refine XS.iload X10.here hx rfl (hb hby d4_65) rfl ?_
    show Steps p.tables e below (T10.setTop (mkF m 67 #[.val (.ref a4_0), .val (.int (1 : Int32)), .val (.int (3 : Int32)), .val (.int (4 : Int32)), .val (.ref bx6_0_8), .val (.int (3 : Int32)), .val (.int (2 : Int32))] [(.int (2 : Int32))])) _
    refine XS.aloadN X10.here hx rfl (hb hby d4_67) rfl rfl ?_
    refine st14 _ ?_
    show Steps p.tables e below (T14.setTop (mkF m 71 #[.val (.ref a4_0), .val (.int (1 : Int32)), .val (.int (3 : Int32)), .val (.int (4 : Int32)), .val (.ref bx6_0_8), .val (.int (3 : Int32)), .val (.int (2 : Int32))] [(.int (2 : Int32)), (.int (2 : Int32))])) _
    refine XS.icmpYes X14.here hx rfl (pc0 := 71) (pc' := 92) rfl (hb hby d4_71) rfl (flt (by decide : ¬ ((2 : Int32) < (2 : Int32)))).2.1 (by decide) (by decide) ?_
    refine XS.iinc X14.here hx rfl (hb hby d4_92) rfl (l' := #[.val (.ref a4_0), .val (.int (1 : Int32)), .val (.int (3 : Int32)), .val (.int (4 : Int32)), .val (.ref bx6_0_8), .val (.int (4 : Int32)), .val (.int (2 : Int32))]) rfl ?_
    refine XS.goto X14.here hx rfl (pc0 := 95) (pc' := 48) rfl (hb hby d4_95) (by decide) (by decide) ?_
    show Steps p.tables e below (T14.setTop (mkF m 48 #[.val (.ref a4_0), .val (.int (1 : Int32)), .val (.int (3 : Int32)), .val (.int (4 : Int32)), .val (.ref bx6_0_8), .val (.int (4 : Int32)), .val (.int (2 : Int32))] [])) _
    refine XS.iload X14.here hx rfl (hb hby d4_48) rfl ?_
    refine XS.iloadN X14.here hx rfl (hb hby d4_50) rfl ?_
    show Steps p.tables e below (T14.setTop (mkF m 51 #[.val (.ref a4_0), .val (.int (1 : Int32)), .val (.int (3 : Int32)), .val (.int (4 : Int32)), .val (.ref bx6_0_8), .val (.int (4 : Int32)), .val (.int (2 : Int32))] [(.int (4 : Int32)), (.int (4 : Int32))])) _
    refine XS.icmpNo X14.here hx rfl (hb hby d4_51) rfl (flt (by decide : ¬ ((4 : Int32) < (4 : Int32)))).2.2.1 ?_
    refine XS.iload X14.here hx rfl (hb hby d4_54) rfl ?_
    refine XS.iload X14.here hx rfl (hb hby d4_56) rfl ?_
    show Steps p.tables e below (T14.setTop (mkF m 58 #[.val (.ref a4_0), .val (.int (1 : Int32)), .val (.int (3 : Int32)), .val (.int (4 : Int32)), .val (.ref bx6_0_8), .val (.int (4 : Int32)), .val (.int (2 : Int32))] [(.int (4 : Int32)), (.int (4 : Int32))])) _
    refine XS.iload X14.here hx rfl (hb hby d4_58) rfl ?_
    refine XS.ineg X14.here hx rfl (hb hby d4_60) rfl ?_
    refine XS.iand X14.here hx rfl (hb hby d4_61) rfl ?_
    show Steps p.tables e below (T14.setTop (mkF m 62 #[.val (.ref a4_0), .val (.int (1 : Int32)), .val (.int (3 : Int32)), .val (.int (4 : Int32)), .val (.ref bx6_0_8), .val (.int (4 : Int32)), .val (.int (2 : Int32))] [(.int (4 : Int32)), (.int (4 : Int32))])) _
    refine XS.isub X14.here hx rfl (hb hby d4_62) rfl ?_
    refine XS.istore X14.here hx rfl (hb hby d4_63) rfl (l' := #[.val (.ref a4_0), .val (.int (1 : Int32)), .val (.int (3 : Int32)), .val (.int (4 : Int32)), .val (.ref bx6_0_8), .val (.int (4 : Int32)), .val (.int (0 : Int32))]) rfl ?_
    refine XS.iload X14.here hx rfl (hb hby d4_65) rfl ?_
    show Steps p.tables e below (T14.setTop (mkF m 67 #[.val (.ref a4_0), .val (.int (1 : Int32)), .val (.int (3 : Int32)), .val (.int (4 : Int32)), .val (.ref bx6_0_8), .val (.int (4 : Int32)), .val (.int (0 : Int32))] [(.int (0 : Int32))])) _
    refine XS.aloadN X14.here hx rfl (hb hby d4_67) rfl rfl ?_
    refine st15 _ ?_
    show Steps p.tables e below (T15.setTop (mkF m 71 #[.val (.ref a4_0), .val (.int (1 : Int32)), .val (.int (3 : Int32)), .val (.int (4 : Int32)), .val (.ref bx6_0_8), .val (.int (4 : Int32)), .val (.int (0 : Int32))] [(.int (2 : Int32)), (.int (0 : Int32))])) _
    refine XS.icmpNo X15.here hx rfl (hb hby d4_71) rfl (tlt (by decide : (0 : Int32) < (2 : Int32))).2.1 ?_
    refine XS.aload X15.here hx rfl (hb hby d4_74) rfl rfl ?_
    refine XS.iload X15.here hx rfl (hb hby d4_76) rfl ?_
    show Steps p.tables e below (T15.setTop (mkF m 78 #[.val (.ref a4_0), .val (.int (1 : Int32)), .val (.int (3 : Int32)), .val (.int (4 : Int32)), .val (.ref bx6_0_8), .val (.int (4 : Int32)), .val (.int (0 : Int32))] [(.int (4 : Int32)), (.ref bx6_0_8)])) _
    refine XS.iconst X15.here hx rfl (hb hby d4_78) ?_
    refine XS.isub X15.here hx rfl (hb hby d4_79) rfl ?_
    refine XS.aloadN X15.here hx rfl (hb hby d4_80) rfl rfl ?_
    show Steps p.tables e below (T15.setTop (mkF m 81 #[.val (.ref a4_0), .val (.int (1 : Int32)), .val (.int (3 : Int32)), .val (.int (4 : Int32)), .val (.ref bx6_0_8), .val (.int (4 : Int32)), .val (.int (0 : Int32))] [(.ref a4_0), (.int (3 : Int32)), (.ref bx6_0_8)])) _
    refine st17 _ ?_
    refine XS.aloadN X17.here hx rfl (hb hby d4_84) rfl rfl ?_
    refine XS.iload X17.here hx rfl (hb hby d4_85) rfl ?_
    show Steps p.tables e below (T17.setTop (mkF m 87 #[.val (.ref a4_0), .val (.int (1 : Int32)), .val (.int (3 : Int32)), .val (.int (4 : Int32)), .val (.ref bx6_0_8), .val (.int (4 : Int32)), .val (.int (0 : Int32))] [(.int (0 : Int32)), (.ref a4_0), (.long w_total_a4_0), (.int (3 : Int32)), (.ref bx6_0_8)])) _
    refine st19.trans ?_
    refine XS.lsub X19.here hx rfl (hb hby d4_90) rfl ?_
    refine st21 _ ?_
    show Steps p.tables e below (T21.setTop (mkF m 92 #[.val (.ref a4_0), .val (.int (1 : Int32)), .val (.int (3 : Int32)), .val (.int (4 : Int32)), .val (.ref bx6_0_8), .val (.int (4 : Int32)), .val (.int (0 : Int32))] [])) _
    refine XS.iinc X21.here hx rfl (hb hby d4_92) rfl (l' := #[.val (.ref a4_0), .val (.int (1 : Int32)), .val (.int (3 : Int32)), .val (.int (4 : Int32)), .val (.ref bx6_0_8), .val (.int (5 : Int32)), .val (.int (0 : Int32))]) rfl ?_
    refine XS.goto X21.here hx rfl (pc0 := 95) (pc' := 48) rfl (hb hby d4_95) (by decide) (by decide) ?_
    refine XS.iload X21.here hx rfl (hb hby d4_48) rfl ?_
    show Steps p.tables e below (T21.setTop (mkF m 50 #[.val (.ref a4_0), .val (.int (1 : Int32)), .val (.int (3 : Int32)), .val (.int (4 : Int32)), .val (.ref bx6_0_8), .val (.int (5 : Int32)), .val (.int (0 : Int32))] [(.int (5 : Int32))])) _
    refine XS.iloadN X21.here hx rfl (hb hby d4_50) rfl ?_
    show Steps p.tables e below (T21.setTop (mkF m 51 #[.val (.ref a4_0), .val (.int (1 : Int32)), .val (.int (3 : Int32)), .val (.int (4 : Int32)), .val (.ref bx6_0_8), .val (.int (5 : Int32)), .val (.int (0 : Int32))] [(.int (4 : Int32)), (.int (5 : Int32))])) _
    refine XS.icmpYes X21.here hx rfl (pc0 := 51) (pc' := 98) rfl (hb hby d4_51) rfl (tlt (by decide : (4 : Int32) < (5 : Int32))).2.2.1 (by decide) (by decide) ?_
    refine XS.aloadN X21.here hx rfl (hb hby d4_98) rfl rfl ?_
    refine XS.aload X21.here hx rfl (hb hby d4_99) rfl rfl ?_
    show Steps p.tables e below (T21.setTop (mkF m 101 #[.val (.ref a4_0), .val (.int (1 : Int32)), .val (.int (3 : Int32)), .val (.int (4 : Int32)), .val (.ref bx6_0_8), .val (.int (5 : Int32)), .val (.int (0 : Int32))] [(.ref bx6_0_8), (.ref a4_0)])) _
    refine st24 _ ?_
    show Steps p.tables e below (T24.setTop (mkF m 104 #[.val (.ref a4_0), .val (.int (1 : Int32)), .val (.int (3 : Int32)), .val (.int (4 : Int32)), .val (.ref bx6_0_8), .val (.int (5 : Int32)), .val (.int (0 : Int32))] [])) _
    exact X24.returnOut hx Bd.returns (hb hby d4_104) hr
  · have f25 := (f22.wr W24)
    have f26 := ((f13.other W21 (Or.inl ne_a4_0_bx6_0_8)).other W24 (Or.inr (slot_ne (Or.inl (ow24 hw)) (Or.inl (ow12 hw)) (by decide) (t := .int) (t' := (.array .long)) (by decide) (by decide))))
    have f27 := ((f16.other W21 (Or.inl ne_a4_0_bx6_0_8)).other W24 (Or.inr (slot_ne (Or.inl (ow46 hw)) (Or.inl (ow12 hw)) (by decide) (t := .long) (t' := (.array .long)) (by decide) (by decide))))
    have f28 := (V21.other W24 (Ne.symm ne_a4_0_bx6_0_8))
    show Q_rm4_3 Z a4_0 w_tree_a4_0 w_total_a4_0 kc_w_tree_a4_0 t_w_tree_a4_0_0 t_w_tree_a4_0_1 h0 n0 _ T24.heap _
    rw [e24]
    exact ⟨bx6_0_8, kx6_0_8, rfl, N24, K24, sz_bx6_0_8, f25, F24, f26, f27, f28⟩
theorem ef_rm8_3 (m : MethodId) (y0 : Addr) (y2 : Int64) : entryFrame m #[(.ref y0), (.int (2 : Int32)), (.long y2)] 5 = mkF m 0 #[.val (.ref y0), .val (.int (2 : Int32)), .val (.long y2), .second, .unset] [] := by first | (simp [entryFrame, mkF, argsToLocals, Value.category]; done) | rfl
def Q_rm8_3 (Z : State) (a8_0 : Addr) (q8_2 : Int64) (w_tree_a8_0 : Addr) (w_total_a8_0 : Int64) (kc_w_tree_a8_0 : ClassId) (t_w_tree_a8_0_0 : Int64) (t_w_tree_a8_0_1 : Int64) (t_w_tree_a8_0_2 : Int64) (t_w_tree_a8_0_3 : Int64) (h0 : Heap) (n0 : Nat) (v : Option Value) (h : Heap) (L : List Loc) : Prop := v = none ∧ Fr n0 L ∧ Keep h0 h [a8_0, w_tree_a8_0] ∧ Exa Z h a8_0 "com/example/motley/motley/CountTree" ∧ Fld Z h a8_0 "com/example/motley/motley/CountTree" "tree" "[J" (.ref w_tree_a8_0) ∧ Fld Z h a8_0 "com/example/motley/motley/CountTree" "size" "I" (.int (3 : Int32)) ∧ Fld Z h a8_0 "com/example/motley/motley/CountTree" "total" "J" (.long (w_total_a8_0 + q8_2)) ∧ Arv Z h w_tree_a8_0 kc_w_tree_a8_0 .long (4 : Int32) [(.long t_w_tree_a8_0_0), (.long t_w_tree_a8_0_1), (.long (t_w_tree_a8_0_2 + q8_2)), (.long (t_w_tree_a8_0_3 + q8_2))] (.long (0 : Int64))
set_option maxRecDepth 65536 in
set_option maxHeartbeats 40000000 in
theorem rm8_3 (l : Launch) (Z : State) (a0 : Array Value) (hw : ∀ d ∈ tables_1, d.before a0 Z = true) (ws : List Jvm.Cond) (a8_0 : Addr) (q8_2 : Int64) (w_tree_a8_0 : Addr) (w_total_a8_0 : Int64) (kc_w_tree_a8_0 : ClassId) (t_w_tree_a8_0_0 : Int64) (t_w_tree_a8_0_1 : Int64) (t_w_tree_a8_0_2 : Int64) (t_w_tree_a8_0_3 : Int64) (h0 : Heap) (n0 : Nat) (Z0 : n0 ≤ h0.size) (E_a8_0 : Exa Z h0 a8_0 "com/example/motley/motley/CountTree") (F_tree_a8_0 : Fld Z h0 a8_0 "com/example/motley/motley/CountTree" "tree" "[J" (.ref w_tree_a8_0)) (F_size_a8_0 : Fld Z h0 a8_0 "com/example/motley/motley/CountTree" "size" "I" (.int (3 : Int32))) (F_total_a8_0 : Fld Z h0 a8_0 "com/example/motley/motley/CountTree" "total" "J" (.long w_total_a8_0)) (V_w_tree_a8_0 : Arv Z h0 w_tree_a8_0 kc_w_tree_a8_0 .long (4 : Int32) [(.long t_w_tree_a8_0_0), (.long t_w_tree_a8_0_1), (.long t_w_tree_a8_0_2), (.long t_w_tree_a8_0_3)] (.long (0 : Int64))) (g_a8_0 : n0 ≤ a8_0) (ne_w_tree_a8_0_a8_0 : w_tree_a8_0 ≠ a8_0) (g_w_tree_a8_0 : n0 ≤ w_tree_a8_0) :
    MetFree l (⟨"com/example/motley/motley/CountTree", "add", "(IJ)V"⟩ : MethodName) (head1 (Jvm.Cond.code (⟨"com/example/motley/motley/CountTree", "add", "(IJ)V"⟩ : MethodName) prog_14_method_7_code 5 none :: ws) ({ frames := 0, cells := 0, slots := 0, locals := 0 } : Room)) (fun a U => a = #[(.ref a8_0), (.int (2 : Int32)), (.long q8_2)] ∧ Z.Warmed39 U.vm ∧ U.heap = h0) (fun _ _ _ _ _ => True) (fun _ U o U' => ∃ v L, o = .returned v ∧ Q_rm8_3 Z a8_0 q8_2 w_tree_a8_0 w_total_a8_0 kc_w_tree_a8_0 t_w_tree_a8_0_0 t_w_tree_a8_0_1 t_w_tree_a8_0_2 t_w_tree_a8_0_3 h0 n0 v U'.heap L ∧ FrameEnd U o U' L ({ frames := 0, cells := 0, slots := 0, locals := 0 } : Room).cells ({ frames := 0, cells := 0, slots := 0, locals := 0 } : Room).slots) := by
  refine MetFree.of_bodySF (plainFor_of_name pn_8) hisR ?_
  intro p e s m args below meth c s₁ Bd hml0 hP hK
  obtain ⟨rfl, hZ, hh⟩ := hP
  have hx := Bd.exec
  have hby := Bd.bytes
  have hml : c.maxLocals = 5 := hml0
  have hown : s.vm.findClass "com/example/motley/motley/CountTree" = some m.cls := findClass_of_methodNamed Bd.named
  have hnm := (name_of_methodNamed Bd.named Bd.method).1
  have X0 : Stand p l e ({ frames := 0, cells := 0, slots := 0, locals := 0 } : Room) s m #[(.ref a8_0), (.int (2 : Int32)), (.long q8_2)] below meth c s₁ [] 0 0 := Stand.of_body Bd
  have e0 : s₁.heap = h0 := by rw [← hh, Bd.state]; rfl
  have N0 := Fr.nil n0
  have pre0 : ∀ t, Steps p.tables e below (s₁.setTop (mkF m 0 #[.val (.ref a8_0), .val (.int (2 : Int32)), .val (.long q8_2), .second, .unset] [])) t → Steps p.tables e below (s₁.setTop (entryFrame m #[(.ref a8_0), (.int (2 : Int32)), (.long q8_2)] 5)) t := fun t k => castTop (ef_rm8_3 m a8_0 q8_2) k
  obtain ⟨T1, X1, e1, st1⟩ := getF X0 hx hZ hown (host := "") (Or.inl (ow45 hw)) Via.refl e0 F_total_a8_0 (g := (mkF m 2 #[.val (.ref a8_0), .val (.int (2 : Int32)), .val (.long q8_2), .second, .unset] [(.ref a8_0), (.ref a8_0)])) rfl rfl (hb hby d8_2)
  obtain ⟨T2, h2, X2, e2, W2, st2⟩ := putF X1 hx hZ hown (host := "") (Or.inl (ow45 hw)) Via.refl e1 F_total_a8_0 E_a8_0 (Or.inl (ow46 hw)) (ow2 hw) (ty := .long) (by decide) rfl rfl (g := (mkF m 7 #[.val (.ref a8_0), .val (.int (2 : Int32)), .val (.long q8_2), .second, .unset] [(.long (w_total_a8_0 + q8_2)), (.ref a8_0)])) rfl rfl (hb hby d8_7)
  have F2 := F_total_a8_0.same W2
  have K2 : Keep h0 h2 [a8_0, w_tree_a8_0] := (Keep.refl h0 [a8_0, w_tree_a8_0]).wr W2 (Or.inl (List.mem_of_getElem? (i := 0) rfl))
  have Z2 : n0 ≤ h2.size := Nat.le_trans Z0 K2.1
  have N2 := Fr.snoc X2 N0 g_a8_0
  have f3 := (F_tree_a8_0.other W2 (Or.inr (slot_ne (Or.inl (ow12 hw)) (Or.inl (ow46 hw)) (by decide) (t := (.array .long)) (t' := .long) (by decide) (by decide))))
  obtain ⟨T4, X4, e4, st4⟩ := getF X2 hx hZ hown (host := "") (Or.inl (ow11 hw)) Via.refl e2 f3 (g := (mkF m 18 #[.val (.ref a8_0), .val (.int (2 : Int32)), .val (.long q8_2), .second, .val (.int (3 : Int32))] [(.ref a8_0), (.int (3 : Int32))])) rfl rfl (hb hby d8_18)
  have f5 := (V_w_tree_a8_0.other W2 ne_w_tree_a8_0_a8_0)
  obtain ⟨cl6, Ar6, qk6, Sz6, Nz6, Hh6, Gf6⟩ := id f5
  obtain ⟨T7, X7, e7, st7⟩ := getF X4 hx hZ hown (host := "") (Or.inl (ow11 hw)) Via.refl e4 f3 (g := (mkF m 26 #[.val (.ref a8_0), .val (.int (2 : Int32)), .val (.long q8_2), .second, .val (.int (3 : Int32))] [(.ref a8_0)])) rfl rfl (hb hby d8_26)
  obtain ⟨cl8, Ar8, qk8, Sz8, Nz8, Hh8, Gf8⟩ := id f5
  obtain ⟨cl9, Ar9, qk9, Sz9, Nz9, Hh9, Gf9⟩ := id f5
  obtain ⟨T10, h10, X10, e10, W10, st10⟩ := stJ X7 hx hZ e7 Ar9 (j := (2 : Int32)) (inb_of Sz9 ⟨by decide, by decide⟩) (g := (mkF m 37 #[.val (.ref a8_0), .val (.int (2 : Int32)), .val (.long q8_2), .second, .val (.int (3 : Int32))] [(.long (t_w_tree_a8_0_2 + q8_2)), (.int (2 : Int32)), (.ref w_tree_a8_0)])) rfl rfl (hb hby d8_37)
  have V10 : Arv Z h10 w_tree_a8_0 kc_w_tree_a8_0 .long (4 : Int32) [(.long t_w_tree_a8_0_0), (.long t_w_tree_a8_0_1), (.long (t_w_tree_a8_0_2 + q8_2)), (.long t_w_tree_a8_0_3)] (.long (0 : Int64)) := Arv.set Ar9 qk9 Sz9 Nz9 Hh9 Gf9 rfl W10 2 rfl (Nat.le_of_ble_eq_true rfl)
  have K10 : Keep h0 h10 [a8_0, w_tree_a8_0] := K2.wr W10 (Or.inl (List.mem_of_getElem? (i := 1) rfl))
  have Z10 : n0 ≤ h10.size := Nat.le_trans Z0 K10.1
  have N10 := Fr.snoc X10 N2 g_w_tree_a8_0
  have f11 := (f3.other W10 (Or.inl (Ne.symm ne_w_tree_a8_0_a8_0)))
  obtain ⟨T12, X12, e12, st12⟩ := getF X10 hx hZ hown (host := "") (Or.inl (ow11 hw)) Via.refl e10 f11 (g := (mkF m 18 #[.val (.ref a8_0), .val (.int (2 : Int32)), .val (.long q8_2), .second, .val (.int (4 : Int32))] [(.ref a8_0), (.int (4 : Int32))])) rfl rfl (hb hby d8_18)
  obtain ⟨cl13, Ar13, qk13, Sz13, Nz13, Hh13, Gf13⟩ := id V10
  obtain ⟨T14, X14, e14, st14⟩ := getF X12 hx hZ hown (host := "") (Or.inl (ow11 hw)) Via.refl e12 f11 (g := (mkF m 26 #[.val (.ref a8_0), .val (.int (2 : Int32)), .val (.long q8_2), .second, .val (.int (4 : Int32))] [(.ref a8_0)])) rfl rfl (hb hby d8_26)
  obtain ⟨cl15, Ar15, qk15, Sz15, Nz15, Hh15, Gf15⟩ := id V10
  obtain ⟨cl16, Ar16, qk16, Sz16, Nz16, Hh16, Gf16⟩ := id V10
  obtain ⟨T17, h17, X17, e17, W17, st17⟩ := stJ X14 hx hZ e14 Ar16 (j := (3 : Int32)) (inb_of Sz16 ⟨by decide, by decide⟩) (g := (mkF m 37 #[.val (.ref a8_0), .val (.int (2 : Int32)), .val (.long q8_2), .second, .val (.int (4 : Int32))] [(.long (t_w_tree_a8_0_3 + q8_2)), (.int (3 : Int32)), (.ref w_tree_a8_0)])) rfl rfl (hb hby d8_37)
  have V17 : Arv Z h17 w_tree_a8_0 kc_w_tree_a8_0 .long (4 : Int32) [(.long t_w_tree_a8_0_0), (.long t_w_tree_a8_0_1), (.long (t_w_tree_a8_0_2 + q8_2)), (.long (t_w_tree_a8_0_3 + q8_2))] (.long (0 : Int64)) := Arv.set Ar16 qk16 Sz16 Nz16 Hh16 Gf16 rfl W17 3 rfl (Nat.le_of_ble_eq_true rfl)
  have K17 : Keep h0 h17 [a8_0, w_tree_a8_0] := K10.wr W17 (Or.inl (List.mem_of_getElem? (i := 1) rfl))
  have Z17 : n0 ≤ h17.size := Nat.le_trans Z0 K17.1
  have N17 := Fr.snoc X17 N10 g_w_tree_a8_0
  have f18 := (f11.other W17 (Or.inl (Ne.symm ne_w_tree_a8_0_a8_0)))
  obtain ⟨T19, X19, e19, st19⟩ := getF X17 hx hZ hown (host := "") (Or.inl (ow11 hw)) Via.refl e17 f18 (g := (mkF m 18 #[.val (.ref a8_0), .val (.int (2 : Int32)), .val (.long q8_2), .second, .val (.int (8 : Int32))] [(.ref a8_0), (.int (8 : Int32))])) rfl rfl (hb hby d8_18)
  obtain ⟨cl20, Ar20, qk20, Sz20, Nz20, Hh20, Gf20⟩ := id V17
  obtain ⟨fs, hr, hrun, hended, hW, hsame⟩ := X19.leave (v := none) (fun _ => rfl)
  refine ⟨_, _, pre0 _ ?_, hrun, hended, _, _, rfl, ?_, ⟨_, rfl⟩, hW, hsame.mono (by decide) (by decide)⟩
  · show Steps p.tables e below (s₁.setTop (mkF m 0 #[.val (.ref a8_0), .val (.int (2 : Int32)), .val (.long q8_2), .second, .unset] [])) _
    refine XS.aloadN X0.here hx rfl (hb hby d8_0) rfl rfl ?_
    refine XS.dup X0.here hx rfl (hb hby d8_1) rfl rfl ?_
    refine st1 _ ?_
    show Steps p.tables e below (T1.setTop (mkF m 5 #[.val (.ref a8_0), .val (.int (2 : Int32)), .val (.long q8_2), .second, .unset] [(.long w_total_a8_0), (.ref a8_0)])) _
    refine XS.lloadN X1.here hx rfl (hb hby d8_5) rfl ?_
    refine XS.ladd X1.here hx rfl (hb hby d8_6) rfl ?_
    refine st2 _ ?_
    show Steps p.tables e below (T2.setTop (mkF m 10 #[.val (.ref a8_0), .val (.int (2 : Int32)), .val (.long q8_2), .second, .unset] [])) _
    refine XS.iloadN X2.here hx rfl (hb hby d8_10) rfl ?_
    refine XS.iconst X2.here hx rfl (hb hby d8_11) ?_
    refine XS.iadd X2.here hx rfl (hb hby d8_12) rfl ?_
    show Steps p.tables e below (T2.setTop (mkF m 13 #[.val (.ref a8_0), .val (.int (2 : Int32)), .val (.long q8_2), .second, .unset] [(.int (3 : Int32))])) _
    refine XS.istore X2.here hx rfl (hb hby d8_13) rfl (l' := #[.val (.ref a8_0), .val (.int (2 : Int32)), .val (.long q8_2), .second, .val (.int (3 : Int32))]) rfl ?_
    refine XS.iload X2.here hx rfl (hb hby d8_15) rfl ?_
    refine XS.aloadN X2.here hx rfl (hb hby d8_17) rfl rfl ?_
    show Steps p.tables e below (T2.setTop (mkF m 18 #[.val (.ref a8_0), .val (.int (2 : Int32)), .val (.long q8_2), .second, .val (.int (3 : Int32))] [(.ref a8_0), (.int (3 : Int32))])) _
    refine st4 _ ?_
    show Steps p.tables e below (T4.setTop (mkF m 21 #[.val (.ref a8_0), .val (.int (2 : Int32)), .val (.long q8_2), .second, .val (.int (3 : Int32))] [(.ref w_tree_a8_0), (.int (3 : Int32))])) _
    refine X4.arraylength hx (cell := cl6) (by rw [e4]; exact Ar6.1) (State.isArrayOf_alike hZ.alike Ar6.2.1) (g := (mkF m 21 #[.val (.ref a8_0), .val (.int (2 : Int32)), .val (.long q8_2), .second, .val (.int (3 : Int32))] [(.ref w_tree_a8_0), (.int (3 : Int32))])) rfl (rest := [(.int (3 : Int32))]) rfl (hb hby d8_21) _ ?_
    rw [len_of Sz6 Nz6]
    show Steps p.tables e below (T4.setTop (mkF m 22 #[.val (.ref a8_0), .val (.int (2 : Int32)), .val (.long q8_2), .second, .val (.int (3 : Int32))] [(.int (4 : Int32)), (.int (3 : Int32))])) _
    refine XS.icmpNo X4.here hx rfl (hb hby d8_22) rfl (flt (by decide : ¬ ((4 : Int32) < (3 : Int32)))).2.2.1 ?_
    refine XS.aloadN X4.here hx rfl (hb hby d8_25) rfl rfl ?_
    refine st7 _ ?_
    show Steps p.tables e below (T7.setTop (mkF m 29 #[.val (.ref a8_0), .val (.int (2 : Int32)), .val (.long q8_2), .second, .val (.int (3 : Int32))] [(.ref w_tree_a8_0)])) _
    refine XS.iload X7.here hx rfl (hb hby d8_29) rfl ?_
    refine XS.iconst X7.here hx rfl (hb hby d8_31) ?_
    refine XS.isub X7.here hx rfl (hb hby d8_32) rfl ?_
    show Steps p.tables e below (T7.setTop (mkF m 33 #[.val (.ref a8_0), .val (.int (2 : Int32)), .val (.long q8_2), .second, .val (.int (3 : Int32))] [(.int (2 : Int32)), (.ref w_tree_a8_0)])) _
    jvm_step X7.here [X7.here.top, hx, (hb hby d8_33), Value.category]
    refine X7.laload hx (j := (2 : Int32)) (v := (.long t_w_tree_a8_0_2)) (by rw [e7]; exact Ar8.1) (State.isArrayOf_alike hZ.alike Ar8.2.1) Ar8.2.2 (inb_of Sz8 ⟨by decide, by decide⟩) (Hh8.at (inb_of Sz8 ⟨by decide, by decide⟩) rfl) (g := (mkF m 34 #[.val (.ref a8_0), .val (.int (2 : Int32)), .val (.long q8_2), .second, .val (.int (3 : Int32))] [(.int (2 : Int32)), (.ref w_tree_a8_0), (.int (2 : Int32)), (.ref w_tree_a8_0)])) rfl rfl (hb hby d8_34) _ ?_
    refine XS.lloadN X7.here hx rfl (hb hby d8_35) rfl ?_
    show Steps p.tables e below (T7.setTop (mkF m 36 #[.val (.ref a8_0), .val (.int (2 : Int32)), .val (.long q8_2), .second, .val (.int (3 : Int32))] [(.long q8_2), (.long t_w_tree_a8_0_2), (.int (2 : Int32)), (.ref w_tree_a8_0)])) _
    refine XS.ladd X7.here hx rfl (hb hby d8_36) rfl ?_
    refine st10 _ ?_
    refine XS.iload X10.here hx rfl (hb hby d8_38) rfl ?_
    show Steps p.tables e below (T10.setTop (mkF m 40 #[.val (.ref a8_0), .val (.int (2 : Int32)), .val (.long q8_2), .second, .val (.int (3 : Int32))] [(.int (3 : Int32))])) _
    refine XS.iload X10.here hx rfl (hb hby d8_40) rfl ?_
    refine XS.iload X10.here hx rfl (hb hby d8_42) rfl ?_
    refine XS.ineg X10.here hx rfl (hb hby d8_44) rfl ?_
    show Steps p.tables e below (T10.setTop (mkF m 45 #[.val (.ref a8_0), .val (.int (2 : Int32)), .val (.long q8_2), .second, .val (.int (3 : Int32))] [(.int (-3 : Int32)), (.int (3 : Int32)), (.int (3 : Int32))])) _
    refine XS.iand X10.here hx rfl (hb hby d8_45) rfl ?_
    refine XS.iadd X10.here hx rfl (hb hby d8_46) rfl ?_
    refine XS.istore X10.here hx rfl (hb hby d8_47) rfl (l' := #[.val (.ref a8_0), .val (.int (2 : Int32)), .val (.long q8_2), .second, .val (.int (4 : Int32))]) rfl ?_
    show Steps p.tables e below (T10.setTop (mkF m 49 #[.val (.ref a8_0), .val (.int (2 : Int32)), .val (.long q8_2), .second, .val (.int (4 : Int32))] [])) _
    refine XS.goto X10.here hx rfl (pc0 := 49) (pc' := 15) rfl (hb hby d8_49) (by decide) (by decide) ?_
    refine XS.iload X10.here hx rfl (hb hby d8_15) rfl ?_
    refine XS.aloadN X10.here hx rfl (hb hby d8_17) rfl rfl ?_
    show Steps p.tables e below (T10.setTop (mkF m 18 #[.val (.ref a8_0), .val (.int (2 : Int32)), .val (.long q8_2), .second, .val (.int (4 : Int32))] [(.ref a8_0), (.int (4 : Int32))])) _
    refine st12 _ ?_
    show Steps p.tables e below (T12.setTop (mkF m 21 #[.val (.ref a8_0), .val (.int (2 : Int32)), .val (.long q8_2), .second, .val (.int (4 : Int32))] [(.ref w_tree_a8_0), (.int (4 : Int32))])) _
    refine X12.arraylength hx (cell := cl13) (by rw [e12]; exact Ar13.1) (State.isArrayOf_alike hZ.alike Ar13.2.1) (g := (mkF m 21 #[.val (.ref a8_0), .val (.int (2 : Int32)), .val (.long q8_2), .second, .val (.int (4 : Int32))] [(.ref w_tree_a8_0), (.int (4 : Int32))])) rfl (rest := [(.int (4 : Int32))]) rfl (hb hby d8_21) _ ?_
    rw [len_of Sz13 Nz13]
    show Steps p.tables e below (T12.setTop (mkF m 22 #[.val (.ref a8_0), .val (.int (2 : Int32)), .val (.long q8_2), .second, .val (.int (4 : Int32))] [(.int (4 : Int32)), (.int (4 : Int32))])) _
    refine XS.icmpNo X12.here hx rfl (hb hby d8_22) rfl (flt (by decide : ¬ ((4 : Int32) < (4 : Int32)))).2.2.1 ?_
    refine XS.aloadN X12.here hx rfl (hb hby d8_25) rfl rfl ?_
    refine st14 _ ?_
    show Steps p.tables e below (T14.setTop (mkF m 29 #[.val (.ref a8_0), .val (.int (2 : Int32)), .val (.long q8_2), .second, .val (.int (4 : Int32))] [(.ref w_tree_a8_0)])) _
    refine XS.iload X14.here hx rfl (hb hby d8_29) rfl ?_
    refine XS.iconst X14.here hx rfl (hb hby d8_31) ?_
    refine XS.isub X14.here hx rfl (hb hby d8_32) rfl ?_
    show Steps p.tables e below (T14.setTop (mkF m 33 #[.val (.ref a8_0), .val (.int (2 : Int32)), .val (.long q8_2), .second, .val (.int (4 : Int32))] [(.int (3 : Int32)), (.ref w_tree_a8_0)])) _
    jvm_step X14.here [X14.here.top, hx, (hb hby d8_33), Value.category]
    refine X14.laload hx (j := (3 : Int32)) (v := (.long t_w_tree_a8_0_3)) (by rw [e14]; exact Ar15.1) (State.isArrayOf_alike hZ.alike Ar15.2.1) Ar15.2.2 (inb_of Sz15 ⟨by decide, by decide⟩) (Hh15.at (inb_of Sz15 ⟨by decide, by decide⟩) rfl) (g := (mkF m 34 #[.val (.ref a8_0), .val (.int (2 : Int32)), .val (.long q8_2), .second, .val (.int (4 : Int32))] [(.int (3 : Int32)), (.ref w_tree_a8_0), (.int (3 : Int32)), (.ref w_tree_a8_0)])) rfl rfl (hb hby d8_34) _ ?_
    refine XS.lloadN X14.here hx rfl (hb hby d8_35) rfl ?_
    show Steps p.tables e below (T14.setTop (mkF m 36 #[.val (.ref a8_0), .val (.int (2 : Int32)), .val (.long q8_2), .second, .val (.int (4 : Int32))] [(.long q8_2), (.long t_w_tree_a8_0_3), (.int (3 : Int32)), (.ref w_tree_a8_0)])) _
    refine XS.ladd X14.here hx rfl (hb hby d8_36) rfl ?_
    refine st17 _ ?_
    refine XS.iload X17.here hx rfl (hb hby d8_38) rfl ?_
    show Steps p.tables e below (T17.setTop (mkF m 40 #[.val (.ref a8_0), .val (.int (2 : Int32)), .val (.long q8_2), .second, .val (.int (4 : Int32))] [(.int (4 : Int32))])) _
    refine XS.iload X17.here hx rfl (hb hby d8_40) rfl ?_
    refine XS.iload X17.here hx rfl (hb hby d8_42) rfl ?_
    refine XS.ineg X17.here hx rfl (hb hby d8_44) rfl ?_
    show Steps p.tables e below (T17.setTop (mkF m 45 #[.val (.ref a8_0), .val (.int (2 : Int32)), .val (.long q8_2), .second, .val (.int (4 : Int32))] [(.int (-4 : Int32)), (.int (4 : Int32)), (.int (4 : Int32))])) _
    refine XS.iand X17.here hx rfl (hb hby d8_45) rfl ?_
    refine XS.iadd X17.here hx rfl (hb hby d8_46) rfl ?_
    refine XS.istore X17.here hx rfl (hb hby d8_47) rfl (l' := #[.val (.ref a8_0), .val (.int (2 : Int32)), .val (.long q8_2), .second, .val (.int (8 : Int32))]) rfl ?_
    show Steps p.tables e below (T17.setTop (mkF m 49 #[.val (.ref a8_0), .val (.int (2 : Int32)), .val (.long q8_2), .second, .val (.int (8 : Int32))] [])) _
    refine XS.goto X17.here hx rfl (pc0 := 49) (pc' := 15) rfl (hb hby d8_49) (by decide) (by decide) ?_
    refine XS.iload X17.here hx rfl (hb hby d8_15) rfl ?_
    refine XS.aloadN X17.here hx rfl (hb hby d8_17) rfl rfl ?_
    show Steps p.tables e below (T17.setTop (mkF m 18 #[.val (.ref a8_0), .val (.int (2 : Int32)), .val (.long q8_2), .second, .val (.int (8 : Int32))] [(.ref a8_0), (.int (8 : Int32))])) _
    refine st19 _ ?_
    show Steps p.tables e below (T19.setTop (mkF m 21 #[.val (.ref a8_0), .val (.int (2 : Int32)), .val (.long q8_2), .second, .val (.int (8 : Int32))] [(.ref w_tree_a8_0), (.int (8 : Int32))])) _
    refine X19.arraylength hx (cell := cl20) (by rw [e19]; exact Ar20.1) (State.isArrayOf_alike hZ.alike Ar20.2.1) (g := (mkF m 21 #[.val (.ref a8_0), .val (.int (2 : Int32)), .val (.long q8_2), .second, .val (.int (8 : Int32))] [(.ref w_tree_a8_0), (.int (8 : Int32))])) rfl (rest := [(.int (8 : Int32))]) rfl (hb hby d8_21) _ ?_
    rw [len_of Sz20 Nz20]
    show Steps p.tables e below (T19.setTop (mkF m 22 #[.val (.ref a8_0), .val (.int (2 : Int32)), .val (.long q8_2), .second, .val (.int (8 : Int32))] [(.int (4 : Int32)), (.int (8 : Int32))])) _
    refine XS.icmpYes X19.here hx rfl (pc0 := 22) (pc' := 52) rfl (hb hby d8_22) rfl (tlt (by decide : (4 : Int32) < (8 : Int32))).2.2.1 (by decide) (by decide) ?_
    show Steps p.tables e below (T19.setTop (mkF m 52 #[.val (.ref a8_0), .val (.int (2 : Int32)), .val (.long q8_2), .second, .val (.int (8 : Int32))] [])) _
    exact X19.returnOut hx Bd.returns (hb hby d8_52) hr
  · have f21 := (((E_a8_0.wr W2).wr W10).wr W17)
    have f22 := (((F_size_a8_0.other W2 (Or.inr (slot_ne (Or.inl (ow24 hw)) (Or.inl (ow46 hw)) (by decide) (t := .int) (t' := .long) (by decide) (by decide)))).other W10 (Or.inl (Ne.symm ne_w_tree_a8_0_a8_0))).other W17 (Or.inl (Ne.symm ne_w_tree_a8_0_a8_0)))
    have f23 := ((F2.other W10 (Or.inl (Ne.symm ne_w_tree_a8_0_a8_0))).other W17 (Or.inl (Ne.symm ne_w_tree_a8_0_a8_0)))
    show Q_rm8_3 Z a8_0 q8_2 w_tree_a8_0 w_total_a8_0 kc_w_tree_a8_0 t_w_tree_a8_0_0 t_w_tree_a8_0_1 t_w_tree_a8_0_2 t_w_tree_a8_0_3 h0 n0 _ T19.heap _
    rw [e19]
    exact ⟨rfl, N17, K17, f21, f18, f22, f23, V17⟩
theorem ef_rm3_3 (m : MethodId) (y0 : Addr) (y1 : Int64) : entryFrame m #[(.ref y0), (.long y1)] 3 = mkF m 0 #[.val (.ref y0), .val (.long y1), .second] [] := by first | (simp [entryFrame, mkF, argsToLocals, Value.category]; done) | rfl
def Q_rm3_3 (Z : State) (a3_0 : Addr) (q3_1 : Int64) (w_tree_a3_0 : Addr) (w_total_a3_0 : Int64) (kc_w_tree_a3_0 : ClassId) (t_w_tree_a3_0_0 : Int64) (t_w_tree_a3_0_1 : Int64) (h0 : Heap) (n0 : Nat) (v : Option Value) (h : Heap) (L : List Loc) : Prop := ∃ bx3_0 : Addr, ∃ kx3_0 : ClassId, v = none ∧ Fr n0 L ∧ Keep h0 h [a3_0] ∧ h0.size ≤ bx3_0 ∧ Exa Z h a3_0 "com/example/motley/motley/CountTree" ∧ Fld Z h a3_0 "com/example/motley/motley/CountTree" "tree" "[J" (.ref bx3_0) ∧ Fld Z h a3_0 "com/example/motley/motley/CountTree" "size" "I" (.int (3 : Int32)) ∧ Fld Z h a3_0 "com/example/motley/motley/CountTree" "total" "J" (.long (w_total_a3_0 + q3_1)) ∧ Arv Z h bx3_0 kx3_0 .long (4 : Int32) [(.long t_w_tree_a3_0_0), (.long t_w_tree_a3_0_1), (.long ((0 : Int64) + q3_1)), (.long ((w_total_a3_0 - (0 : Int64)) + q3_1))] (.long (0 : Int64))
set_option maxRecDepth 65536 in
set_option maxHeartbeats 40000000 in
theorem rm3_3 (l : Launch) (Z : State) (a0 : Array Value) (hw : ∀ d ∈ tables_1, d.before a0 Z = true) (ws : List Jvm.Cond) (a3_0 : Addr) (q3_1 : Int64) (w_tree_a3_0 : Addr) (w_total_a3_0 : Int64) (kc_w_tree_a3_0 : ClassId) (t_w_tree_a3_0_0 : Int64) (t_w_tree_a3_0_1 : Int64) (h0 : Heap) (n0 : Nat) (Z0 : n0 ≤ h0.size) (E_a3_0 : Exa Z h0 a3_0 "com/example/motley/motley/CountTree") (F_tree_a3_0 : Fld Z h0 a3_0 "com/example/motley/motley/CountTree" "tree" "[J" (.ref w_tree_a3_0)) (F_size_a3_0 : Fld Z h0 a3_0 "com/example/motley/motley/CountTree" "size" "I" (.int (2 : Int32))) (F_total_a3_0 : Fld Z h0 a3_0 "com/example/motley/motley/CountTree" "total" "J" (.long w_total_a3_0)) (V_w_tree_a3_0 : Arv Z h0 w_tree_a3_0 kc_w_tree_a3_0 .long (2 : Int32) [(.long t_w_tree_a3_0_0), (.long t_w_tree_a3_0_1)] (.long (0 : Int64))) (g_a3_0 : n0 ≤ a3_0) :
    MetFree l (⟨"com/example/motley/motley/CountTree", "append", "(J)V"⟩ : MethodName) (head1 (Jvm.Cond.code (⟨"com/example/motley/motley/CountTree", "append", "(J)V"⟩ : MethodName) prog_14_method_4_code 3 none :: ws) ({ frames := 3, cells := 1, slots := 4, locals := 50 } : Room)) (fun a U => a = #[(.ref a3_0), (.long q3_1)] ∧ Z.Warmed39 U.vm ∧ U.heap = h0) (fun _ _ _ _ _ => True) (fun _ U o U' => ∃ v L, o = .returned v ∧ Q_rm3_3 Z a3_0 q3_1 w_tree_a3_0 w_total_a3_0 kc_w_tree_a3_0 t_w_tree_a3_0_0 t_w_tree_a3_0_1 h0 n0 v U'.heap L ∧ FrameEnd U o U' L ({ frames := 3, cells := 1, slots := 4, locals := 50 } : Room).cells ({ frames := 3, cells := 1, slots := 4, locals := 50 } : Room).slots) := by
  refine MetFree.of_bodySF (plainFor_of_name pn_3) hisR ?_
  intro p e s m args below meth c s₁ Bd hml0 hP hK
  obtain ⟨rfl, hZ, hh⟩ := hP
  have hx := Bd.exec
  have hby := Bd.bytes
  have hml : c.maxLocals = 3 := hml0
  have hown : s.vm.findClass "com/example/motley/motley/CountTree" = some m.cls := findClass_of_methodNamed Bd.named
  have hnm := (name_of_methodNamed Bd.named Bd.method).1
  have X0 : Stand p l e ({ frames := 3, cells := 1, slots := 4, locals := 50 } : Room) s m #[(.ref a3_0), (.long q3_1)] below meth c s₁ [] 0 0 := Stand.of_body Bd
  have e0 : s₁.heap = h0 := by rw [← hh, Bd.state]; rfl
  have N0 := Fr.nil n0
  have pre0 : ∀ t, Steps p.tables e below (s₁.setTop (mkF m 0 #[.val (.ref a3_0), .val (.long q3_1), .second] [])) t → Steps p.tables e below (s₁.setTop (entryFrame m #[(.ref a3_0), (.long q3_1)] 3)) t := fun t k => castTop (ef_rm3_3 m a3_0 q3_1) k
  obtain ⟨cq1, kq1, q1a, q1b, q1c⟩ := isOf hZ e0 E_a3_0
  obtain ⟨_, _, ⟨T1, L1, k1, n1⟩, -, X1, ⟨Lc1, hQ1, l1, y1, z1⟩, st1⟩ := X0.virtualBack hx (y := (⟨"com/example/motley/motley/CountTree", "reserve", "(I)V"⟩ : MethodName)) (z := (⟨"com/example/motley/motley/CountTree", "reserve", "(I)V"⟩ : MethodName)) hown (mvT hZ (ow18 hw)) (mvT hZ (ow19 hw)) (notFace_of_selects (args := #[]) (mvT hZ (ow21 hw))) (mvT hZ (ow21 hw)) (mvT hZ (ow20 hw)) (by decide) (backOf (W := 0) (rm4_3 l Z a0 hw [] a3_0 w_tree_a3_0 w_total_a3_0 kc_w_tree_a3_0 t_w_tree_a3_0_0 t_w_tree_a3_0_1 h0 n0 Z0 E_a3_0 F_tree_a3_0 F_size_a3_0 F_total_a3_0 V_w_tree_a3_0 g_a3_0) hZ (ow22 hw) (ow3 hw) (by decide) (by decide)) q1a q1c (g := (mkF m 2 #[.val (.ref a3_0), .val (.long q3_1), .second] [(.int (1 : Int32)), (.ref a3_0)])) rfl (by rw [hml]; rfl) (Steps.refl _) (argsL := [(.int (1 : Int32))]) (rest := []) (lenOf pd__I_V rfl) rfl (by show 2 * 0 + _ ≤ _; exact Nat.le_of_eq rfl) (hb hby d3_2) (fun _ _ => ⟨rfl, e0, (by decide : 0 + 1 ≤ _), (by decide : 0 + 4 ≤ _)⟩)
  dsimp only [Pt.U, Pt.locs, Pt.cells, Pt.slots] at X1 l1 y1 z1 st1 hQ1
  subst l1 y1 z1
  obtain ⟨bx4_0_1, kx4_0_1, rfl, Nq1, Kc1, P1_0, P1_1, P1_2, P1_3, P1_4, P1_5⟩ := hQ1
  have K1 : Keep h0 T1.heap [a3_0] := Keep.trans (Keep.refl h0 [a3_0]) Kc1 (allS (P := fun x => x ∈ ([a3_0] : List Addr) ∨ h0.size ≤ x) (Or.inl (List.mem_of_getElem? (i := 0) rfl)) all0)
  have Z1 : n0 ≤ T1.heap.size := Nat.le_trans Z0 K1.1
  have g_bx4_0_1 : n0 ≤ bx4_0_1 := Nat.le_trans Z0 P1_0
  have sz_bx4_0_1 : h0.size ≤ bx4_0_1 := Nat.le_trans (Nat.le_refl _) P1_0
  have ne_a3_0_bx4_0_1 : a3_0 ≠ bx4_0_1 := Nat.ne_of_lt (Nat.lt_of_lt_of_le E_a3_0.lt P1_0)
  have ne_w_tree_a3_0_bx4_0_1 : w_tree_a3_0 ≠ bx4_0_1 := Nat.ne_of_lt (Nat.lt_of_lt_of_le V_w_tree_a3_0.lt P1_0)
  obtain ⟨y2, hy2⟩ : ∃ z : Int64, z = (w_total_a3_0 - (0 : Int64)) := ⟨_, rfl⟩
  rw [← hy2] at P1_5
  have N1 := Fr.app N0 Nq1
  obtain ⟨T3, X3, e3, st3⟩ := getF X1 hx hZ hown (host := "") (Or.inl (ow23 hw)) Via.refl rfl P1_3 (g := (mkF m 7 #[.val (.ref a3_0), .val (.long q3_1), .second] [(.ref a3_0), (.ref a3_0)])) rfl rfl (hb hby d3_7)
  obtain ⟨T4, h4, X4, e4, W4, st4⟩ := putF X3 hx hZ hown (host := "") (Or.inl (ow23 hw)) Via.refl e3 P1_3 P1_1 (Or.inl (ow24 hw)) (ow2 hw) (ty := .int) (by decide) rfl rfl (g := (mkF m 12 #[.val (.ref a3_0), .val (.long q3_1), .second] [(.int (3 : Int32)), (.ref a3_0)])) rfl rfl (hb hby d3_12)
  have F4 := P1_3.same W4
  have K4 : Keep h0 h4 [a3_0] := K1.wr W4 (Or.inl (List.mem_of_getElem? (i := 0) rfl))
  have Z4 : n0 ≤ h4.size := Nat.le_trans Z0 K4.1
  have N4 := Fr.snoc X4 N1 g_a3_0
  obtain ⟨T5, X5, e5, st5⟩ := getF X4 hx hZ hown (host := "") (Or.inl (ow23 hw)) Via.refl e4 F4 (g := (mkF m 17 #[.val (.ref a3_0), .val (.long q3_1), .second] [(.ref a3_0), (.ref a3_0)])) rfl rfl (hb hby d3_17)
  have f6 := (P1_5.other W4 (Ne.symm ne_a3_0_bx4_0_1))
  have f7 := (P1_1.wr W4)
  have f8 := (P1_2.other W4 (Or.inr (slot_ne (Or.inl (ow12 hw)) (Or.inl (ow24 hw)) (by decide) (t := (.array .long)) (t' := .int) (by decide) (by decide))))
  have f9 := (P1_4.other W4 (Or.inr (slot_ne (Or.inl (ow46 hw)) (Or.inl (ow24 hw)) (by decide) (t := .long) (t' := .int) (by decide) (by decide))))
  obtain ⟨cq10, kq10, q10a, q10b, q10c⟩ := isOf hZ e5 f7
  obtain ⟨_, _, ⟨T10, L10, k10, n10⟩, -, X10, ⟨Lc10, hQ10, l10, y10, z10⟩, st10⟩ := X5.virtualBack hx (y := (⟨"com/example/motley/motley/CountTree", "add", "(IJ)V"⟩ : MethodName)) (z := (⟨"com/example/motley/motley/CountTree", "add", "(IJ)V"⟩ : MethodName)) hown (mvT hZ (ow40 hw)) (mvT hZ (ow41 hw)) (notFace_of_selects (args := #[]) (mvT hZ (ow43 hw))) (mvT hZ (ow43 hw)) (mvT hZ (ow42 hw)) (by decide) (backOf (W := 0) (rm8_3 l Z a0 hw [] a3_0 q3_1 bx4_0_1 w_total_a3_0 kx4_0_1 t_w_tree_a3_0_0 t_w_tree_a3_0_1 (0 : Int64) y2 h4 n0 Z4 f7 f8 F4 f9 f6 g_a3_0 (Ne.symm ne_a3_0_bx4_0_1) g_bx4_0_1) hZ (ow44 hw) (ow3 hw) (by decide) (by decide)) q10a q10c (g := (mkF m 23 #[.val (.ref a3_0), .val (.long q3_1), .second] [(.long q3_1), (.int (2 : Int32)), (.ref a3_0)])) rfl (by rw [hml]; rfl) (Steps.refl _) (argsL := [(.int (2 : Int32)), (.long q3_1)]) (rest := []) (lenOf pd__IJ_V rfl) rfl (by show 2 * 0 + _ ≤ _; exact Nat.le_of_eq rfl) (hb hby d3_23) (fun _ _ => ⟨rfl, e5, (by decide : 1 + 0 ≤ _), (by decide : 4 + 0 ≤ _)⟩)
  dsimp only [Pt.U, Pt.locs, Pt.cells, Pt.slots] at X10 l10 y10 z10 st10 hQ10
  subst l10 y10 z10
  obtain ⟨rfl, Nq10, Kc10, P10_0, P10_1, P10_2, P10_3, P10_4⟩ := hQ10
  have K10 : Keep h0 T10.heap [a3_0] := Keep.trans K4 Kc10 (allS (P := fun x => x ∈ ([a3_0] : List Addr) ∨ h0.size ≤ x) (Or.inl (List.mem_of_getElem? (i := 0) rfl)) (allS (P := fun x => x ∈ ([a3_0] : List Addr) ∨ h0.size ≤ x) (Or.inr sz_bx4_0_1) all0))
  have Z10 : n0 ≤ T10.heap.size := Nat.le_trans Z0 K10.1
  obtain ⟨y11, hy11⟩ : ∃ z : Int64, z = (w_total_a3_0 + q3_1) := ⟨_, rfl⟩
  rw [← hy11] at P10_3
  obtain ⟨y12, hy12⟩ : ∃ z : Int64, z = ((0 : Int64) + q3_1) := ⟨_, rfl⟩
  rw [← hy12] at P10_4
  obtain ⟨y13, hy13⟩ : ∃ z : Int64, z = (y2 + q3_1) := ⟨_, rfl⟩
  rw [← hy13] at P10_4
  have N10 := Fr.app N4 Nq10
  obtain ⟨fs, hr, hrun, hended, hW, hsame⟩ := X10.leave (v := none) (fun _ => rfl)
  refine ⟨_, _, pre0 _ ?_, hrun, hended, _, _, rfl, ?_, ⟨_, rfl⟩, hW, hsame.mono (by decide) (by decide)⟩
  · show Steps p.tables e below (s₁.setTop (mkF m 0 #[.val (.ref a3_0), .val (.long q3_1), .second] [])) _
    refine XS.aloadN X0.here hx rfl (hb hby d3_0) rfl rfl ?_
    refine XS.iconst X0.here hx rfl (hb hby d3_1) ?_
    refine st1.trans ?_
    show Steps p.tables e below (T1.setTop (mkF m 5 #[.val (.ref a3_0), .val (.long q3_1), .second] [])) _
    refine XS.aloadN X1.here hx rfl (hb hby d3_5) rfl rfl ?_
    refine XS.dup X1.here hx rfl (hb hby d3_6) rfl rfl ?_
    refine st3 _ ?_
    show Steps p.tables e below (T3.setTop (mkF m 10 #[.val (.ref a3_0), .val (.long q3_1), .second] [(.int (2 : Int32)), (.ref a3_0)])) _
    refine XS.iconst X3.here hx rfl (hb hby d3_10) ?_
    refine XS.iadd X3.here hx rfl (hb hby d3_11) rfl ?_
    refine st4 _ ?_
    show Steps p.tables e below (T4.setTop (mkF m 15 #[.val (.ref a3_0), .val (.long q3_1), .second] [])) _
    refine XS.aloadN X4.here hx rfl (hb hby d3_15) rfl rfl ?_
    refine XS.aloadN X4.here hx rfl (hb hby d3_16) rfl rfl ?_
    refine st5 _ ?_
    show Steps p.tables e below (T5.setTop (mkF m 20 #[.val (.ref a3_0), .val (.long q3_1), .second] [(.int (3 : Int32)), (.ref a3_0)])) _
    refine XS.iconst X5.here hx rfl (hb hby d3_20) ?_
    refine XS.isub X5.here hx rfl (hb hby d3_21) rfl ?_
    refine XS.lloadN X5.here hx rfl (hb hby d3_22) rfl ?_
    show Steps p.tables e below (T5.setTop (mkF m 23 #[.val (.ref a3_0), .val (.long q3_1), .second] [(.long q3_1), (.int (2 : Int32)), (.ref a3_0)])) _
    refine st10.trans ?_
    show Steps p.tables e below (T10.setTop (mkF m 26 #[.val (.ref a3_0), .val (.long q3_1), .second] [])) _
    exact X10.returnOut hx Bd.returns (hb hby d3_26) hr
  · show Q_rm3_3 Z a3_0 q3_1 w_tree_a3_0 w_total_a3_0 kc_w_tree_a3_0 t_w_tree_a3_0_0 t_w_tree_a3_0_1 h0 n0 _ T10.heap _
    subst hy13
    subst hy12
    subst hy11
    subst hy2
    exact ⟨bx4_0_1, kx4_0_1, rfl, N10, K10, sz_bx4_0_1, P10_0, P10_1, P10_2, P10_3, P10_4⟩
theorem ef_rm9_6 (m : MethodId) (y0 : Addr) (y1 : Int32) : entryFrame m #[(.ref y0), (.int y1)] 5 = mkF m 0 #[.val (.ref y0), .val (.int y1), .unset, .unset, .unset] [] := by first | (simp [entryFrame, mkF, argsToLocals, Value.category]; done) | rfl
def Q_rm9_6 (Z : State) (a9_0 : Addr) (p9_1 : Int32) (w_tree_a9_0 : Addr) (w_total_a9_0 : Int64) (kc_w_tree_a9_0 : ClassId) (t_w_tree_a9_0_0 : Int64) (t_w_tree_a9_0_1 : Int64) (t_w_tree_a9_0_2 : Int64) (t_w_tree_a9_0_3 : Int64) (h0 : Heap) (n0 : Nat) (v : Option Value) (h : Heap) (L : List Loc) : Prop := v = some (.long (if p9_1 = (0 : Int32) then (0 : Int64) else (if p9_1 = (1 : Int32) then ((0 : Int64) + t_w_tree_a9_0_0) else (if p9_1 = (2 : Int32) then ((0 : Int64) + t_w_tree_a9_0_1) else (((0 : Int64) + t_w_tree_a9_0_2) + t_w_tree_a9_0_1))))) ∧ Fr n0 L ∧ h = h0
set_option maxRecDepth 65536 in
set_option maxHeartbeats 40000000 in
theorem rm9_6 (l : Launch) (Z : State) (a0 : Array Value) (hw : ∀ d ∈ tables_1, d.before a0 Z = true) (ws : List Jvm.Cond) (a9_0 : Addr) (p9_1 : Int32) (w_tree_a9_0 : Addr) (w_total_a9_0 : Int64) (kc_w_tree_a9_0 : ClassId) (t_w_tree_a9_0_0 : Int64) (t_w_tree_a9_0_1 : Int64) (t_w_tree_a9_0_2 : Int64) (t_w_tree_a9_0_3 : Int64) (h0 : Heap) (n0 : Nat) (Z0 : n0 ≤ h0.size) (hq : p9_1 = (0 : Int32) ∨ p9_1 = (1 : Int32) ∨ p9_1 = (2 : Int32) ∨ p9_1 = (3 : Int32)) (E_a9_0 : Exa Z h0 a9_0 "com/example/motley/motley/CountTree") (F_tree_a9_0 : Fld Z h0 a9_0 "com/example/motley/motley/CountTree" "tree" "[J" (.ref w_tree_a9_0)) (F_size_a9_0 : Fld Z h0 a9_0 "com/example/motley/motley/CountTree" "size" "I" (.int (3 : Int32))) (F_total_a9_0 : Fld Z h0 a9_0 "com/example/motley/motley/CountTree" "total" "J" (.long w_total_a9_0)) (V_w_tree_a9_0 : Arv Z h0 w_tree_a9_0 kc_w_tree_a9_0 .long (4 : Int32) [(.long t_w_tree_a9_0_0), (.long t_w_tree_a9_0_1), (.long t_w_tree_a9_0_2), (.long t_w_tree_a9_0_3)] (.long (0 : Int64))) :
    MetFree l (⟨"com/example/motley/motley/CountTree", "sumBefore", "(I)J"⟩ : MethodName) (head1 (Jvm.Cond.code (⟨"com/example/motley/motley/CountTree", "sumBefore", "(I)J"⟩ : MethodName) prog_14_method_8_code 5 (some .long) :: ws) ({ frames := 0, cells := 0, slots := 0, locals := 0 } : Room)) (fun a U => a = #[(.ref a9_0), (.int p9_1)] ∧ Z.Warmed39 U.vm ∧ U.heap = h0) (fun _ _ _ _ _ => True) (fun _ U o U' => ∃ v L, o = .returned v ∧ Q_rm9_6 Z a9_0 p9_1 w_tree_a9_0 w_total_a9_0 kc_w_tree_a9_0 t_w_tree_a9_0_0 t_w_tree_a9_0_1 t_w_tree_a9_0_2 t_w_tree_a9_0_3 h0 n0 v U'.heap L ∧ FrameEnd U o U' L ({ frames := 0, cells := 0, slots := 0, locals := 0 } : Room).cells ({ frames := 0, cells := 0, slots := 0, locals := 0 } : Room).slots) := by
  refine MetFree.of_bodySF (plainFor_of_name pn_9) hisR ?_
  intro p e s m args below meth c s₁ Bd hml0 hP hK
  obtain ⟨rfl, hZ, hh⟩ := hP
  have hx := Bd.exec
  have hby := Bd.bytes
  have hml : c.maxLocals = 5 := hml0
  have hown : s.vm.findClass "com/example/motley/motley/CountTree" = some m.cls := findClass_of_methodNamed Bd.named
  have hnm := (name_of_methodNamed Bd.named Bd.method).1
  have X0 : Stand p l e ({ frames := 0, cells := 0, slots := 0, locals := 0 } : Room) s m #[(.ref a9_0), (.int p9_1)] below meth c s₁ [] 0 0 := Stand.of_body Bd
  have e0 : s₁.heap = h0 := by rw [← hh, Bd.state]; rfl
  have N0 := Fr.nil n0
  have pre0 : ∀ t, Steps p.tables e below (s₁.setTop (mkF m 0 #[.val (.ref a9_0), .val (.int p9_1), .unset, .unset, .unset] [])) t → Steps p.tables e below (s₁.setTop (entryFrame m #[(.ref a9_0), (.int p9_1)] 5)) t := fun t k => castTop (ef_rm9_6 m a9_0 p9_1) k
  by_cases hb1 : p9_1 = (0 : Int32)
  · have own_t1 : True := trivial
    obtain ⟨fs, hr, hrun, hended, hW, hsame⟩ := X0.leave (v := some (.long (0 : Int64))) (fun h => by rw [Bd.returns] at h; cases h)
    refine ⟨_, _, pre0 _ ?_, hrun, hended, _, _, rfl, ?_, ⟨_, rfl⟩, hW, hsame.mono (by decide) (by decide)⟩
    · show Steps p.tables e below (s₁.setTop (mkF m 0 #[.val (.ref a9_0), .val (.int p9_1), .unset, .unset, .unset] [])) _
      rw [hb1]
      show Steps p.tables e below (s₁.setTop (mkF m 0 #[.val (.ref a9_0), .val (.int (0 : Int32)), .unset, .unset, .unset] [])) _
      refine XS.lconst X0.here hx rfl (hb hby d9_0) ?_
      refine XS.lstoreN X0.here hx rfl (hb hby d9_1) rfl (l' := #[.val (.ref a9_0), .val (.int (0 : Int32)), .val (.long (0 : Int64)), .second, .unset]) rfl ?_
      refine XS.iloadN X0.here hx rfl (hb hby d9_2) rfl ?_
      show Steps p.tables e below (s₁.setTop (mkF m 3 #[.val (.ref a9_0), .val (.int (0 : Int32)), .val (.long (0 : Int64)), .second, .unset] [(.int (0 : Int32))])) _
      refine XS.istore X0.here hx rfl (hb hby d9_3) rfl (l' := #[.val (.ref a9_0), .val (.int (0 : Int32)), .val (.long (0 : Int64)), .second, .val (.int (0 : Int32))]) rfl ?_
      refine XS.iload X0.here hx rfl (hb hby d9_5) rfl ?_
      show Steps p.tables e below (s₁.setTop (mkF m 7 #[.val (.ref a9_0), .val (.int (0 : Int32)), .val (.long (0 : Int64)), .second, .val (.int (0 : Int32))] [(.int (0 : Int32))])) _
      refine XS.ifYes X0.here hx rfl (pc0 := 7) (pc' := 36) rfl (hb hby d9_7) rfl ((if0 _ _).trans (flt (by decide : ¬ ((0 : Int32) < (0 : Int32)))).2.2.2) (by decide) (by decide) ?_
      refine XS.lloadN X0.here hx rfl (hb hby d9_36) rfl ?_
      show Steps p.tables e below (s₁.setTop (mkF m 37 #[.val (.ref a9_0), .val (.int (0 : Int32)), .val (.long (0 : Int64)), .second, .val (.int (0 : Int32))] [(.long (0 : Int64))])) _
      exact own_retJ X0 hx Bd.returns (hb hby d9_37) hr
    · show Q_rm9_6 Z a9_0 p9_1 w_tree_a9_0 w_total_a9_0 kc_w_tree_a9_0 t_w_tree_a9_0_0 t_w_tree_a9_0_1 t_w_tree_a9_0_2 t_w_tree_a9_0_3 h0 n0 _ s₁.heap _
      rw [e0]
      exact ⟨(congrArg (fun z => some (Value.long z)) (if_pos hb1).symm), N0, rfl⟩
  · have own_u1 : True := trivial
    by_cases hb2 : p9_1 = (1 : Int32)
    · have own_t2 : True := trivial
      obtain ⟨T3, X3, e3, st3⟩ := getF X0 hx hZ hown (host := "") (Or.inl (ow11 hw)) Via.refl e0 F_tree_a9_0 (g := (mkF m 12 #[.val (.ref a9_0), .val (.int (1 : Int32)), .val (.long (0 : Int64)), .second, .val (.int (1 : Int32))] [(.ref a9_0), (.long (0 : Int64))])) rfl rfl (hb hby d9_12)
      obtain ⟨cl4, Ar4, qk4, Sz4, Nz4, Hh4, Gf4⟩ := id V_w_tree_a9_0
      obtain ⟨fs, hr, hrun, hended, hW, hsame⟩ := X3.leave (v := some (.long ((0 : Int64) + t_w_tree_a9_0_0))) (fun h => by rw [Bd.returns] at h; cases h)
      refine ⟨_, _, pre0 _ ?_, hrun, hended, _, _, rfl, ?_, ⟨_, rfl⟩, hW, hsame.mono (by decide) (by decide)⟩
      · show Steps p.tables e below (s₁.setTop (mkF m 0 #[.val (.ref a9_0), .val (.int p9_1), .unset, .unset, .unset] [])) _
        rw [hb2]
        show Steps p.tables e below (s₁.setTop (mkF m 0 #[.val (.ref a9_0), .val (.int (1 : Int32)), .unset, .unset, .unset] [])) _
        refine XS.lconst X0.here hx rfl (hb hby d9_0) ?_
        refine XS.lstoreN X0.here hx rfl (hb hby d9_1) rfl (l' := #[.val (.ref a9_0), .val (.int (1 : Int32)), .val (.long (0 : Int64)), .second, .unset]) rfl ?_
        refine XS.iloadN X0.here hx rfl (hb hby d9_2) rfl ?_
        show Steps p.tables e below (s₁.setTop (mkF m 3 #[.val (.ref a9_0), .val (.int (1 : Int32)), .val (.long (0 : Int64)), .second, .unset] [(.int (1 : Int32))])) _
        refine XS.istore X0.here hx rfl (hb hby d9_3) rfl (l' := #[.val (.ref a9_0), .val (.int (1 : Int32)), .val (.long (0 : Int64)), .second, .val (.int (1 : Int32))]) rfl ?_
        refine XS.iload X0.here hx rfl (hb hby d9_5) rfl ?_
        show Steps p.tables e below (s₁.setTop (mkF m 7 #[.val (.ref a9_0), .val (.int (1 : Int32)), .val (.long (0 : Int64)), .second, .val (.int (1 : Int32))] [(.int (1 : Int32))])) _
        refine XS.ifNo X0.here hx rfl (hb hby d9_7) rfl ((if0 _ _).trans (tlt (by decide : (0 : Int32) < (1 : Int32))).2.2.2) ?_
        refine XS.lloadN X0.here hx rfl (hb hby d9_10) rfl ?_
        refine XS.aloadN X0.here hx rfl (hb hby d9_11) rfl rfl ?_
        show Steps p.tables e below (s₁.setTop (mkF m 12 #[.val (.ref a9_0), .val (.int (1 : Int32)), .val (.long (0 : Int64)), .second, .val (.int (1 : Int32))] [(.ref a9_0), (.long (0 : Int64))])) _
        refine st3 _ ?_
        refine XS.iload X3.here hx rfl (hb hby d9_15) rfl ?_
        refine XS.iconst X3.here hx rfl (hb hby d9_17) ?_
        show Steps p.tables e below (T3.setTop (mkF m 18 #[.val (.ref a9_0), .val (.int (1 : Int32)), .val (.long (0 : Int64)), .second, .val (.int (1 : Int32))] [(.int (1 : Int32)), (.int (1 : Int32)), (.ref w_tree_a9_0), (.long (0 : Int64))])) _
        refine XS.isub X3.here hx rfl (hb hby d9_18) rfl ?_
        refine X3.laload hx (j := (0 : Int32)) (v := (.long t_w_tree_a9_0_0)) (by rw [e3]; exact Ar4.1) (State.isArrayOf_alike hZ.alike Ar4.2.1) Ar4.2.2 (inb_of Sz4 ⟨by decide, by decide⟩) (Hh4.at (inb_of Sz4 ⟨by decide, by decide⟩) rfl) (g := (mkF m 19 #[.val (.ref a9_0), .val (.int (1 : Int32)), .val (.long (0 : Int64)), .second, .val (.int (1 : Int32))] [(.int (0 : Int32)), (.ref w_tree_a9_0), (.long (0 : Int64))])) rfl rfl (hb hby d9_19) _ ?_
        refine XS.ladd X3.here hx rfl (hb hby d9_20) rfl ?_
        show Steps p.tables e below (T3.setTop (mkF m 21 #[.val (.ref a9_0), .val (.int (1 : Int32)), .val (.long (0 : Int64)), .second, .val (.int (1 : Int32))] [(.long ((0 : Int64) + t_w_tree_a9_0_0))])) _
        refine XS.lstoreN X3.here hx rfl (hb hby d9_21) rfl (l' := #[.val (.ref a9_0), .val (.int (1 : Int32)), .val (.long ((0 : Int64) + t_w_tree_a9_0_0)), .second, .val (.int (1 : Int32))]) rfl ?_
        refine XS.iload X3.here hx rfl (hb hby d9_22) rfl ?_
        refine XS.iload X3.here hx rfl (hb hby d9_24) rfl ?_
        show Steps p.tables e below (T3.setTop (mkF m 26 #[.val (.ref a9_0), .val (.int (1 : Int32)), .val (.long ((0 : Int64) + t_w_tree_a9_0_0)), .second, .val (.int (1 : Int32))] [(.int (1 : Int32)), (.int (1 : Int32))])) _
        refine XS.iload X3.here hx rfl (hb hby d9_26) rfl ?_
        refine XS.ineg X3.here hx rfl (hb hby d9_28) rfl ?_
        refine XS.iand X3.here hx rfl (hb hby d9_29) rfl ?_
        show Steps p.tables e below (T3.setTop (mkF m 30 #[.val (.ref a9_0), .val (.int (1 : Int32)), .val (.long ((0 : Int64) + t_w_tree_a9_0_0)), .second, .val (.int (1 : Int32))] [(.int (1 : Int32)), (.int (1 : Int32))])) _
        refine XS.isub X3.here hx rfl (hb hby d9_30) rfl ?_
        refine XS.istore X3.here hx rfl (hb hby d9_31) rfl (l' := #[.val (.ref a9_0), .val (.int (1 : Int32)), .val (.long ((0 : Int64) + t_w_tree_a9_0_0)), .second, .val (.int (0 : Int32))]) rfl ?_
        refine XS.goto X3.here hx rfl (pc0 := 33) (pc' := 5) rfl (hb hby d9_33) (by decide) (by decide) ?_
        show Steps p.tables e below (T3.setTop (mkF m 5 #[.val (.ref a9_0), .val (.int (1 : Int32)), .val (.long ((0 : Int64) + t_w_tree_a9_0_0)), .second, .val (.int (0 : Int32))] [])) _
        refine XS.iload X3.here hx rfl (hb hby d9_5) rfl ?_
        show Steps p.tables e below (T3.setTop (mkF m 7 #[.val (.ref a9_0), .val (.int (1 : Int32)), .val (.long ((0 : Int64) + t_w_tree_a9_0_0)), .second, .val (.int (0 : Int32))] [(.int (0 : Int32))])) _
        refine XS.ifYes X3.here hx rfl (pc0 := 7) (pc' := 36) rfl (hb hby d9_7) rfl ((if0 _ _).trans (flt (by decide : ¬ ((0 : Int32) < (0 : Int32)))).2.2.2) (by decide) (by decide) ?_
        refine XS.lloadN X3.here hx rfl (hb hby d9_36) rfl ?_
        show Steps p.tables e below (T3.setTop (mkF m 37 #[.val (.ref a9_0), .val (.int (1 : Int32)), .val (.long ((0 : Int64) + t_w_tree_a9_0_0)), .second, .val (.int (0 : Int32))] [(.long ((0 : Int64) + t_w_tree_a9_0_0))])) _
        exact own_retJ X3 hx Bd.returns (hb hby d9_37) hr
      · show Q_rm9_6 Z a9_0 p9_1 w_tree_a9_0 w_total_a9_0 kc_w_tree_a9_0 t_w_tree_a9_0_0 t_w_tree_a9_0_1 t_w_tree_a9_0_2 t_w_tree_a9_0_3 h0 n0 _ T3.heap _
        rw [e3]
        exact ⟨(congrArg (fun z => some (Value.long z)) ((if_neg hb1).trans (if_pos hb2)).symm), N0, rfl⟩
    · have own_u2 : True := trivial
      by_cases hb5 : p9_1 = (2 : Int32)
      · have own_t5 : True := trivial
        obtain ⟨T6, X6, e6, st6⟩ := getF X0 hx hZ hown (host := "") (Or.inl (ow11 hw)) Via.refl e0 F_tree_a9_0 (g := (mkF m 12 #[.val (.ref a9_0), .val (.int (2 : Int32)), .val (.long (0 : Int64)), .second, .val (.int (2 : Int32))] [(.ref a9_0), (.long (0 : Int64))])) rfl rfl (hb hby d9_12)
        obtain ⟨cl7, Ar7, qk7, Sz7, Nz7, Hh7, Gf7⟩ := id V_w_tree_a9_0
        obtain ⟨fs, hr, hrun, hended, hW, hsame⟩ := X6.leave (v := some (.long ((0 : Int64) + t_w_tree_a9_0_1))) (fun h => by rw [Bd.returns] at h; cases h)
        refine ⟨_, _, pre0 _ ?_, hrun, hended, _, _, rfl, ?_, ⟨_, rfl⟩, hW, hsame.mono (by decide) (by decide)⟩
        · show Steps p.tables e below (s₁.setTop (mkF m 0 #[.val (.ref a9_0), .val (.int p9_1), .unset, .unset, .unset] [])) _
          rw [hb5]
          show Steps p.tables e below (s₁.setTop (mkF m 0 #[.val (.ref a9_0), .val (.int (2 : Int32)), .unset, .unset, .unset] [])) _
          refine XS.lconst X0.here hx rfl (hb hby d9_0) ?_
          refine XS.lstoreN X0.here hx rfl (hb hby d9_1) rfl (l' := #[.val (.ref a9_0), .val (.int (2 : Int32)), .val (.long (0 : Int64)), .second, .unset]) rfl ?_
          refine XS.iloadN X0.here hx rfl (hb hby d9_2) rfl ?_
          show Steps p.tables e below (s₁.setTop (mkF m 3 #[.val (.ref a9_0), .val (.int (2 : Int32)), .val (.long (0 : Int64)), .second, .unset] [(.int (2 : Int32))])) _
          refine XS.istore X0.here hx rfl (hb hby d9_3) rfl (l' := #[.val (.ref a9_0), .val (.int (2 : Int32)), .val (.long (0 : Int64)), .second, .val (.int (2 : Int32))]) rfl ?_
          refine XS.iload X0.here hx rfl (hb hby d9_5) rfl ?_
          show Steps p.tables e below (s₁.setTop (mkF m 7 #[.val (.ref a9_0), .val (.int (2 : Int32)), .val (.long (0 : Int64)), .second, .val (.int (2 : Int32))] [(.int (2 : Int32))])) _
          refine XS.ifNo X0.here hx rfl (hb hby d9_7) rfl ((if0 _ _).trans (tlt (by decide : (0 : Int32) < (2 : Int32))).2.2.2) ?_
          refine XS.lloadN X0.here hx rfl (hb hby d9_10) rfl ?_
          refine XS.aloadN X0.here hx rfl (hb hby d9_11) rfl rfl ?_
          show Steps p.tables e below (s₁.setTop (mkF m 12 #[.val (.ref a9_0), .val (.int (2 : Int32)), .val (.long (0 : Int64)), .second, .val (.int (2 : Int32))] [(.ref a9_0), (.long (0 : Int64))])) _
          refine st6 _ ?_
          refine XS.iload X6.here hx rfl (hb hby d9_15) rfl ?_
          refine XS.iconst X6.here hx rfl (hb hby d9_17) ?_
          show Steps p.tables e below (T6.setTop (mkF m 18 #[.val (.ref a9_0), .val (.int (2 : Int32)), .val (.long (0 : Int64)), .second, .val (.int (2 : Int32))] [(.int (1 : Int32)), (.int (2 : Int32)), (.ref w_tree_a9_0), (.long (0 : Int64))])) _
          refine XS.isub X6.here hx rfl (hb hby d9_18) rfl ?_
          refine X6.laload hx (j := (1 : Int32)) (v := (.long t_w_tree_a9_0_1)) (by rw [e6]; exact Ar7.1) (State.isArrayOf_alike hZ.alike Ar7.2.1) Ar7.2.2 (inb_of Sz7 ⟨by decide, by decide⟩) (Hh7.at (inb_of Sz7 ⟨by decide, by decide⟩) rfl) (g := (mkF m 19 #[.val (.ref a9_0), .val (.int (2 : Int32)), .val (.long (0 : Int64)), .second, .val (.int (2 : Int32))] [(.int (1 : Int32)), (.ref w_tree_a9_0), (.long (0 : Int64))])) rfl rfl (hb hby d9_19) _ ?_
          refine XS.ladd X6.here hx rfl (hb hby d9_20) rfl ?_
          show Steps p.tables e below (T6.setTop (mkF m 21 #[.val (.ref a9_0), .val (.int (2 : Int32)), .val (.long (0 : Int64)), .second, .val (.int (2 : Int32))] [(.long ((0 : Int64) + t_w_tree_a9_0_1))])) _
          refine XS.lstoreN X6.here hx rfl (hb hby d9_21) rfl (l' := #[.val (.ref a9_0), .val (.int (2 : Int32)), .val (.long ((0 : Int64) + t_w_tree_a9_0_1)), .second, .val (.int (2 : Int32))]) rfl ?_
          refine XS.iload X6.here hx rfl (hb hby d9_22) rfl ?_
          refine XS.iload X6.here hx rfl (hb hby d9_24) rfl ?_
          show Steps p.tables e below (T6.setTop (mkF m 26 #[.val (.ref a9_0), .val (.int (2 : Int32)), .val (.long ((0 : Int64) + t_w_tree_a9_0_1)), .second, .val (.int (2 : Int32))] [(.int (2 : Int32)), (.int (2 : Int32))])) _
          refine XS.iload X6.here hx rfl (hb hby d9_26) rfl ?_
          refine XS.ineg X6.here hx rfl (hb hby d9_28) rfl ?_
          refine XS.iand X6.here hx rfl (hb hby d9_29) rfl ?_
          show Steps p.tables e below (T6.setTop (mkF m 30 #[.val (.ref a9_0), .val (.int (2 : Int32)), .val (.long ((0 : Int64) + t_w_tree_a9_0_1)), .second, .val (.int (2 : Int32))] [(.int (2 : Int32)), (.int (2 : Int32))])) _
          refine XS.isub X6.here hx rfl (hb hby d9_30) rfl ?_
          refine XS.istore X6.here hx rfl (hb hby d9_31) rfl (l' := #[.val (.ref a9_0), .val (.int (2 : Int32)), .val (.long ((0 : Int64) + t_w_tree_a9_0_1)), .second, .val (.int (0 : Int32))]) rfl ?_
          refine XS.goto X6.here hx rfl (pc0 := 33) (pc' := 5) rfl (hb hby d9_33) (by decide) (by decide) ?_
          show Steps p.tables e below (T6.setTop (mkF m 5 #[.val (.ref a9_0), .val (.int (2 : Int32)), .val (.long ((0 : Int64) + t_w_tree_a9_0_1)), .second, .val (.int (0 : Int32))] [])) _
          refine XS.iload X6.here hx rfl (hb hby d9_5) rfl ?_
          show Steps p.tables e below (T6.setTop (mkF m 7 #[.val (.ref a9_0), .val (.int (2 : Int32)), .val (.long ((0 : Int64) + t_w_tree_a9_0_1)), .second, .val (.int (0 : Int32))] [(.int (0 : Int32))])) _
          refine XS.ifYes X6.here hx rfl (pc0 := 7) (pc' := 36) rfl (hb hby d9_7) rfl ((if0 _ _).trans (flt (by decide : ¬ ((0 : Int32) < (0 : Int32)))).2.2.2) (by decide) (by decide) ?_
          refine XS.lloadN X6.here hx rfl (hb hby d9_36) rfl ?_
          show Steps p.tables e below (T6.setTop (mkF m 37 #[.val (.ref a9_0), .val (.int (2 : Int32)), .val (.long ((0 : Int64) + t_w_tree_a9_0_1)), .second, .val (.int (0 : Int32))] [(.long ((0 : Int64) + t_w_tree_a9_0_1))])) _
          exact own_retJ X6 hx Bd.returns (hb hby d9_37) hr
        · show Q_rm9_6 Z a9_0 p9_1 w_tree_a9_0 w_total_a9_0 kc_w_tree_a9_0 t_w_tree_a9_0_0 t_w_tree_a9_0_1 t_w_tree_a9_0_2 t_w_tree_a9_0_3 h0 n0 _ T6.heap _
          rw [e6]
          exact ⟨(congrArg (fun z => some (Value.long z)) ((if_neg hb1).trans ((if_neg hb2).trans (if_pos hb5))).symm), N0, rfl⟩
      · have own_u5 : True := trivial
        have hl8 : p9_1 = (3 : Int32) := (((hq.resolve_left hb1).resolve_left hb2).resolve_left hb5)
        obtain ⟨T9, X9, e9, st9⟩ := getF X0 hx hZ hown (host := "") (Or.inl (ow11 hw)) Via.refl e0 F_tree_a9_0 (g := (mkF m 12 #[.val (.ref a9_0), .val (.int (3 : Int32)), .val (.long (0 : Int64)), .second, .val (.int (3 : Int32))] [(.ref a9_0), (.long (0 : Int64))])) rfl rfl (hb hby d9_12)
        obtain ⟨cl10, Ar10, qk10, Sz10, Nz10, Hh10, Gf10⟩ := id V_w_tree_a9_0
        obtain ⟨T11, X11, e11, st11⟩ := getF X9 hx hZ hown (host := "") (Or.inl (ow11 hw)) Via.refl e9 F_tree_a9_0 (g := (mkF m 12 #[.val (.ref a9_0), .val (.int (3 : Int32)), .val (.long ((0 : Int64) + t_w_tree_a9_0_2)), .second, .val (.int (2 : Int32))] [(.ref a9_0), (.long ((0 : Int64) + t_w_tree_a9_0_2))])) rfl rfl (hb hby d9_12)
        obtain ⟨cl12, Ar12, qk12, Sz12, Nz12, Hh12, Gf12⟩ := id V_w_tree_a9_0
        obtain ⟨x13, hx13⟩ : ∃ z : Int64, z = (((0 : Int64) + t_w_tree_a9_0_2) + t_w_tree_a9_0_1) := ⟨_, rfl⟩
        obtain ⟨fs, hr, hrun, hended, hW, hsame⟩ := X11.leave (v := some (.long x13)) (fun h => by rw [Bd.returns] at h; cases h)
        refine ⟨_, _, pre0 _ ?_, hrun, hended, _, _, rfl, ?_, ⟨_, rfl⟩, hW, hsame.mono (by decide) (by decide)⟩
        · show Steps p.tables e below (s₁.setTop (mkF m 0 #[.val (.ref a9_0), .val (.int p9_1), .unset, .unset, .unset] [])) _
          rw [hl8]
          show Steps p.tables e below (s₁.setTop (mkF m 0 #[.val (.ref a9_0), .val (.int (3 : Int32)), .unset, .unset, .unset] [])) _
          refine XS.lconst X0.here hx rfl (hb hby d9_0) ?_
          refine XS.lstoreN X0.here hx rfl (hb hby d9_1) rfl (l' := #[.val (.ref a9_0), .val (.int (3 : Int32)), .val (.long (0 : Int64)), .second, .unset]) rfl ?_
          refine XS.iloadN X0.here hx rfl (hb hby d9_2) rfl ?_
          show Steps p.tables e below (s₁.setTop (mkF m 3 #[.val (.ref a9_0), .val (.int (3 : Int32)), .val (.long (0 : Int64)), .second, .unset] [(.int (3 : Int32))])) _
          refine XS.istore X0.here hx rfl (hb hby d9_3) rfl (l' := #[.val (.ref a9_0), .val (.int (3 : Int32)), .val (.long (0 : Int64)), .second, .val (.int (3 : Int32))]) rfl ?_
          refine XS.iload X0.here hx rfl (hb hby d9_5) rfl ?_
          show Steps p.tables e below (s₁.setTop (mkF m 7 #[.val (.ref a9_0), .val (.int (3 : Int32)), .val (.long (0 : Int64)), .second, .val (.int (3 : Int32))] [(.int (3 : Int32))])) _
          refine XS.ifNo X0.here hx rfl (hb hby d9_7) rfl ((if0 _ _).trans (tlt (by decide : (0 : Int32) < (3 : Int32))).2.2.2) ?_
          refine XS.lloadN X0.here hx rfl (hb hby d9_10) rfl ?_
          refine XS.aloadN X0.here hx rfl (hb hby d9_11) rfl rfl ?_
          show Steps p.tables e below (s₁.setTop (mkF m 12 #[.val (.ref a9_0), .val (.int (3 : Int32)), .val (.long (0 : Int64)), .second, .val (.int (3 : Int32))] [(.ref a9_0), (.long (0 : Int64))])) _
          refine st9 _ ?_
          refine XS.iload X9.here hx rfl (hb hby d9_15) rfl ?_
          refine XS.iconst X9.here hx rfl (hb hby d9_17) ?_
          show Steps p.tables e below (T9.setTop (mkF m 18 #[.val (.ref a9_0), .val (.int (3 : Int32)), .val (.long (0 : Int64)), .second, .val (.int (3 : Int32))] [(.int (1 : Int32)), (.int (3 : Int32)), (.ref w_tree_a9_0), (.long (0 : Int64))])) _
          refine XS.isub X9.here hx rfl (hb hby d9_18) rfl ?_
          refine X9.laload hx (j := (2 : Int32)) (v := (.long t_w_tree_a9_0_2)) (by rw [e9]; exact Ar10.1) (State.isArrayOf_alike hZ.alike Ar10.2.1) Ar10.2.2 (inb_of Sz10 ⟨by decide, by decide⟩) (Hh10.at (inb_of Sz10 ⟨by decide, by decide⟩) rfl) (g := (mkF m 19 #[.val (.ref a9_0), .val (.int (3 : Int32)), .val (.long (0 : Int64)), .second, .val (.int (3 : Int32))] [(.int (2 : Int32)), (.ref w_tree_a9_0), (.long (0 : Int64))])) rfl rfl (hb hby d9_19) _ ?_
          refine XS.ladd X9.here hx rfl (hb hby d9_20) rfl ?_
          show Steps p.tables e below (T9.setTop (mkF m 21 #[.val (.ref a9_0), .val (.int (3 : Int32)), .val (.long (0 : Int64)), .second, .val (.int (3 : Int32))] [(.long ((0 : Int64) + t_w_tree_a9_0_2))])) _
          refine XS.lstoreN X9.here hx rfl (hb hby d9_21) rfl (l' := #[.val (.ref a9_0), .val (.int (3 : Int32)), .val (.long ((0 : Int64) + t_w_tree_a9_0_2)), .second, .val (.int (3 : Int32))]) rfl ?_
          refine XS.iload X9.here hx rfl (hb hby d9_22) rfl ?_
          refine XS.iload X9.here hx rfl (hb hby d9_24) rfl ?_
          show Steps p.tables e below (T9.setTop (mkF m 26 #[.val (.ref a9_0), .val (.int (3 : Int32)), .val (.long ((0 : Int64) + t_w_tree_a9_0_2)), .second, .val (.int (3 : Int32))] [(.int (3 : Int32)), (.int (3 : Int32))])) _
          refine XS.iload X9.here hx rfl (hb hby d9_26) rfl ?_
          refine XS.ineg X9.here hx rfl (hb hby d9_28) rfl ?_
          refine XS.iand X9.here hx rfl (hb hby d9_29) rfl ?_
          show Steps p.tables e below (T9.setTop (mkF m 30 #[.val (.ref a9_0), .val (.int (3 : Int32)), .val (.long ((0 : Int64) + t_w_tree_a9_0_2)), .second, .val (.int (3 : Int32))] [(.int (1 : Int32)), (.int (3 : Int32))])) _
          refine XS.isub X9.here hx rfl (hb hby d9_30) rfl ?_
          refine XS.istore X9.here hx rfl (hb hby d9_31) rfl (l' := #[.val (.ref a9_0), .val (.int (3 : Int32)), .val (.long ((0 : Int64) + t_w_tree_a9_0_2)), .second, .val (.int (2 : Int32))]) rfl ?_
          refine XS.goto X9.here hx rfl (pc0 := 33) (pc' := 5) rfl (hb hby d9_33) (by decide) (by decide) ?_
          show Steps p.tables e below (T9.setTop (mkF m 5 #[.val (.ref a9_0), .val (.int (3 : Int32)), .val (.long ((0 : Int64) + t_w_tree_a9_0_2)), .second, .val (.int (2 : Int32))] [])) _
          refine XS.iload X9.here hx rfl (hb hby d9_5) rfl ?_
          show Steps p.tables e below (T9.setTop (mkF m 7 #[.val (.ref a9_0), .val (.int (3 : Int32)), .val (.long ((0 : Int64) + t_w_tree_a9_0_2)), .second, .val (.int (2 : Int32))] [(.int (2 : Int32))])) _
          refine XS.ifNo X9.here hx rfl (hb hby d9_7) rfl ((if0 _ _).trans (tlt (by decide : (0 : Int32) < (2 : Int32))).2.2.2) ?_
          refine XS.lloadN X9.here hx rfl (hb hby d9_10) rfl ?_
          refine XS.aloadN X9.here hx rfl (hb hby d9_11) rfl rfl ?_
          show Steps p.tables e below (T9.setTop (mkF m 12 #[.val (.ref a9_0), .val (.int (3 : Int32)), .val (.long ((0 : Int64) + t_w_tree_a9_0_2)), .second, .val (.int (2 : Int32))] [(.ref a9_0), (.long ((0 : Int64) + t_w_tree_a9_0_2))])) _
          refine st11 _ ?_
          refine XS.iload X11.here hx rfl (hb hby d9_15) rfl ?_
          refine XS.iconst X11.here hx rfl (hb hby d9_17) ?_
          show Steps p.tables e below (T11.setTop (mkF m 18 #[.val (.ref a9_0), .val (.int (3 : Int32)), .val (.long ((0 : Int64) + t_w_tree_a9_0_2)), .second, .val (.int (2 : Int32))] [(.int (1 : Int32)), (.int (2 : Int32)), (.ref w_tree_a9_0), (.long ((0 : Int64) + t_w_tree_a9_0_2))])) _
          refine XS.isub X11.here hx rfl (hb hby d9_18) rfl ?_
          refine X11.laload hx (j := (1 : Int32)) (v := (.long t_w_tree_a9_0_1)) (by rw [e11]; exact Ar12.1) (State.isArrayOf_alike hZ.alike Ar12.2.1) Ar12.2.2 (inb_of Sz12 ⟨by decide, by decide⟩) (Hh12.at (inb_of Sz12 ⟨by decide, by decide⟩) rfl) (g := (mkF m 19 #[.val (.ref a9_0), .val (.int (3 : Int32)), .val (.long ((0 : Int64) + t_w_tree_a9_0_2)), .second, .val (.int (2 : Int32))] [(.int (1 : Int32)), (.ref w_tree_a9_0), (.long ((0 : Int64) + t_w_tree_a9_0_2))])) rfl rfl (hb hby d9_19) _ ?_
          refine XS.ladd X11.here hx rfl (hb hby d9_20) rfl ?_
          show Steps p.tables e below (T11.setTop (mkF m 21 #[.val (.ref a9_0), .val (.int (3 : Int32)), .val (.long ((0 : Int64) + t_w_tree_a9_0_2)), .second, .val (.int (2 : Int32))] [(.long (((0 : Int64) + t_w_tree_a9_0_2) + t_w_tree_a9_0_1))])) _
          refine XS.lstoreN X11.here hx rfl (hb hby d9_21) rfl (l' := #[.val (.ref a9_0), .val (.int (3 : Int32)), .val (.long (((0 : Int64) + t_w_tree_a9_0_2) + t_w_tree_a9_0_1)), .second, .val (.int (2 : Int32))]) rfl ?_
          show Steps p.tables e below (T11.setTop (mkF m 22 #[.val (.ref a9_0), .val (.int (3 : Int32)), .val (.long (((0 : Int64) + t_w_tree_a9_0_2) + t_w_tree_a9_0_1)), .second, .val (.int (2 : Int32))] [])) _
          rw [← hx13]
          refine XS.iload X11.here hx rfl (hb hby d9_22) rfl ?_
          refine XS.iload X11.here hx rfl (hb hby d9_24) rfl ?_
          show Steps p.tables e below (T11.setTop (mkF m 26 #[.val (.ref a9_0), .val (.int (3 : Int32)), .val (.long x13), .second, .val (.int (2 : Int32))] [(.int (2 : Int32)), (.int (2 : Int32))])) _
          refine XS.iload X11.here hx rfl (hb hby d9_26) rfl ?_
          refine XS.ineg X11.here hx rfl (hb hby d9_28) rfl ?_
          refine XS.iand X11.here hx rfl (hb hby d9_29) rfl ?_
          show Steps p.tables e below (T11.setTop (mkF m 30 #[.val (.ref a9_0), .val (.int (3 : Int32)), .val (.long x13), .second, .val (.int (2 : Int32))] [(.int (2 : Int32)), (.int (2 : Int32))])) _
          refine XS.isub X11.here hx rfl (hb hby d9_30) rfl ?_
          refine XS.istore X11.here hx rfl (hb hby d9_31) rfl (l' := #[.val (.ref a9_0), .val (.int (3 : Int32)), .val (.long x13), .second, .val (.int (0 : Int32))]) rfl ?_
          refine XS.goto X11.here hx rfl (pc0 := 33) (pc' := 5) rfl (hb hby d9_33) (by decide) (by decide) ?_
          show Steps p.tables e below (T11.setTop (mkF m 5 #[.val (.ref a9_0), .val (.int (3 : Int32)), .val (.long x13), .second, .val (.int (0 : Int32))] [])) _
          refine XS.iload X11.here hx rfl (hb hby d9_5) rfl ?_
          show Steps p.tables e below (T11.setTop (mkF m 7 #[.val (.ref a9_0), .val (.int (3 : Int32)), .val (.long x13), .second, .val (.int (0 : Int32))] [(.int (0 : Int32))])) _
          refine XS.ifYes X11.here hx rfl (pc0 := 7) (pc' := 36) rfl (hb hby d9_7) rfl ((if0 _ _).trans (flt (by decide : ¬ ((0 : Int32) < (0 : Int32)))).2.2.2) (by decide) (by decide) ?_
          refine XS.lloadN X11.here hx rfl (hb hby d9_36) rfl ?_
          show Steps p.tables e below (T11.setTop (mkF m 37 #[.val (.ref a9_0), .val (.int (3 : Int32)), .val (.long x13), .second, .val (.int (0 : Int32))] [(.long x13)])) _
          exact own_retJ X11 hx Bd.returns (hb hby d9_37) hr
        · show Q_rm9_6 Z a9_0 p9_1 w_tree_a9_0 w_total_a9_0 kc_w_tree_a9_0 t_w_tree_a9_0_0 t_w_tree_a9_0_1 t_w_tree_a9_0_2 t_w_tree_a9_0_3 h0 n0 _ T11.heap _
          rw [e11]
          subst hx13
          exact ⟨(congrArg (fun z => some (Value.long z)) ((if_neg hb1).trans ((if_neg hb2).trans (if_neg hb5))).symm), N0, rfl⟩
theorem own_fin4 (q0_0 : Int64) (q0_1 : Int64) (q0_2 : Int64) (q0_3 : Int64) (q0_4 : Int64) (p0_5 : Int32) (x2 : Int64) (hx2 : x2 = (q0_0 &&& (9223372036854775807 : Int64))) (x4 : Int64) (hx4 : x4 = (q0_1 &&& (9223372036854775807 : Int64))) (x6 : Int64) (hx6 : x6 = (q0_2 &&& (9223372036854775807 : Int64))) (x8 : Int64) (hx8 : x8 = (q0_3 &&& (9223372036854775807 : Int64))) (x10 : Int64) (hx10 : x10 = (q0_4 &&& (9223372036854775807 : Int64))) (x12 : Int32) (hx12 : x12 = ((p0_5 &&& (7 : Int32)) % (6 : Int32))) (x158 : Int32) (hx158 : x158 = ((((p0_5.toUInt32 >>> ((3 : Int32) &&& 31).toUInt32).toInt32) &&& (7 : Int32)) % (4 : Int32))) (y164 : Int64) (hy164 : y164 = ((0 : Int64) + x2)) (y167 : Int64) (hy167 : y167 = (((0 : Int64) + x2) + x4)) (y168 : Int64) (hy168 : y168 = ((((0 : Int64) + x2) - (0 : Int64)) + x4)) (y172 : Int64) (hy172 : y172 = ((0 : Int64) + x6)) (y173 : Int64) (hy173 : y173 = ((y167 - (0 : Int64)) + x6)) (v178 : Int64) (hv178 : v178 = (if (0 : Int32) < x158 then ((0 : Int64) + x2) else (0 : Int64))) (v184 : Int64) (hv184 : v184 = (if (1 : Int32) < x158 then (v178 + x4) else v178)) (v190 : Int64) (hv190 : v190 = (if (2 : Int32) < x158 then (v184 + x6) else v184)) (v196 : Int64) (hv196 : v196 = (if (3 : Int32) < x158 then (v190 + x8) else v190)) (v202 : Int64) (hv202 : v202 = (if (4 : Int32) < x158 then (v196 + x10) else v196)) (x206 : Int64) (hx206 : x206 = (if x158 = (0 : Int32) then (0 : Int64) else (if x158 = (1 : Int32) then ((0 : Int64) + y164) else (if x158 = (2 : Int32) then ((0 : Int64) + y168) else (((0 : Int64) + y172) + y168))))) (v209 : Int32) (hv209 : v209 = (if x206 = v202 then (1 : Int32) else (0 : Int32))) (hc18 : x12 = (3 : Int32)) : v209 = (1 : Int32) := by
  have hp := own_p4 ((p0_5.toUInt32 >>> ((3 : Int32) &&& 31).toUInt32).toInt32) x158 hx158
  clear hx158
  have e : x206 = v202 := by
    clear hv209
    simp only [hy164, hy167, hy168, hy172, hy173, hv178, hv184, hv190, hv196, hv202, hx206]
    rcases hp with rfl | rfl | rfl | rfl <;> first | (simp +decide only [↓reduceIte] <;> first | rfl | grind) | (simp +decide <;> grind) | grind
  rw [hv209, if_pos e]
theorem d4_16 : decode prog_14_method_3_code 16 = .ok (.return_, 1) := by decide +kernel
theorem ef_rm4_4 (m : MethodId) (y0 : Addr) : entryFrame m #[(.ref y0), (.int (1 : Int32))] 7 = mkF m 0 #[.val (.ref y0), .val (.int (1 : Int32)), .unset, .unset, .unset, .unset, .unset] [] := by first | (simp [entryFrame, mkF, argsToLocals, Value.category]; done) | rfl
def Q_rm4_4 (Z : State) (a4_0 : Addr) (w_tree_a4_0 : Addr) (w_total_a4_0 : Int64) (kc_w_tree_a4_0 : ClassId) (t_w_tree_a4_0_0 : Int64) (t_w_tree_a4_0_1 : Int64) (t_w_tree_a4_0_2 : Int64) (t_w_tree_a4_0_3 : Int64) (h0 : Heap) (n0 : Nat) (v : Option Value) (h : Heap) (L : List Loc) : Prop := v = none ∧ Fr n0 L ∧ h = h0
set_option maxRecDepth 65536 in
set_option maxHeartbeats 40000000 in
theorem rm4_4 (l : Launch) (Z : State) (a0 : Array Value) (hw : ∀ d ∈ tables_1, d.before a0 Z = true) (ws : List Jvm.Cond) (a4_0 : Addr) (w_tree_a4_0 : Addr) (w_total_a4_0 : Int64) (kc_w_tree_a4_0 : ClassId) (t_w_tree_a4_0_0 : Int64) (t_w_tree_a4_0_1 : Int64) (t_w_tree_a4_0_2 : Int64) (t_w_tree_a4_0_3 : Int64) (h0 : Heap) (n0 : Nat) (Z0 : n0 ≤ h0.size) (E_a4_0 : Exa Z h0 a4_0 "com/example/motley/motley/CountTree") (F_tree_a4_0 : Fld Z h0 a4_0 "com/example/motley/motley/CountTree" "tree" "[J" (.ref w_tree_a4_0)) (F_size_a4_0 : Fld Z h0 a4_0 "com/example/motley/motley/CountTree" "size" "I" (.int (3 : Int32))) (F_total_a4_0 : Fld Z h0 a4_0 "com/example/motley/motley/CountTree" "total" "J" (.long w_total_a4_0)) (V_w_tree_a4_0 : Arv Z h0 w_tree_a4_0 kc_w_tree_a4_0 .long (4 : Int32) [(.long t_w_tree_a4_0_0), (.long t_w_tree_a4_0_1), (.long t_w_tree_a4_0_2), (.long t_w_tree_a4_0_3)] (.long (0 : Int64))) :
    MetFree l (⟨"com/example/motley/motley/CountTree", "reserve", "(I)V"⟩ : MethodName) (head1 (Jvm.Cond.code (⟨"com/example/motley/motley/CountTree", "reserve", "(I)V"⟩ : MethodName) prog_14_method_3_code 7 none :: ws) ({ frames := 0, cells := 0, slots := 0, locals := 0 } : Room)) (fun a U => a = #[(.ref a4_0), (.int (1 : Int32))] ∧ Z.Warmed39 U.vm ∧ U.heap = h0) (fun _ _ _ _ _ => True) (fun _ U o U' => ∃ v L, o = .returned v ∧ Q_rm4_4 Z a4_0 w_tree_a4_0 w_total_a4_0 kc_w_tree_a4_0 t_w_tree_a4_0_0 t_w_tree_a4_0_1 t_w_tree_a4_0_2 t_w_tree_a4_0_3 h0 n0 v U'.heap L ∧ FrameEnd U o U' L ({ frames := 0, cells := 0, slots := 0, locals := 0 } : Room).cells ({ frames := 0, cells := 0, slots := 0, locals := 0 } : Room).slots) := by
  refine MetFree.of_bodySF (plainFor_of_name pn_4) hisR ?_
  intro p e s m args below meth c s₁ Bd hml0 hP hK
  obtain ⟨rfl, hZ, hh⟩ := hP
  have hx := Bd.exec
  have hby := Bd.bytes
  have hml : c.maxLocals = 7 := hml0
  have hown : s.vm.findClass "com/example/motley/motley/CountTree" = some m.cls := findClass_of_methodNamed Bd.named
  have hnm := (name_of_methodNamed Bd.named Bd.method).1
  have X0 : Stand p l e ({ frames := 0, cells := 0, slots := 0, locals := 0 } : Room) s m #[(.ref a4_0), (.int (1 : Int32))] below meth c s₁ [] 0 0 := Stand.of_body Bd
  have e0 : s₁.heap = h0 := by rw [← hh, Bd.state]; rfl
  have N0 := Fr.nil n0
  have pre0 : ∀ t, Steps p.tables e below (s₁.setTop (mkF m 0 #[.val (.ref a4_0), .val (.int (1 : Int32)), .unset, .unset, .unset, .unset, .unset] [])) t → Steps p.tables e below (s₁.setTop (entryFrame m #[(.ref a4_0), (.int (1 : Int32))] 7)) t := fun t k => castTop (ef_rm4_4 m a4_0) k
  obtain ⟨T1, X1, e1, st1⟩ := getF X0 hx hZ hown (host := "") (Or.inl (ow23 hw)) Via.refl e0 F_size_a4_0 (g := (mkF m 1 #[.val (.ref a4_0), .val (.int (1 : Int32)), .unset, .unset, .unset, .unset, .unset] [(.ref a4_0)])) rfl rfl (hb hby d4_1)
  obtain ⟨T2, X2, e2, st2⟩ := getF X1 hx hZ hown (host := "") (Or.inl (ow11 hw)) Via.refl e1 F_tree_a4_0 (g := (mkF m 9 #[.val (.ref a4_0), .val (.int (1 : Int32)), .val (.int (4 : Int32)), .unset, .unset, .unset, .unset] [(.ref a4_0), (.int (4 : Int32))])) rfl rfl (hb hby d4_9)
  obtain ⟨cl3, Ar3, qk3, Sz3, Nz3, Hh3, Gf3⟩ := id V_w_tree_a4_0
  obtain ⟨fs, hr, hrun, hended, hW, hsame⟩ := X2.leave (v := none) (fun _ => rfl)
  refine ⟨_, _, pre0 _ ?_, hrun, hended, _, _, rfl, ?_, ⟨_, rfl⟩, hW, hsame.mono (by decide) (by decide)⟩
  · show Steps p.tables e below (s₁.setTop (mkF m 0 #[.val (.ref a4_0), .val (.int (1 : Int32)), .unset, .unset, .unset, .unset, .unset] [])) _
    refine XS.aloadN X0.here hx rfl (hb hby d4_0) rfl rfl ?_
    refine st1 _ ?_
    refine XS.iloadN X1.here hx rfl (hb hby d4_4) rfl ?_
    show Steps p.tables e below (T1.setTop (mkF m 5 #[.val (.ref a4_0), .val (.int (1 : Int32)), .unset, .unset, .unset, .unset, .unset] [(.int (1 : Int32)), (.int (3 : Int32))])) _
    refine XS.iadd X1.here hx rfl (hb hby d4_5) rfl ?_
    refine XS.istoreN X1.here hx rfl (hb hby d4_6) rfl (l' := #[.val (.ref a4_0), .val (.int (1 : Int32)), .val (.int (4 : Int32)), .unset, .unset, .unset, .unset]) rfl ?_
    refine XS.iloadN X1.here hx rfl (hb hby d4_7) rfl ?_
    show Steps p.tables e below (T1.setTop (mkF m 8 #[.val (.ref a4_0), .val (.int (1 : Int32)), .val (.int (4 : Int32)), .unset, .unset, .unset, .unset] [(.int (4 : Int32))])) _
    refine XS.aloadN X1.here hx rfl (hb hby d4_8) rfl rfl ?_
    refine st2 _ ?_
    show Steps p.tables e below (T2.setTop (mkF m 12 #[.val (.ref a4_0), .val (.int (1 : Int32)), .val (.int (4 : Int32)), .unset, .unset, .unset, .unset] [(.ref w_tree_a4_0), (.int (4 : Int32))])) _
    refine X2.arraylength hx (cell := cl3) (by rw [e2]; exact Ar3.1) (State.isArrayOf_alike hZ.alike Ar3.2.1) (g := (mkF m 12 #[.val (.ref a4_0), .val (.int (1 : Int32)), .val (.int (4 : Int32)), .unset, .unset, .unset, .unset] [(.ref w_tree_a4_0), (.int (4 : Int32))])) rfl (rest := [(.int (4 : Int32))]) rfl (hb hby d4_12) _ ?_
    rw [len_of Sz3 Nz3]
    show Steps p.tables e below (T2.setTop (mkF m 13 #[.val (.ref a4_0), .val (.int (1 : Int32)), .val (.int (4 : Int32)), .unset, .unset, .unset, .unset] [(.int (4 : Int32)), (.int (4 : Int32))])) _
    refine XS.icmpNo X2.here hx rfl (hb hby d4_13) rfl (flt (by decide : ¬ ((4 : Int32) < (4 : Int32)))).2.2.1 ?_
    show Steps p.tables e below (T2.setTop (mkF m 16 #[.val (.ref a4_0), .val (.int (1 : Int32)), .val (.int (4 : Int32)), .unset, .unset, .unset, .unset] [])) _
    exact X2.returnOut hx Bd.returns (hb hby d4_16) hr
  · show Q_rm4_4 Z a4_0 w_tree_a4_0 w_total_a4_0 kc_w_tree_a4_0 t_w_tree_a4_0_0 t_w_tree_a4_0_1 t_w_tree_a4_0_2 t_w_tree_a4_0_3 h0 n0 _ T2.heap _
    rw [e2]
    exact ⟨rfl, N0, rfl⟩
theorem ef_rm8_4 (m : MethodId) (y0 : Addr) (y2 : Int64) : entryFrame m #[(.ref y0), (.int (3 : Int32)), (.long y2)] 5 = mkF m 0 #[.val (.ref y0), .val (.int (3 : Int32)), .val (.long y2), .second, .unset] [] := by first | (simp [entryFrame, mkF, argsToLocals, Value.category]; done) | rfl
def Q_rm8_4 (Z : State) (a8_0 : Addr) (q8_2 : Int64) (w_tree_a8_0 : Addr) (w_total_a8_0 : Int64) (kc_w_tree_a8_0 : ClassId) (t_w_tree_a8_0_0 : Int64) (t_w_tree_a8_0_1 : Int64) (t_w_tree_a8_0_2 : Int64) (t_w_tree_a8_0_3 : Int64) (h0 : Heap) (n0 : Nat) (v : Option Value) (h : Heap) (L : List Loc) : Prop := v = none ∧ Fr n0 L ∧ Keep h0 h [a8_0, w_tree_a8_0] ∧ Exa Z h a8_0 "com/example/motley/motley/CountTree" ∧ Fld Z h a8_0 "com/example/motley/motley/CountTree" "tree" "[J" (.ref w_tree_a8_0) ∧ Fld Z h a8_0 "com/example/motley/motley/CountTree" "size" "I" (.int (4 : Int32)) ∧ Fld Z h a8_0 "com/example/motley/motley/CountTree" "total" "J" (.long (w_total_a8_0 + q8_2)) ∧ Arv Z h w_tree_a8_0 kc_w_tree_a8_0 .long (4 : Int32) [(.long t_w_tree_a8_0_0), (.long t_w_tree_a8_0_1), (.long t_w_tree_a8_0_2), (.long (t_w_tree_a8_0_3 + q8_2))] (.long (0 : Int64))
set_option maxRecDepth 65536 in
set_option maxHeartbeats 40000000 in
theorem rm8_4 (l : Launch) (Z : State) (a0 : Array Value) (hw : ∀ d ∈ tables_1, d.before a0 Z = true) (ws : List Jvm.Cond) (a8_0 : Addr) (q8_2 : Int64) (w_tree_a8_0 : Addr) (w_total_a8_0 : Int64) (kc_w_tree_a8_0 : ClassId) (t_w_tree_a8_0_0 : Int64) (t_w_tree_a8_0_1 : Int64) (t_w_tree_a8_0_2 : Int64) (t_w_tree_a8_0_3 : Int64) (h0 : Heap) (n0 : Nat) (Z0 : n0 ≤ h0.size) (E_a8_0 : Exa Z h0 a8_0 "com/example/motley/motley/CountTree") (F_tree_a8_0 : Fld Z h0 a8_0 "com/example/motley/motley/CountTree" "tree" "[J" (.ref w_tree_a8_0)) (F_size_a8_0 : Fld Z h0 a8_0 "com/example/motley/motley/CountTree" "size" "I" (.int (4 : Int32))) (F_total_a8_0 : Fld Z h0 a8_0 "com/example/motley/motley/CountTree" "total" "J" (.long w_total_a8_0)) (V_w_tree_a8_0 : Arv Z h0 w_tree_a8_0 kc_w_tree_a8_0 .long (4 : Int32) [(.long t_w_tree_a8_0_0), (.long t_w_tree_a8_0_1), (.long t_w_tree_a8_0_2), (.long t_w_tree_a8_0_3)] (.long (0 : Int64))) (g_a8_0 : n0 ≤ a8_0) (ne_w_tree_a8_0_a8_0 : w_tree_a8_0 ≠ a8_0) (g_w_tree_a8_0 : n0 ≤ w_tree_a8_0) :
    MetFree l (⟨"com/example/motley/motley/CountTree", "add", "(IJ)V"⟩ : MethodName) (head1 (Jvm.Cond.code (⟨"com/example/motley/motley/CountTree", "add", "(IJ)V"⟩ : MethodName) prog_14_method_7_code 5 none :: ws) ({ frames := 0, cells := 0, slots := 0, locals := 0 } : Room)) (fun a U => a = #[(.ref a8_0), (.int (3 : Int32)), (.long q8_2)] ∧ Z.Warmed39 U.vm ∧ U.heap = h0) (fun _ _ _ _ _ => True) (fun _ U o U' => ∃ v L, o = .returned v ∧ Q_rm8_4 Z a8_0 q8_2 w_tree_a8_0 w_total_a8_0 kc_w_tree_a8_0 t_w_tree_a8_0_0 t_w_tree_a8_0_1 t_w_tree_a8_0_2 t_w_tree_a8_0_3 h0 n0 v U'.heap L ∧ FrameEnd U o U' L ({ frames := 0, cells := 0, slots := 0, locals := 0 } : Room).cells ({ frames := 0, cells := 0, slots := 0, locals := 0 } : Room).slots) := by
  refine MetFree.of_bodySF (plainFor_of_name pn_8) hisR ?_
  intro p e s m args below meth c s₁ Bd hml0 hP hK
  obtain ⟨rfl, hZ, hh⟩ := hP
  have hx := Bd.exec
  have hby := Bd.bytes
  have hml : c.maxLocals = 5 := hml0
  have hown : s.vm.findClass "com/example/motley/motley/CountTree" = some m.cls := findClass_of_methodNamed Bd.named
  have hnm := (name_of_methodNamed Bd.named Bd.method).1
  have X0 : Stand p l e ({ frames := 0, cells := 0, slots := 0, locals := 0 } : Room) s m #[(.ref a8_0), (.int (3 : Int32)), (.long q8_2)] below meth c s₁ [] 0 0 := Stand.of_body Bd
  have e0 : s₁.heap = h0 := by rw [← hh, Bd.state]; rfl
  have N0 := Fr.nil n0
  have pre0 : ∀ t, Steps p.tables e below (s₁.setTop (mkF m 0 #[.val (.ref a8_0), .val (.int (3 : Int32)), .val (.long q8_2), .second, .unset] [])) t → Steps p.tables e below (s₁.setTop (entryFrame m #[(.ref a8_0), (.int (3 : Int32)), (.long q8_2)] 5)) t := fun t k => castTop (ef_rm8_4 m a8_0 q8_2) k
  obtain ⟨T1, X1, e1, st1⟩ := getF X0 hx hZ hown (host := "") (Or.inl (ow45 hw)) Via.refl e0 F_total_a8_0 (g := (mkF m 2 #[.val (.ref a8_0), .val (.int (3 : Int32)), .val (.long q8_2), .second, .unset] [(.ref a8_0), (.ref a8_0)])) rfl rfl (hb hby d8_2)
  obtain ⟨T2, h2, X2, e2, W2, st2⟩ := putF X1 hx hZ hown (host := "") (Or.inl (ow45 hw)) Via.refl e1 F_total_a8_0 E_a8_0 (Or.inl (ow46 hw)) (ow2 hw) (ty := .long) (by decide) rfl rfl (g := (mkF m 7 #[.val (.ref a8_0), .val (.int (3 : Int32)), .val (.long q8_2), .second, .unset] [(.long (w_total_a8_0 + q8_2)), (.ref a8_0)])) rfl rfl (hb hby d8_7)
  have F2 := F_total_a8_0.same W2
  have K2 : Keep h0 h2 [a8_0, w_tree_a8_0] := (Keep.refl h0 [a8_0, w_tree_a8_0]).wr W2 (Or.inl (List.mem_of_getElem? (i := 0) rfl))
  have Z2 : n0 ≤ h2.size := Nat.le_trans Z0 K2.1
  have N2 := Fr.snoc X2 N0 g_a8_0
  have f3 := (F_tree_a8_0.other W2 (Or.inr (slot_ne (Or.inl (ow12 hw)) (Or.inl (ow46 hw)) (by decide) (t := (.array .long)) (t' := .long) (by decide) (by decide))))
  obtain ⟨T4, X4, e4, st4⟩ := getF X2 hx hZ hown (host := "") (Or.inl (ow11 hw)) Via.refl e2 f3 (g := (mkF m 18 #[.val (.ref a8_0), .val (.int (3 : Int32)), .val (.long q8_2), .second, .val (.int (4 : Int32))] [(.ref a8_0), (.int (4 : Int32))])) rfl rfl (hb hby d8_18)
  have f5 := (V_w_tree_a8_0.other W2 ne_w_tree_a8_0_a8_0)
  obtain ⟨cl6, Ar6, qk6, Sz6, Nz6, Hh6, Gf6⟩ := id f5
  obtain ⟨T7, X7, e7, st7⟩ := getF X4 hx hZ hown (host := "") (Or.inl (ow11 hw)) Via.refl e4 f3 (g := (mkF m 26 #[.val (.ref a8_0), .val (.int (3 : Int32)), .val (.long q8_2), .second, .val (.int (4 : Int32))] [(.ref a8_0)])) rfl rfl (hb hby d8_26)
  obtain ⟨cl8, Ar8, qk8, Sz8, Nz8, Hh8, Gf8⟩ := id f5
  obtain ⟨cl9, Ar9, qk9, Sz9, Nz9, Hh9, Gf9⟩ := id f5
  obtain ⟨T10, h10, X10, e10, W10, st10⟩ := stJ X7 hx hZ e7 Ar9 (j := (3 : Int32)) (inb_of Sz9 ⟨by decide, by decide⟩) (g := (mkF m 37 #[.val (.ref a8_0), .val (.int (3 : Int32)), .val (.long q8_2), .second, .val (.int (4 : Int32))] [(.long (t_w_tree_a8_0_3 + q8_2)), (.int (3 : Int32)), (.ref w_tree_a8_0)])) rfl rfl (hb hby d8_37)
  have V10 : Arv Z h10 w_tree_a8_0 kc_w_tree_a8_0 .long (4 : Int32) [(.long t_w_tree_a8_0_0), (.long t_w_tree_a8_0_1), (.long t_w_tree_a8_0_2), (.long (t_w_tree_a8_0_3 + q8_2))] (.long (0 : Int64)) := Arv.set Ar9 qk9 Sz9 Nz9 Hh9 Gf9 rfl W10 3 rfl (Nat.le_of_ble_eq_true rfl)
  have K10 : Keep h0 h10 [a8_0, w_tree_a8_0] := K2.wr W10 (Or.inl (List.mem_of_getElem? (i := 1) rfl))
  have Z10 : n0 ≤ h10.size := Nat.le_trans Z0 K10.1
  have N10 := Fr.snoc X10 N2 g_w_tree_a8_0
  have f11 := (f3.other W10 (Or.inl (Ne.symm ne_w_tree_a8_0_a8_0)))
  obtain ⟨T12, X12, e12, st12⟩ := getF X10 hx hZ hown (host := "") (Or.inl (ow11 hw)) Via.refl e10 f11 (g := (mkF m 18 #[.val (.ref a8_0), .val (.int (3 : Int32)), .val (.long q8_2), .second, .val (.int (8 : Int32))] [(.ref a8_0), (.int (8 : Int32))])) rfl rfl (hb hby d8_18)
  obtain ⟨cl13, Ar13, qk13, Sz13, Nz13, Hh13, Gf13⟩ := id V10
  obtain ⟨fs, hr, hrun, hended, hW, hsame⟩ := X12.leave (v := none) (fun _ => rfl)
  refine ⟨_, _, pre0 _ ?_, hrun, hended, _, _, rfl, ?_, ⟨_, rfl⟩, hW, hsame.mono (by decide) (by decide)⟩
  · show Steps p.tables e below (s₁.setTop (mkF m 0 #[.val (.ref a8_0), .val (.int (3 : Int32)), .val (.long q8_2), .second, .unset] [])) _
    refine XS.aloadN X0.here hx rfl (hb hby d8_0) rfl rfl ?_
    refine XS.dup X0.here hx rfl (hb hby d8_1) rfl rfl ?_
    refine st1 _ ?_
    show Steps p.tables e below (T1.setTop (mkF m 5 #[.val (.ref a8_0), .val (.int (3 : Int32)), .val (.long q8_2), .second, .unset] [(.long w_total_a8_0), (.ref a8_0)])) _
    refine XS.lloadN X1.here hx rfl (hb hby d8_5) rfl ?_
    refine XS.ladd X1.here hx rfl (hb hby d8_6) rfl ?_
    refine st2 _ ?_
    show Steps p.tables e below (T2.setTop (mkF m 10 #[.val (.ref a8_0), .val (.int (3 : Int32)), .val (.long q8_2), .second, .unset] [])) _
    refine XS.iloadN X2.here hx rfl (hb hby d8_10) rfl ?_
    refine XS.iconst X2.here hx rfl (hb hby d8_11) ?_
    refine XS.iadd X2.here hx rfl (hb hby d8_12) rfl ?_
    show Steps p.tables e below (T2.setTop (mkF m 13 #[.val (.ref a8_0), .val (.int (3 : Int32)), .val (.long q8_2), .second, .unset] [(.int (4 : Int32))])) _
    refine XS.istore X2.here hx rfl (hb hby d8_13) rfl (l' := #[.val (.ref a8_0), .val (.int (3 : Int32)), .val (.long q8_2), .second, .val (.int (4 : Int32))]) rfl ?_
    refine XS.iload X2.here hx rfl (hb hby d8_15) rfl ?_
    refine XS.aloadN X2.here hx rfl (hb hby d8_17) rfl rfl ?_
    show Steps p.tables e below (T2.setTop (mkF m 18 #[.val (.ref a8_0), .val (.int (3 : Int32)), .val (.long q8_2), .second, .val (.int (4 : Int32))] [(.ref a8_0), (.int (4 : Int32))])) _
    refine st4 _ ?_
    show Steps p.tables e below (T4.setTop (mkF m 21 #[.val (.ref a8_0), .val (.int (3 : Int32)), .val (.long q8_2), .second, .val (.int (4 : Int32))] [(.ref w_tree_a8_0), (.int (4 : Int32))])) _
    refine X4.arraylength hx (cell := cl6) (by rw [e4]; exact Ar6.1) (State.isArrayOf_alike hZ.alike Ar6.2.1) (g := (mkF m 21 #[.val (.ref a8_0), .val (.int (3 : Int32)), .val (.long q8_2), .second, .val (.int (4 : Int32))] [(.ref w_tree_a8_0), (.int (4 : Int32))])) rfl (rest := [(.int (4 : Int32))]) rfl (hb hby d8_21) _ ?_
    rw [len_of Sz6 Nz6]
    show Steps p.tables e below (T4.setTop (mkF m 22 #[.val (.ref a8_0), .val (.int (3 : Int32)), .val (.long q8_2), .second, .val (.int (4 : Int32))] [(.int (4 : Int32)), (.int (4 : Int32))])) _
    refine XS.icmpNo X4.here hx rfl (hb hby d8_22) rfl (flt (by decide : ¬ ((4 : Int32) < (4 : Int32)))).2.2.1 ?_
    refine XS.aloadN X4.here hx rfl (hb hby d8_25) rfl rfl ?_
    refine st7 _ ?_
    show Steps p.tables e below (T7.setTop (mkF m 29 #[.val (.ref a8_0), .val (.int (3 : Int32)), .val (.long q8_2), .second, .val (.int (4 : Int32))] [(.ref w_tree_a8_0)])) _
    refine XS.iload X7.here hx rfl (hb hby d8_29) rfl ?_
    refine XS.iconst X7.here hx rfl (hb hby d8_31) ?_
    refine XS.isub X7.here hx rfl (hb hby d8_32) rfl ?_
    show Steps p.tables e below (T7.setTop (mkF m 33 #[.val (.ref a8_0), .val (.int (3 : Int32)), .val (.long q8_2), .second, .val (.int (4 : Int32))] [(.int (3 : Int32)), (.ref w_tree_a8_0)])) _
    jvm_step X7.here [X7.here.top, hx, (hb hby d8_33), Value.category]
    refine X7.laload hx (j := (3 : Int32)) (v := (.long t_w_tree_a8_0_3)) (by rw [e7]; exact Ar8.1) (State.isArrayOf_alike hZ.alike Ar8.2.1) Ar8.2.2 (inb_of Sz8 ⟨by decide, by decide⟩) (Hh8.at (inb_of Sz8 ⟨by decide, by decide⟩) rfl) (g := (mkF m 34 #[.val (.ref a8_0), .val (.int (3 : Int32)), .val (.long q8_2), .second, .val (.int (4 : Int32))] [(.int (3 : Int32)), (.ref w_tree_a8_0), (.int (3 : Int32)), (.ref w_tree_a8_0)])) rfl rfl (hb hby d8_34) _ ?_
    refine XS.lloadN X7.here hx rfl (hb hby d8_35) rfl ?_
    show Steps p.tables e below (T7.setTop (mkF m 36 #[.val (.ref a8_0), .val (.int (3 : Int32)), .val (.long q8_2), .second, .val (.int (4 : Int32))] [(.long q8_2), (.long t_w_tree_a8_0_3), (.int (3 : Int32)), (.ref w_tree_a8_0)])) _
    refine XS.ladd X7.here hx rfl (hb hby d8_36) rfl ?_
    refine st10 _ ?_
    refine XS.iload X10.here hx rfl (hb hby d8_38) rfl ?_
    show Steps p.tables e below (T10.setTop (mkF m 40 #[.val (.ref a8_0), .val (.int (3 : Int32)), .val (.long q8_2), .second, .val (.int (4 : Int32))] [(.int (4 : Int32))])) _
    refine XS.iload X10.here hx rfl (hb hby d8_40) rfl ?_
    refine XS.iload X10.here hx rfl (hb hby d8_42) rfl ?_
    refine XS.ineg X10.here hx rfl (hb hby d8_44) rfl ?_
    show Steps p.tables e below (T10.setTop (mkF m 45 #[.val (.ref a8_0), .val (.int (3 : Int32)), .val (.long q8_2), .second, .val (.int (4 : Int32))] [(.int (-4 : Int32)), (.int (4 : Int32)), (.int (4 : Int32))])) _
    refine XS.iand X10.here hx rfl (hb hby d8_45) rfl ?_
    refine XS.iadd X10.here hx rfl (hb hby d8_46) rfl ?_
    refine XS.istore X10.here hx rfl (hb hby d8_47) rfl (l' := #[.val (.ref a8_0), .val (.int (3 : Int32)), .val (.long q8_2), .second, .val (.int (8 : Int32))]) rfl ?_
    show Steps p.tables e below (T10.setTop (mkF m 49 #[.val (.ref a8_0), .val (.int (3 : Int32)), .val (.long q8_2), .second, .val (.int (8 : Int32))] [])) _
    refine XS.goto X10.here hx rfl (pc0 := 49) (pc' := 15) rfl (hb hby d8_49) (by decide) (by decide) ?_
    refine XS.iload X10.here hx rfl (hb hby d8_15) rfl ?_
    refine XS.aloadN X10.here hx rfl (hb hby d8_17) rfl rfl ?_
    show Steps p.tables e below (T10.setTop (mkF m 18 #[.val (.ref a8_0), .val (.int (3 : Int32)), .val (.long q8_2), .second, .val (.int (8 : Int32))] [(.ref a8_0), (.int (8 : Int32))])) _
    refine st12 _ ?_
    show Steps p.tables e below (T12.setTop (mkF m 21 #[.val (.ref a8_0), .val (.int (3 : Int32)), .val (.long q8_2), .second, .val (.int (8 : Int32))] [(.ref w_tree_a8_0), (.int (8 : Int32))])) _
    refine X12.arraylength hx (cell := cl13) (by rw [e12]; exact Ar13.1) (State.isArrayOf_alike hZ.alike Ar13.2.1) (g := (mkF m 21 #[.val (.ref a8_0), .val (.int (3 : Int32)), .val (.long q8_2), .second, .val (.int (8 : Int32))] [(.ref w_tree_a8_0), (.int (8 : Int32))])) rfl (rest := [(.int (8 : Int32))]) rfl (hb hby d8_21) _ ?_
    rw [len_of Sz13 Nz13]
    show Steps p.tables e below (T12.setTop (mkF m 22 #[.val (.ref a8_0), .val (.int (3 : Int32)), .val (.long q8_2), .second, .val (.int (8 : Int32))] [(.int (4 : Int32)), (.int (8 : Int32))])) _
    refine XS.icmpYes X12.here hx rfl (pc0 := 22) (pc' := 52) rfl (hb hby d8_22) rfl (tlt (by decide : (4 : Int32) < (8 : Int32))).2.2.1 (by decide) (by decide) ?_
    show Steps p.tables e below (T12.setTop (mkF m 52 #[.val (.ref a8_0), .val (.int (3 : Int32)), .val (.long q8_2), .second, .val (.int (8 : Int32))] [])) _
    exact X12.returnOut hx Bd.returns (hb hby d8_52) hr
  · have f14 := ((E_a8_0.wr W2).wr W10)
    have f15 := ((F_size_a8_0.other W2 (Or.inr (slot_ne (Or.inl (ow24 hw)) (Or.inl (ow46 hw)) (by decide) (t := .int) (t' := .long) (by decide) (by decide)))).other W10 (Or.inl (Ne.symm ne_w_tree_a8_0_a8_0)))
    have f16 := (F2.other W10 (Or.inl (Ne.symm ne_w_tree_a8_0_a8_0)))
    show Q_rm8_4 Z a8_0 q8_2 w_tree_a8_0 w_total_a8_0 kc_w_tree_a8_0 t_w_tree_a8_0_0 t_w_tree_a8_0_1 t_w_tree_a8_0_2 t_w_tree_a8_0_3 h0 n0 _ T12.heap _
    rw [e12]
    exact ⟨rfl, N10, K10, f14, f11, f15, f16, V10⟩
theorem ef_rm3_4 (m : MethodId) (y0 : Addr) (y1 : Int64) : entryFrame m #[(.ref y0), (.long y1)] 3 = mkF m 0 #[.val (.ref y0), .val (.long y1), .second] [] := by first | (simp [entryFrame, mkF, argsToLocals, Value.category]; done) | rfl
def Q_rm3_4 (Z : State) (a3_0 : Addr) (q3_1 : Int64) (w_tree_a3_0 : Addr) (w_total_a3_0 : Int64) (kc_w_tree_a3_0 : ClassId) (t_w_tree_a3_0_0 : Int64) (t_w_tree_a3_0_1 : Int64) (t_w_tree_a3_0_2 : Int64) (t_w_tree_a3_0_3 : Int64) (h0 : Heap) (n0 : Nat) (v : Option Value) (h : Heap) (L : List Loc) : Prop := v = none ∧ Fr n0 L ∧ Keep h0 h [a3_0, w_tree_a3_0] ∧ Exa Z h a3_0 "com/example/motley/motley/CountTree" ∧ Fld Z h a3_0 "com/example/motley/motley/CountTree" "tree" "[J" (.ref w_tree_a3_0) ∧ Fld Z h a3_0 "com/example/motley/motley/CountTree" "size" "I" (.int (4 : Int32)) ∧ Fld Z h a3_0 "com/example/motley/motley/CountTree" "total" "J" (.long (w_total_a3_0 + q3_1)) ∧ Arv Z h w_tree_a3_0 kc_w_tree_a3_0 .long (4 : Int32) [(.long t_w_tree_a3_0_0), (.long t_w_tree_a3_0_1), (.long t_w_tree_a3_0_2), (.long (t_w_tree_a3_0_3 + q3_1))] (.long (0 : Int64))
set_option maxRecDepth 65536 in
set_option maxHeartbeats 40000000 in
theorem rm3_4 (l : Launch) (Z : State) (a0 : Array Value) (hw : ∀ d ∈ tables_1, d.before a0 Z = true) (ws : List Jvm.Cond) (a3_0 : Addr) (q3_1 : Int64) (w_tree_a3_0 : Addr) (w_total_a3_0 : Int64) (kc_w_tree_a3_0 : ClassId) (t_w_tree_a3_0_0 : Int64) (t_w_tree_a3_0_1 : Int64) (t_w_tree_a3_0_2 : Int64) (t_w_tree_a3_0_3 : Int64) (h0 : Heap) (n0 : Nat) (Z0 : n0 ≤ h0.size) (E_a3_0 : Exa Z h0 a3_0 "com/example/motley/motley/CountTree") (F_tree_a3_0 : Fld Z h0 a3_0 "com/example/motley/motley/CountTree" "tree" "[J" (.ref w_tree_a3_0)) (F_size_a3_0 : Fld Z h0 a3_0 "com/example/motley/motley/CountTree" "size" "I" (.int (3 : Int32))) (F_total_a3_0 : Fld Z h0 a3_0 "com/example/motley/motley/CountTree" "total" "J" (.long w_total_a3_0)) (V_w_tree_a3_0 : Arv Z h0 w_tree_a3_0 kc_w_tree_a3_0 .long (4 : Int32) [(.long t_w_tree_a3_0_0), (.long t_w_tree_a3_0_1), (.long t_w_tree_a3_0_2), (.long t_w_tree_a3_0_3)] (.long (0 : Int64))) (g_a3_0 : n0 ≤ a3_0) (ne_w_tree_a3_0_a3_0 : w_tree_a3_0 ≠ a3_0) (g_w_tree_a3_0 : n0 ≤ w_tree_a3_0) :
    MetFree l (⟨"com/example/motley/motley/CountTree", "append", "(J)V"⟩ : MethodName) (head1 (Jvm.Cond.code (⟨"com/example/motley/motley/CountTree", "append", "(J)V"⟩ : MethodName) prog_14_method_4_code 3 none :: ws) ({ frames := 1, cells := 0, slots := 0, locals := 18 } : Room)) (fun a U => a = #[(.ref a3_0), (.long q3_1)] ∧ Z.Warmed39 U.vm ∧ U.heap = h0) (fun _ _ _ _ _ => True) (fun _ U o U' => ∃ v L, o = .returned v ∧ Q_rm3_4 Z a3_0 q3_1 w_tree_a3_0 w_total_a3_0 kc_w_tree_a3_0 t_w_tree_a3_0_0 t_w_tree_a3_0_1 t_w_tree_a3_0_2 t_w_tree_a3_0_3 h0 n0 v U'.heap L ∧ FrameEnd U o U' L ({ frames := 1, cells := 0, slots := 0, locals := 18 } : Room).cells ({ frames := 1, cells := 0, slots := 0, locals := 18 } : Room).slots) := by
  refine MetFree.of_bodySF (plainFor_of_name pn_3) hisR ?_
  intro p e s m args below meth c s₁ Bd hml0 hP hK
  obtain ⟨rfl, hZ, hh⟩ := hP
  have hx := Bd.exec
  have hby := Bd.bytes
  have hml : c.maxLocals = 3 := hml0
  have hown : s.vm.findClass "com/example/motley/motley/CountTree" = some m.cls := findClass_of_methodNamed Bd.named
  have hnm := (name_of_methodNamed Bd.named Bd.method).1
  have X0 : Stand p l e ({ frames := 1, cells := 0, slots := 0, locals := 18 } : Room) s m #[(.ref a3_0), (.long q3_1)] below meth c s₁ [] 0 0 := Stand.of_body Bd
  have e0 : s₁.heap = h0 := by rw [← hh, Bd.state]; rfl
  have N0 := Fr.nil n0
  have pre0 : ∀ t, Steps p.tables e below (s₁.setTop (mkF m 0 #[.val (.ref a3_0), .val (.long q3_1), .second] [])) t → Steps p.tables e below (s₁.setTop (entryFrame m #[(.ref a3_0), (.long q3_1)] 3)) t := fun t k => castTop (ef_rm3_4 m a3_0 q3_1) k
  obtain ⟨cq1, kq1, q1a, q1b, q1c⟩ := isOf hZ e0 E_a3_0
  obtain ⟨_, _, ⟨T1, L1, k1, n1⟩, -, X1, ⟨Lc1, hQ1, l1, y1, z1⟩, st1⟩ := X0.virtualBack hx (y := (⟨"com/example/motley/motley/CountTree", "reserve", "(I)V"⟩ : MethodName)) (z := (⟨"com/example/motley/motley/CountTree", "reserve", "(I)V"⟩ : MethodName)) hown (mvT hZ (ow18 hw)) (mvT hZ (ow19 hw)) (notFace_of_selects (args := #[]) (mvT hZ (ow21 hw))) (mvT hZ (ow21 hw)) (mvT hZ (ow20 hw)) (by decide) (backOf (W := 0) (rm4_4 l Z a0 hw [] a3_0 w_tree_a3_0 w_total_a3_0 kc_w_tree_a3_0 t_w_tree_a3_0_0 t_w_tree_a3_0_1 t_w_tree_a3_0_2 t_w_tree_a3_0_3 h0 n0 Z0 E_a3_0 F_tree_a3_0 F_size_a3_0 F_total_a3_0 V_w_tree_a3_0) hZ (ow22 hw) (ow3 hw) (by decide) (by decide)) q1a q1c (g := (mkF m 2 #[.val (.ref a3_0), .val (.long q3_1), .second] [(.int (1 : Int32)), (.ref a3_0)])) rfl (by rw [hml]; rfl) (Steps.refl _) (argsL := [(.int (1 : Int32))]) (rest := []) (lenOf pd__I_V rfl) rfl (by show 2 * 0 + _ ≤ _; exact Nat.le_of_eq rfl) (hb hby d3_2) (fun _ _ => ⟨rfl, e0, (by decide : 0 + 0 ≤ _), (by decide : 0 + 0 ≤ _)⟩)
  dsimp only [Pt.U, Pt.locs, Pt.cells, Pt.slots] at X1 l1 y1 z1 st1 hQ1
  subst l1 y1 z1
  obtain ⟨rfl, Nq1, e1⟩ := hQ1
  have N1 := Fr.app N0 Nq1
  obtain ⟨T2, X2, e2, st2⟩ := getF X1 hx hZ hown (host := "") (Or.inl (ow23 hw)) Via.refl e1 F_size_a3_0 (g := (mkF m 7 #[.val (.ref a3_0), .val (.long q3_1), .second] [(.ref a3_0), (.ref a3_0)])) rfl rfl (hb hby d3_7)
  obtain ⟨T3, h3, X3, e3, W3, st3⟩ := putF X2 hx hZ hown (host := "") (Or.inl (ow23 hw)) Via.refl e2 F_size_a3_0 E_a3_0 (Or.inl (ow24 hw)) (ow2 hw) (ty := .int) (by decide) rfl rfl (g := (mkF m 12 #[.val (.ref a3_0), .val (.long q3_1), .second] [(.int (4 : Int32)), (.ref a3_0)])) rfl rfl (hb hby d3_12)
  have F3 := F_size_a3_0.same W3
  have K3 : Keep h0 h3 [a3_0, w_tree_a3_0] := (Keep.refl h0 [a3_0, w_tree_a3_0]).wr W3 (Or.inl (List.mem_of_getElem? (i := 0) rfl))
  have Z3 : n0 ≤ h3.size := Nat.le_trans Z0 K3.1
  have N3 := Fr.snoc X3 N1 g_a3_0
  obtain ⟨T4, X4, e4, st4⟩ := getF X3 hx hZ hown (host := "") (Or.inl (ow23 hw)) Via.refl e3 F3 (g := (mkF m 17 #[.val (.ref a3_0), .val (.long q3_1), .second] [(.ref a3_0), (.ref a3_0)])) rfl rfl (hb hby d3_17)
  have f5 := (V_w_tree_a3_0.other W3 ne_w_tree_a3_0_a3_0)
  have f6 := (E_a3_0.wr W3)
  have f7 := (F_tree_a3_0.other W3 (Or.inr (slot_ne (Or.inl (ow12 hw)) (Or.inl (ow24 hw)) (by decide) (t := (.array .long)) (t' := .int) (by decide) (by decide))))
  have f8 := (F_total_a3_0.other W3 (Or.inr (slot_ne (Or.inl (ow46 hw)) (Or.inl (ow24 hw)) (by decide) (t := .long) (t' := .int) (by decide) (by decide))))
  obtain ⟨cq9, kq9, q9a, q9b, q9c⟩ := isOf hZ e4 f6
  obtain ⟨_, _, ⟨T9, L9, k9, n9⟩, -, X9, ⟨Lc9, hQ9, l9, y9, z9⟩, st9⟩ := X4.virtualBack hx (y := (⟨"com/example/motley/motley/CountTree", "add", "(IJ)V"⟩ : MethodName)) (z := (⟨"com/example/motley/motley/CountTree", "add", "(IJ)V"⟩ : MethodName)) hown (mvT hZ (ow40 hw)) (mvT hZ (ow41 hw)) (notFace_of_selects (args := #[]) (mvT hZ (ow43 hw))) (mvT hZ (ow43 hw)) (mvT hZ (ow42 hw)) (by decide) (backOf (W := 0) (rm8_4 l Z a0 hw [] a3_0 q3_1 w_tree_a3_0 w_total_a3_0 kc_w_tree_a3_0 t_w_tree_a3_0_0 t_w_tree_a3_0_1 t_w_tree_a3_0_2 t_w_tree_a3_0_3 h3 n0 Z3 f6 f7 F3 f8 f5 g_a3_0 ne_w_tree_a3_0_a3_0 g_w_tree_a3_0) hZ (ow44 hw) (ow3 hw) (by decide) (by decide)) q9a q9c (g := (mkF m 23 #[.val (.ref a3_0), .val (.long q3_1), .second] [(.long q3_1), (.int (3 : Int32)), (.ref a3_0)])) rfl (by rw [hml]; rfl) (Steps.refl _) (argsL := [(.int (3 : Int32)), (.long q3_1)]) (rest := []) (lenOf pd__IJ_V rfl) rfl (by show 2 * 0 + _ ≤ _; exact Nat.le_of_eq rfl) (hb hby d3_23) (fun _ _ => ⟨rfl, e4, (by decide : 0 + 0 ≤ _), (by decide : 0 + 0 ≤ _)⟩)
  dsimp only [Pt.U, Pt.locs, Pt.cells, Pt.slots] at X9 l9 y9 z9 st9 hQ9
  subst l9 y9 z9
  obtain ⟨rfl, Nq9, Kc9, P9_0, P9_1, P9_2, P9_3, P9_4⟩ := hQ9
  have K9 : Keep h0 T9.heap [a3_0, w_tree_a3_0] := Keep.trans K3 Kc9 (allS (P := fun x => x ∈ ([a3_0, w_tree_a3_0] : List Addr) ∨ h0.size ≤ x) (Or.inl (List.mem_of_getElem? (i := 0) rfl)) (allS (P := fun x => x ∈ ([a3_0, w_tree_a3_0] : List Addr) ∨ h0.size ≤ x) (Or.inl (List.mem_of_getElem? (i := 1) rfl)) all0))
  have Z9 : n0 ≤ T9.heap.size := Nat.le_trans Z0 K9.1
  obtain ⟨y10, hy10⟩ : ∃ z : Int64, z = (w_total_a3_0 + q3_1) := ⟨_, rfl⟩
  rw [← hy10] at P9_3
  obtain ⟨y11, hy11⟩ : ∃ z : Int64, z = (t_w_tree_a3_0_3 + q3_1) := ⟨_, rfl⟩
  rw [← hy11] at P9_4
  have N9 := Fr.app N3 Nq9
  obtain ⟨fs, hr, hrun, hended, hW, hsame⟩ := X9.leave (v := none) (fun _ => rfl)
  refine ⟨_, _, pre0 _ ?_, hrun, hended, _, _, rfl, ?_, ⟨_, rfl⟩, hW, hsame.mono (by decide) (by decide)⟩
  · show Steps p.tables e below (s₁.setTop (mkF m 0 #[.val (.ref a3_0), .val (.long q3_1), .second] [])) _
    refine XS.aloadN X0.here hx rfl (hb hby d3_0) rfl rfl ?_
    refine XS.iconst X0.here hx rfl (hb hby d3_1) ?_
    refine st1.trans ?_
    show Steps p.tables e below (T1.setTop (mkF m 5 #[.val (.ref a3_0), .val (.long q3_1), .second] [])) _
    refine XS.aloadN X1.here hx rfl (hb hby d3_5) rfl rfl ?_
    refine XS.dup X1.here hx rfl (hb hby d3_6) rfl rfl ?_
    refine st2 _ ?_
    show Steps p.tables e below (T2.setTop (mkF m 10 #[.val (.ref a3_0), .val (.long q3_1), .second] [(.int (3 : Int32)), (.ref a3_0)])) _
    refine XS.iconst X2.here hx rfl (hb hby d3_10) ?_
    refine XS.iadd X2.here hx rfl (hb hby d3_11) rfl ?_
    refine st3 _ ?_
    show Steps p.tables e below (T3.setTop (mkF m 15 #[.val (.ref a3_0), .val (.long q3_1), .second] [])) _
    refine XS.aloadN X3.here hx rfl (hb hby d3_15) rfl rfl ?_
    refine XS.aloadN X3.here hx rfl (hb hby d3_16) rfl rfl ?_
    refine st4 _ ?_
    show Steps p.tables e below (T4.setTop (mkF m 20 #[.val (.ref a3_0), .val (.long q3_1), .second] [(.int (4 : Int32)), (.ref a3_0)])) _
    refine XS.iconst X4.here hx rfl (hb hby d3_20) ?_
    refine XS.isub X4.here hx rfl (hb hby d3_21) rfl ?_
    refine XS.lloadN X4.here hx rfl (hb hby d3_22) rfl ?_
    show Steps p.tables e below (T4.setTop (mkF m 23 #[.val (.ref a3_0), .val (.long q3_1), .second] [(.long q3_1), (.int (3 : Int32)), (.ref a3_0)])) _
    refine st9.trans ?_
    show Steps p.tables e below (T9.setTop (mkF m 26 #[.val (.ref a3_0), .val (.long q3_1), .second] [])) _
    exact X9.returnOut hx Bd.returns (hb hby d3_26) hr
  · show Q_rm3_4 Z a3_0 q3_1 w_tree_a3_0 w_total_a3_0 kc_w_tree_a3_0 t_w_tree_a3_0_0 t_w_tree_a3_0_1 t_w_tree_a3_0_2 t_w_tree_a3_0_3 h0 n0 _ T9.heap _
    subst hy11
    subst hy10
    exact ⟨rfl, N9, K9, P9_0, P9_1, P9_2, P9_3, P9_4⟩
theorem ef_rm9_7 (m : MethodId) (y0 : Addr) (y1 : Int32) : entryFrame m #[(.ref y0), (.int y1)] 5 = mkF m 0 #[.val (.ref y0), .val (.int y1), .unset, .unset, .unset] [] := by first | (simp [entryFrame, mkF, argsToLocals, Value.category]; done) | rfl
def Q_rm9_7 (Z : State) (a9_0 : Addr) (p9_1 : Int32) (w_tree_a9_0 : Addr) (w_total_a9_0 : Int64) (kc_w_tree_a9_0 : ClassId) (t_w_tree_a9_0_0 : Int64) (t_w_tree_a9_0_1 : Int64) (t_w_tree_a9_0_2 : Int64) (t_w_tree_a9_0_3 : Int64) (h0 : Heap) (n0 : Nat) (v : Option Value) (h : Heap) (L : List Loc) : Prop := v = some (.long (if p9_1 = (0 : Int32) then (0 : Int64) else (if p9_1 = (1 : Int32) then ((0 : Int64) + t_w_tree_a9_0_0) else (if p9_1 = (2 : Int32) then ((0 : Int64) + t_w_tree_a9_0_1) else (if p9_1 = (3 : Int32) then (((0 : Int64) + t_w_tree_a9_0_2) + t_w_tree_a9_0_1) else ((0 : Int64) + t_w_tree_a9_0_3)))))) ∧ Fr n0 L ∧ h = h0
set_option maxRecDepth 65536 in
set_option maxHeartbeats 40000000 in
theorem rm9_7 (l : Launch) (Z : State) (a0 : Array Value) (hw : ∀ d ∈ tables_1, d.before a0 Z = true) (ws : List Jvm.Cond) (a9_0 : Addr) (p9_1 : Int32) (w_tree_a9_0 : Addr) (w_total_a9_0 : Int64) (kc_w_tree_a9_0 : ClassId) (t_w_tree_a9_0_0 : Int64) (t_w_tree_a9_0_1 : Int64) (t_w_tree_a9_0_2 : Int64) (t_w_tree_a9_0_3 : Int64) (h0 : Heap) (n0 : Nat) (Z0 : n0 ≤ h0.size) (hq : p9_1 = (0 : Int32) ∨ p9_1 = (1 : Int32) ∨ p9_1 = (2 : Int32) ∨ p9_1 = (3 : Int32) ∨ p9_1 = (4 : Int32)) (E_a9_0 : Exa Z h0 a9_0 "com/example/motley/motley/CountTree") (F_tree_a9_0 : Fld Z h0 a9_0 "com/example/motley/motley/CountTree" "tree" "[J" (.ref w_tree_a9_0)) (F_size_a9_0 : Fld Z h0 a9_0 "com/example/motley/motley/CountTree" "size" "I" (.int (4 : Int32))) (F_total_a9_0 : Fld Z h0 a9_0 "com/example/motley/motley/CountTree" "total" "J" (.long w_total_a9_0)) (V_w_tree_a9_0 : Arv Z h0 w_tree_a9_0 kc_w_tree_a9_0 .long (4 : Int32) [(.long t_w_tree_a9_0_0), (.long t_w_tree_a9_0_1), (.long t_w_tree_a9_0_2), (.long t_w_tree_a9_0_3)] (.long (0 : Int64))) :
    MetFree l (⟨"com/example/motley/motley/CountTree", "sumBefore", "(I)J"⟩ : MethodName) (head1 (Jvm.Cond.code (⟨"com/example/motley/motley/CountTree", "sumBefore", "(I)J"⟩ : MethodName) prog_14_method_8_code 5 (some .long) :: ws) ({ frames := 0, cells := 0, slots := 0, locals := 0 } : Room)) (fun a U => a = #[(.ref a9_0), (.int p9_1)] ∧ Z.Warmed39 U.vm ∧ U.heap = h0) (fun _ _ _ _ _ => True) (fun _ U o U' => ∃ v L, o = .returned v ∧ Q_rm9_7 Z a9_0 p9_1 w_tree_a9_0 w_total_a9_0 kc_w_tree_a9_0 t_w_tree_a9_0_0 t_w_tree_a9_0_1 t_w_tree_a9_0_2 t_w_tree_a9_0_3 h0 n0 v U'.heap L ∧ FrameEnd U o U' L ({ frames := 0, cells := 0, slots := 0, locals := 0 } : Room).cells ({ frames := 0, cells := 0, slots := 0, locals := 0 } : Room).slots) := by
  refine MetFree.of_bodySF (plainFor_of_name pn_9) hisR ?_
  intro p e s m args below meth c s₁ Bd hml0 hP hK
  obtain ⟨rfl, hZ, hh⟩ := hP
  have hx := Bd.exec
  have hby := Bd.bytes
  have hml : c.maxLocals = 5 := hml0
  have hown : s.vm.findClass "com/example/motley/motley/CountTree" = some m.cls := findClass_of_methodNamed Bd.named
  have hnm := (name_of_methodNamed Bd.named Bd.method).1
  have X0 : Stand p l e ({ frames := 0, cells := 0, slots := 0, locals := 0 } : Room) s m #[(.ref a9_0), (.int p9_1)] below meth c s₁ [] 0 0 := Stand.of_body Bd
  have e0 : s₁.heap = h0 := by rw [← hh, Bd.state]; rfl
  have N0 := Fr.nil n0
  have pre0 : ∀ t, Steps p.tables e below (s₁.setTop (mkF m 0 #[.val (.ref a9_0), .val (.int p9_1), .unset, .unset, .unset] [])) t → Steps p.tables e below (s₁.setTop (entryFrame m #[(.ref a9_0), (.int p9_1)] 5)) t := fun t k => castTop (ef_rm9_7 m a9_0 p9_1) k
  by_cases hb1 : p9_1 = (0 : Int32)
  · have own_t1 : True := trivial
    obtain ⟨fs, hr, hrun, hended, hW, hsame⟩ := X0.leave (v := some (.long (0 : Int64))) (fun h => by rw [Bd.returns] at h; cases h)
    refine ⟨_, _, pre0 _ ?_, hrun, hended, _, _, rfl, ?_, ⟨_, rfl⟩, hW, hsame.mono (by decide) (by decide)⟩
    · show Steps p.tables e below (s₁.setTop (mkF m 0 #[.val (.ref a9_0), .val (.int p9_1), .unset, .unset, .unset] [])) _
      rw [hb1]
      show Steps p.tables e below (s₁.setTop (mkF m 0 #[.val (.ref a9_0), .val (.int (0 : Int32)), .unset, .unset, .unset] [])) _
      refine XS.lconst X0.here hx rfl (hb hby d9_0) ?_
      refine XS.lstoreN X0.here hx rfl (hb hby d9_1) rfl (l' := #[.val (.ref a9_0), .val (.int (0 : Int32)), .val (.long (0 : Int64)), .second, .unset]) rfl ?_
      refine XS.iloadN X0.here hx rfl (hb hby d9_2) rfl ?_
      show Steps p.tables e below (s₁.setTop (mkF m 3 #[.val (.ref a9_0), .val (.int (0 : Int32)), .val (.long (0 : Int64)), .second, .unset] [(.int (0 : Int32))])) _
      refine XS.istore X0.here hx rfl (hb hby d9_3) rfl (l' := #[.val (.ref a9_0), .val (.int (0 : Int32)), .val (.long (0 : Int64)), .second, .val (.int (0 : Int32))]) rfl ?_
      refine XS.iload X0.here hx rfl (hb hby d9_5) rfl ?_
      show Steps p.tables e below (s₁.setTop (mkF m 7 #[.val (.ref a9_0), .val (.int (0 : Int32)), .val (.long (0 : Int64)), .second, .val (.int (0 : Int32))] [(.int (0 : Int32))])) _
      refine XS.ifYes X0.here hx rfl (pc0 := 7) (pc' := 36) rfl (hb hby d9_7) rfl ((if0 _ _).trans (flt (by decide : ¬ ((0 : Int32) < (0 : Int32)))).2.2.2) (by decide) (by decide) ?_
      refine XS.lloadN X0.here hx rfl (hb hby d9_36) rfl ?_
      show Steps p.tables e below (s₁.setTop (mkF m 37 #[.val (.ref a9_0), .val (.int (0 : Int32)), .val (.long (0 : Int64)), .second, .val (.int (0 : Int32))] [(.long (0 : Int64))])) _
      exact own_retJ X0 hx Bd.returns (hb hby d9_37) hr
    · show Q_rm9_7 Z a9_0 p9_1 w_tree_a9_0 w_total_a9_0 kc_w_tree_a9_0 t_w_tree_a9_0_0 t_w_tree_a9_0_1 t_w_tree_a9_0_2 t_w_tree_a9_0_3 h0 n0 _ s₁.heap _
      rw [e0]
      exact ⟨(congrArg (fun z => some (Value.long z)) (if_pos hb1).symm), N0, rfl⟩
  · have own_u1 : True := trivial
    by_cases hb2 : p9_1 = (1 : Int32)
    · have own_t2 : True := trivial
      obtain ⟨T3, X3, e3, st3⟩ := getF X0 hx hZ hown (host := "") (Or.inl (ow11 hw)) Via.refl e0 F_tree_a9_0 (g := (mkF m 12 #[.val (.ref a9_0), .val (.int (1 : Int32)), .val (.long (0 : Int64)), .second, .val (.int (1 : Int32))] [(.ref a9_0), (.long (0 : Int64))])) rfl rfl (hb hby d9_12)
      obtain ⟨cl4, Ar4, qk4, Sz4, Nz4, Hh4, Gf4⟩ := id V_w_tree_a9_0
      obtain ⟨fs, hr, hrun, hended, hW, hsame⟩ := X3.leave (v := some (.long ((0 : Int64) + t_w_tree_a9_0_0))) (fun h => by rw [Bd.returns] at h; cases h)
      refine ⟨_, _, pre0 _ ?_, hrun, hended, _, _, rfl, ?_, ⟨_, rfl⟩, hW, hsame.mono (by decide) (by decide)⟩
      · show Steps p.tables e below (s₁.setTop (mkF m 0 #[.val (.ref a9_0), .val (.int p9_1), .unset, .unset, .unset] [])) _
        rw [hb2]
        show Steps p.tables e below (s₁.setTop (mkF m 0 #[.val (.ref a9_0), .val (.int (1 : Int32)), .unset, .unset, .unset] [])) _
        refine XS.lconst X0.here hx rfl (hb hby d9_0) ?_
        refine XS.lstoreN X0.here hx rfl (hb hby d9_1) rfl (l' := #[.val (.ref a9_0), .val (.int (1 : Int32)), .val (.long (0 : Int64)), .second, .unset]) rfl ?_
        refine XS.iloadN X0.here hx rfl (hb hby d9_2) rfl ?_
        show Steps p.tables e below (s₁.setTop (mkF m 3 #[.val (.ref a9_0), .val (.int (1 : Int32)), .val (.long (0 : Int64)), .second, .unset] [(.int (1 : Int32))])) _
        refine XS.istore X0.here hx rfl (hb hby d9_3) rfl (l' := #[.val (.ref a9_0), .val (.int (1 : Int32)), .val (.long (0 : Int64)), .second, .val (.int (1 : Int32))]) rfl ?_
        refine XS.iload X0.here hx rfl (hb hby d9_5) rfl ?_
        show Steps p.tables e below (s₁.setTop (mkF m 7 #[.val (.ref a9_0), .val (.int (1 : Int32)), .val (.long (0 : Int64)), .second, .val (.int (1 : Int32))] [(.int (1 : Int32))])) _
        refine XS.ifNo X0.here hx rfl (hb hby d9_7) rfl ((if0 _ _).trans (tlt (by decide : (0 : Int32) < (1 : Int32))).2.2.2) ?_
        refine XS.lloadN X0.here hx rfl (hb hby d9_10) rfl ?_
        refine XS.aloadN X0.here hx rfl (hb hby d9_11) rfl rfl ?_
        show Steps p.tables e below (s₁.setTop (mkF m 12 #[.val (.ref a9_0), .val (.int (1 : Int32)), .val (.long (0 : Int64)), .second, .val (.int (1 : Int32))] [(.ref a9_0), (.long (0 : Int64))])) _
        refine st3 _ ?_
        refine XS.iload X3.here hx rfl (hb hby d9_15) rfl ?_
        refine XS.iconst X3.here hx rfl (hb hby d9_17) ?_
        show Steps p.tables e below (T3.setTop (mkF m 18 #[.val (.ref a9_0), .val (.int (1 : Int32)), .val (.long (0 : Int64)), .second, .val (.int (1 : Int32))] [(.int (1 : Int32)), (.int (1 : Int32)), (.ref w_tree_a9_0), (.long (0 : Int64))])) _
        refine XS.isub X3.here hx rfl (hb hby d9_18) rfl ?_
        refine X3.laload hx (j := (0 : Int32)) (v := (.long t_w_tree_a9_0_0)) (by rw [e3]; exact Ar4.1) (State.isArrayOf_alike hZ.alike Ar4.2.1) Ar4.2.2 (inb_of Sz4 ⟨by decide, by decide⟩) (Hh4.at (inb_of Sz4 ⟨by decide, by decide⟩) rfl) (g := (mkF m 19 #[.val (.ref a9_0), .val (.int (1 : Int32)), .val (.long (0 : Int64)), .second, .val (.int (1 : Int32))] [(.int (0 : Int32)), (.ref w_tree_a9_0), (.long (0 : Int64))])) rfl rfl (hb hby d9_19) _ ?_
        refine XS.ladd X3.here hx rfl (hb hby d9_20) rfl ?_
        show Steps p.tables e below (T3.setTop (mkF m 21 #[.val (.ref a9_0), .val (.int (1 : Int32)), .val (.long (0 : Int64)), .second, .val (.int (1 : Int32))] [(.long ((0 : Int64) + t_w_tree_a9_0_0))])) _
        refine XS.lstoreN X3.here hx rfl (hb hby d9_21) rfl (l' := #[.val (.ref a9_0), .val (.int (1 : Int32)), .val (.long ((0 : Int64) + t_w_tree_a9_0_0)), .second, .val (.int (1 : Int32))]) rfl ?_
        refine XS.iload X3.here hx rfl (hb hby d9_22) rfl ?_
        refine XS.iload X3.here hx rfl (hb hby d9_24) rfl ?_
        show Steps p.tables e below (T3.setTop (mkF m 26 #[.val (.ref a9_0), .val (.int (1 : Int32)), .val (.long ((0 : Int64) + t_w_tree_a9_0_0)), .second, .val (.int (1 : Int32))] [(.int (1 : Int32)), (.int (1 : Int32))])) _
        refine XS.iload X3.here hx rfl (hb hby d9_26) rfl ?_
        refine XS.ineg X3.here hx rfl (hb hby d9_28) rfl ?_
        refine XS.iand X3.here hx rfl (hb hby d9_29) rfl ?_
        show Steps p.tables e below (T3.setTop (mkF m 30 #[.val (.ref a9_0), .val (.int (1 : Int32)), .val (.long ((0 : Int64) + t_w_tree_a9_0_0)), .second, .val (.int (1 : Int32))] [(.int (1 : Int32)), (.int (1 : Int32))])) _
        refine XS.isub X3.here hx rfl (hb hby d9_30) rfl ?_
        refine XS.istore X3.here hx rfl (hb hby d9_31) rfl (l' := #[.val (.ref a9_0), .val (.int (1 : Int32)), .val (.long ((0 : Int64) + t_w_tree_a9_0_0)), .second, .val (.int (0 : Int32))]) rfl ?_
        refine XS.goto X3.here hx rfl (pc0 := 33) (pc' := 5) rfl (hb hby d9_33) (by decide) (by decide) ?_
        show Steps p.tables e below (T3.setTop (mkF m 5 #[.val (.ref a9_0), .val (.int (1 : Int32)), .val (.long ((0 : Int64) + t_w_tree_a9_0_0)), .second, .val (.int (0 : Int32))] [])) _
        refine XS.iload X3.here hx rfl (hb hby d9_5) rfl ?_
        show Steps p.tables e below (T3.setTop (mkF m 7 #[.val (.ref a9_0), .val (.int (1 : Int32)), .val (.long ((0 : Int64) + t_w_tree_a9_0_0)), .second, .val (.int (0 : Int32))] [(.int (0 : Int32))])) _
        refine XS.ifYes X3.here hx rfl (pc0 := 7) (pc' := 36) rfl (hb hby d9_7) rfl ((if0 _ _).trans (flt (by decide : ¬ ((0 : Int32) < (0 : Int32)))).2.2.2) (by decide) (by decide) ?_
        refine XS.lloadN X3.here hx rfl (hb hby d9_36) rfl ?_
        show Steps p.tables e below (T3.setTop (mkF m 37 #[.val (.ref a9_0), .val (.int (1 : Int32)), .val (.long ((0 : Int64) + t_w_tree_a9_0_0)), .second, .val (.int (0 : Int32))] [(.long ((0 : Int64) + t_w_tree_a9_0_0))])) _
        exact own_retJ X3 hx Bd.returns (hb hby d9_37) hr
      · show Q_rm9_7 Z a9_0 p9_1 w_tree_a9_0 w_total_a9_0 kc_w_tree_a9_0 t_w_tree_a9_0_0 t_w_tree_a9_0_1 t_w_tree_a9_0_2 t_w_tree_a9_0_3 h0 n0 _ T3.heap _
        rw [e3]
        exact ⟨(congrArg (fun z => some (Value.long z)) ((if_neg hb1).trans (if_pos hb2)).symm), N0, rfl⟩
    · have own_u2 : True := trivial
      by_cases hb5 : p9_1 = (2 : Int32)
      · have own_t5 : True := trivial
        obtain ⟨T6, X6, e6, st6⟩ := getF X0 hx hZ hown (host := "") (Or.inl (ow11 hw)) Via.refl e0 F_tree_a9_0 (g := (mkF m 12 #[.val (.ref a9_0), .val (.int (2 : Int32)), .val (.long (0 : Int64)), .second, .val (.int (2 : Int32))] [(.ref a9_0), (.long (0 : Int64))])) rfl rfl (hb hby d9_12)
        obtain ⟨cl7, Ar7, qk7, Sz7, Nz7, Hh7, Gf7⟩ := id V_w_tree_a9_0
        obtain ⟨fs, hr, hrun, hended, hW, hsame⟩ := X6.leave (v := some (.long ((0 : Int64) + t_w_tree_a9_0_1))) (fun h => by rw [Bd.returns] at h; cases h)
        refine ⟨_, _, pre0 _ ?_, hrun, hended, _, _, rfl, ?_, ⟨_, rfl⟩, hW, hsame.mono (by decide) (by decide)⟩
        · show Steps p.tables e below (s₁.setTop (mkF m 0 #[.val (.ref a9_0), .val (.int p9_1), .unset, .unset, .unset] [])) _
          rw [hb5]
          show Steps p.tables e below (s₁.setTop (mkF m 0 #[.val (.ref a9_0), .val (.int (2 : Int32)), .unset, .unset, .unset] [])) _
          refine XS.lconst X0.here hx rfl (hb hby d9_0) ?_
          refine XS.lstoreN X0.here hx rfl (hb hby d9_1) rfl (l' := #[.val (.ref a9_0), .val (.int (2 : Int32)), .val (.long (0 : Int64)), .second, .unset]) rfl ?_
          refine XS.iloadN X0.here hx rfl (hb hby d9_2) rfl ?_
          show Steps p.tables e below (s₁.setTop (mkF m 3 #[.val (.ref a9_0), .val (.int (2 : Int32)), .val (.long (0 : Int64)), .second, .unset] [(.int (2 : Int32))])) _
          refine XS.istore X0.here hx rfl (hb hby d9_3) rfl (l' := #[.val (.ref a9_0), .val (.int (2 : Int32)), .val (.long (0 : Int64)), .second, .val (.int (2 : Int32))]) rfl ?_
          refine XS.iload X0.here hx rfl (hb hby d9_5) rfl ?_
          show Steps p.tables e below (s₁.setTop (mkF m 7 #[.val (.ref a9_0), .val (.int (2 : Int32)), .val (.long (0 : Int64)), .second, .val (.int (2 : Int32))] [(.int (2 : Int32))])) _
          refine XS.ifNo X0.here hx rfl (hb hby d9_7) rfl ((if0 _ _).trans (tlt (by decide : (0 : Int32) < (2 : Int32))).2.2.2) ?_
          refine XS.lloadN X0.here hx rfl (hb hby d9_10) rfl ?_
          refine XS.aloadN X0.here hx rfl (hb hby d9_11) rfl rfl ?_
          show Steps p.tables e below (s₁.setTop (mkF m 12 #[.val (.ref a9_0), .val (.int (2 : Int32)), .val (.long (0 : Int64)), .second, .val (.int (2 : Int32))] [(.ref a9_0), (.long (0 : Int64))])) _
          refine st6 _ ?_
          refine XS.iload X6.here hx rfl (hb hby d9_15) rfl ?_
          refine XS.iconst X6.here hx rfl (hb hby d9_17) ?_
          show Steps p.tables e below (T6.setTop (mkF m 18 #[.val (.ref a9_0), .val (.int (2 : Int32)), .val (.long (0 : Int64)), .second, .val (.int (2 : Int32))] [(.int (1 : Int32)), (.int (2 : Int32)), (.ref w_tree_a9_0), (.long (0 : Int64))])) _
          refine XS.isub X6.here hx rfl (hb hby d9_18) rfl ?_
          refine X6.laload hx (j := (1 : Int32)) (v := (.long t_w_tree_a9_0_1)) (by rw [e6]; exact Ar7.1) (State.isArrayOf_alike hZ.alike Ar7.2.1) Ar7.2.2 (inb_of Sz7 ⟨by decide, by decide⟩) (Hh7.at (inb_of Sz7 ⟨by decide, by decide⟩) rfl) (g := (mkF m 19 #[.val (.ref a9_0), .val (.int (2 : Int32)), .val (.long (0 : Int64)), .second, .val (.int (2 : Int32))] [(.int (1 : Int32)), (.ref w_tree_a9_0), (.long (0 : Int64))])) rfl rfl (hb hby d9_19) _ ?_
          refine XS.ladd X6.here hx rfl (hb hby d9_20) rfl ?_
          show Steps p.tables e below (T6.setTop (mkF m 21 #[.val (.ref a9_0), .val (.int (2 : Int32)), .val (.long (0 : Int64)), .second, .val (.int (2 : Int32))] [(.long ((0 : Int64) + t_w_tree_a9_0_1))])) _
          refine XS.lstoreN X6.here hx rfl (hb hby d9_21) rfl (l' := #[.val (.ref a9_0), .val (.int (2 : Int32)), .val (.long ((0 : Int64) + t_w_tree_a9_0_1)), .second, .val (.int (2 : Int32))]) rfl ?_
          refine XS.iload X6.here hx rfl (hb hby d9_22) rfl ?_
          refine XS.iload X6.here hx rfl (hb hby d9_24) rfl ?_
          show Steps p.tables e below (T6.setTop (mkF m 26 #[.val (.ref a9_0), .val (.int (2 : Int32)), .val (.long ((0 : Int64) + t_w_tree_a9_0_1)), .second, .val (.int (2 : Int32))] [(.int (2 : Int32)), (.int (2 : Int32))])) _
          refine XS.iload X6.here hx rfl (hb hby d9_26) rfl ?_
          refine XS.ineg X6.here hx rfl (hb hby d9_28) rfl ?_
          refine XS.iand X6.here hx rfl (hb hby d9_29) rfl ?_
          show Steps p.tables e below (T6.setTop (mkF m 30 #[.val (.ref a9_0), .val (.int (2 : Int32)), .val (.long ((0 : Int64) + t_w_tree_a9_0_1)), .second, .val (.int (2 : Int32))] [(.int (2 : Int32)), (.int (2 : Int32))])) _
          refine XS.isub X6.here hx rfl (hb hby d9_30) rfl ?_
          refine XS.istore X6.here hx rfl (hb hby d9_31) rfl (l' := #[.val (.ref a9_0), .val (.int (2 : Int32)), .val (.long ((0 : Int64) + t_w_tree_a9_0_1)), .second, .val (.int (0 : Int32))]) rfl ?_
          refine XS.goto X6.here hx rfl (pc0 := 33) (pc' := 5) rfl (hb hby d9_33) (by decide) (by decide) ?_
          show Steps p.tables e below (T6.setTop (mkF m 5 #[.val (.ref a9_0), .val (.int (2 : Int32)), .val (.long ((0 : Int64) + t_w_tree_a9_0_1)), .second, .val (.int (0 : Int32))] [])) _
          refine XS.iload X6.here hx rfl (hb hby d9_5) rfl ?_
          show Steps p.tables e below (T6.setTop (mkF m 7 #[.val (.ref a9_0), .val (.int (2 : Int32)), .val (.long ((0 : Int64) + t_w_tree_a9_0_1)), .second, .val (.int (0 : Int32))] [(.int (0 : Int32))])) _
          refine XS.ifYes X6.here hx rfl (pc0 := 7) (pc' := 36) rfl (hb hby d9_7) rfl ((if0 _ _).trans (flt (by decide : ¬ ((0 : Int32) < (0 : Int32)))).2.2.2) (by decide) (by decide) ?_
          refine XS.lloadN X6.here hx rfl (hb hby d9_36) rfl ?_
          show Steps p.tables e below (T6.setTop (mkF m 37 #[.val (.ref a9_0), .val (.int (2 : Int32)), .val (.long ((0 : Int64) + t_w_tree_a9_0_1)), .second, .val (.int (0 : Int32))] [(.long ((0 : Int64) + t_w_tree_a9_0_1))])) _
          exact own_retJ X6 hx Bd.returns (hb hby d9_37) hr
        · show Q_rm9_7 Z a9_0 p9_1 w_tree_a9_0 w_total_a9_0 kc_w_tree_a9_0 t_w_tree_a9_0_0 t_w_tree_a9_0_1 t_w_tree_a9_0_2 t_w_tree_a9_0_3 h0 n0 _ T6.heap _
          rw [e6]
          exact ⟨(congrArg (fun z => some (Value.long z)) ((if_neg hb1).trans ((if_neg hb2).trans (if_pos hb5))).symm), N0, rfl⟩
      · have own_u5 : True := trivial
        by_cases hb8 : p9_1 = (3 : Int32)
        · have own_t8 : True := trivial
          obtain ⟨T9, X9, e9, st9⟩ := getF X0 hx hZ hown (host := "") (Or.inl (ow11 hw)) Via.refl e0 F_tree_a9_0 (g := (mkF m 12 #[.val (.ref a9_0), .val (.int (3 : Int32)), .val (.long (0 : Int64)), .second, .val (.int (3 : Int32))] [(.ref a9_0), (.long (0 : Int64))])) rfl rfl (hb hby d9_12)
          obtain ⟨cl10, Ar10, qk10, Sz10, Nz10, Hh10, Gf10⟩ := id V_w_tree_a9_0
          obtain ⟨T11, X11, e11, st11⟩ := getF X9 hx hZ hown (host := "") (Or.inl (ow11 hw)) Via.refl e9 F_tree_a9_0 (g := (mkF m 12 #[.val (.ref a9_0), .val (.int (3 : Int32)), .val (.long ((0 : Int64) + t_w_tree_a9_0_2)), .second, .val (.int (2 : Int32))] [(.ref a9_0), (.long ((0 : Int64) + t_w_tree_a9_0_2))])) rfl rfl (hb hby d9_12)
          obtain ⟨cl12, Ar12, qk12, Sz12, Nz12, Hh12, Gf12⟩ := id V_w_tree_a9_0
          obtain ⟨x13, hx13⟩ : ∃ z : Int64, z = (((0 : Int64) + t_w_tree_a9_0_2) + t_w_tree_a9_0_1) := ⟨_, rfl⟩
          obtain ⟨fs, hr, hrun, hended, hW, hsame⟩ := X11.leave (v := some (.long x13)) (fun h => by rw [Bd.returns] at h; cases h)
          refine ⟨_, _, pre0 _ ?_, hrun, hended, _, _, rfl, ?_, ⟨_, rfl⟩, hW, hsame.mono (by decide) (by decide)⟩
          · show Steps p.tables e below (s₁.setTop (mkF m 0 #[.val (.ref a9_0), .val (.int p9_1), .unset, .unset, .unset] [])) _
            rw [hb8]
            show Steps p.tables e below (s₁.setTop (mkF m 0 #[.val (.ref a9_0), .val (.int (3 : Int32)), .unset, .unset, .unset] [])) _
            refine XS.lconst X0.here hx rfl (hb hby d9_0) ?_
            refine XS.lstoreN X0.here hx rfl (hb hby d9_1) rfl (l' := #[.val (.ref a9_0), .val (.int (3 : Int32)), .val (.long (0 : Int64)), .second, .unset]) rfl ?_
            refine XS.iloadN X0.here hx rfl (hb hby d9_2) rfl ?_
            show Steps p.tables e below (s₁.setTop (mkF m 3 #[.val (.ref a9_0), .val (.int (3 : Int32)), .val (.long (0 : Int64)), .second, .unset] [(.int (3 : Int32))])) _
            refine XS.istore X0.here hx rfl (hb hby d9_3) rfl (l' := #[.val (.ref a9_0), .val (.int (3 : Int32)), .val (.long (0 : Int64)), .second, .val (.int (3 : Int32))]) rfl ?_
            refine XS.iload X0.here hx rfl (hb hby d9_5) rfl ?_
            show Steps p.tables e below (s₁.setTop (mkF m 7 #[.val (.ref a9_0), .val (.int (3 : Int32)), .val (.long (0 : Int64)), .second, .val (.int (3 : Int32))] [(.int (3 : Int32))])) _
            refine XS.ifNo X0.here hx rfl (hb hby d9_7) rfl ((if0 _ _).trans (tlt (by decide : (0 : Int32) < (3 : Int32))).2.2.2) ?_
            refine XS.lloadN X0.here hx rfl (hb hby d9_10) rfl ?_
            refine XS.aloadN X0.here hx rfl (hb hby d9_11) rfl rfl ?_
            show Steps p.tables e below (s₁.setTop (mkF m 12 #[.val (.ref a9_0), .val (.int (3 : Int32)), .val (.long (0 : Int64)), .second, .val (.int (3 : Int32))] [(.ref a9_0), (.long (0 : Int64))])) _
            refine st9 _ ?_
            refine XS.iload X9.here hx rfl (hb hby d9_15) rfl ?_
            refine XS.iconst X9.here hx rfl (hb hby d9_17) ?_
            show Steps p.tables e below (T9.setTop (mkF m 18 #[.val (.ref a9_0), .val (.int (3 : Int32)), .val (.long (0 : Int64)), .second, .val (.int (3 : Int32))] [(.int (1 : Int32)), (.int (3 : Int32)), (.ref w_tree_a9_0), (.long (0 : Int64))])) _
            refine XS.isub X9.here hx rfl (hb hby d9_18) rfl ?_
            refine X9.laload hx (j := (2 : Int32)) (v := (.long t_w_tree_a9_0_2)) (by rw [e9]; exact Ar10.1) (State.isArrayOf_alike hZ.alike Ar10.2.1) Ar10.2.2 (inb_of Sz10 ⟨by decide, by decide⟩) (Hh10.at (inb_of Sz10 ⟨by decide, by decide⟩) rfl) (g := (mkF m 19 #[.val (.ref a9_0), .val (.int (3 : Int32)), .val (.long (0 : Int64)), .second, .val (.int (3 : Int32))] [(.int (2 : Int32)), (.ref w_tree_a9_0), (.long (0 : Int64))])) rfl rfl (hb hby d9_19) _ ?_
            refine XS.ladd X9.here hx rfl (hb hby d9_20) rfl ?_
            show Steps p.tables e below (T9.setTop (mkF m 21 #[.val (.ref a9_0), .val (.int (3 : Int32)), .val (.long (0 : Int64)), .second, .val (.int (3 : Int32))] [(.long ((0 : Int64) + t_w_tree_a9_0_2))])) _
            refine XS.lstoreN X9.here hx rfl (hb hby d9_21) rfl (l' := #[.val (.ref a9_0), .val (.int (3 : Int32)), .val (.long ((0 : Int64) + t_w_tree_a9_0_2)), .second, .val (.int (3 : Int32))]) rfl ?_
            refine XS.iload X9.here hx rfl (hb hby d9_22) rfl ?_
            refine XS.iload X9.here hx rfl (hb hby d9_24) rfl ?_
            show Steps p.tables e below (T9.setTop (mkF m 26 #[.val (.ref a9_0), .val (.int (3 : Int32)), .val (.long ((0 : Int64) + t_w_tree_a9_0_2)), .second, .val (.int (3 : Int32))] [(.int (3 : Int32)), (.int (3 : Int32))])) _
            refine XS.iload X9.here hx rfl (hb hby d9_26) rfl ?_
            refine XS.ineg X9.here hx rfl (hb hby d9_28) rfl ?_
            refine XS.iand X9.here hx rfl (hb hby d9_29) rfl ?_
            show Steps p.tables e below (T9.setTop (mkF m 30 #[.val (.ref a9_0), .val (.int (3 : Int32)), .val (.long ((0 : Int64) + t_w_tree_a9_0_2)), .second, .val (.int (3 : Int32))] [(.int (1 : Int32)), (.int (3 : Int32))])) _
            refine XS.isub X9.here hx rfl (hb hby d9_30) rfl ?_
            refine XS.istore X9.here hx rfl (hb hby d9_31) rfl (l' := #[.val (.ref a9_0), .val (.int (3 : Int32)), .val (.long ((0 : Int64) + t_w_tree_a9_0_2)), .second, .val (.int (2 : Int32))]) rfl ?_
            refine XS.goto X9.here hx rfl (pc0 := 33) (pc' := 5) rfl (hb hby d9_33) (by decide) (by decide) ?_
            show Steps p.tables e below (T9.setTop (mkF m 5 #[.val (.ref a9_0), .val (.int (3 : Int32)), .val (.long ((0 : Int64) + t_w_tree_a9_0_2)), .second, .val (.int (2 : Int32))] [])) _
            refine XS.iload X9.here hx rfl (hb hby d9_5) rfl ?_
            show Steps p.tables e below (T9.setTop (mkF m 7 #[.val (.ref a9_0), .val (.int (3 : Int32)), .val (.long ((0 : Int64) + t_w_tree_a9_0_2)), .second, .val (.int (2 : Int32))] [(.int (2 : Int32))])) _
            refine XS.ifNo X9.here hx rfl (hb hby d9_7) rfl ((if0 _ _).trans (tlt (by decide : (0 : Int32) < (2 : Int32))).2.2.2) ?_
            refine XS.lloadN X9.here hx rfl (hb hby d9_10) rfl ?_
            refine XS.aloadN X9.here hx rfl (hb hby d9_11) rfl rfl ?_
            show Steps p.tables e below (T9.setTop (mkF m 12 #[.val (.ref a9_0), .val (.int (3 : Int32)), .val (.long ((0 : Int64) + t_w_tree_a9_0_2)), .second, .val (.int (2 : Int32))] [(.ref a9_0), (.long ((0 : Int64) + t_w_tree_a9_0_2))])) _
            refine st11 _ ?_
            refine XS.iload X11.here hx rfl (hb hby d9_15) rfl ?_
            refine XS.iconst X11.here hx rfl (hb hby d9_17) ?_
            show Steps p.tables e below (T11.setTop (mkF m 18 #[.val (.ref a9_0), .val (.int (3 : Int32)), .val (.long ((0 : Int64) + t_w_tree_a9_0_2)), .second, .val (.int (2 : Int32))] [(.int (1 : Int32)), (.int (2 : Int32)), (.ref w_tree_a9_0), (.long ((0 : Int64) + t_w_tree_a9_0_2))])) _
            refine XS.isub X11.here hx rfl (hb hby d9_18) rfl ?_
            refine X11.laload hx (j := (1 : Int32)) (v := (.long t_w_tree_a9_0_1)) (by rw [e11]; exact Ar12.1) (State.isArrayOf_alike hZ.alike Ar12.2.1) Ar12.2.2 (inb_of Sz12 ⟨by decide, by decide⟩) (Hh12.at (inb_of Sz12 ⟨by decide, by decide⟩) rfl) (g := (mkF m 19 #[.val (.ref a9_0), .val (.int (3 : Int32)), .val (.long ((0 : Int64) + t_w_tree_a9_0_2)), .second, .val (.int (2 : Int32))] [(.int (1 : Int32)), (.ref w_tree_a9_0), (.long ((0 : Int64) + t_w_tree_a9_0_2))])) rfl rfl (hb hby d9_19) _ ?_
            refine XS.ladd X11.here hx rfl (hb hby d9_20) rfl ?_
            show Steps p.tables e below (T11.setTop (mkF m 21 #[.val (.ref a9_0), .val (.int (3 : Int32)), .val (.long ((0 : Int64) + t_w_tree_a9_0_2)), .second, .val (.int (2 : Int32))] [(.long (((0 : Int64) + t_w_tree_a9_0_2) + t_w_tree_a9_0_1))])) _
            refine XS.lstoreN X11.here hx rfl (hb hby d9_21) rfl (l' := #[.val (.ref a9_0), .val (.int (3 : Int32)), .val (.long (((0 : Int64) + t_w_tree_a9_0_2) + t_w_tree_a9_0_1)), .second, .val (.int (2 : Int32))]) rfl ?_
            show Steps p.tables e below (T11.setTop (mkF m 22 #[.val (.ref a9_0), .val (.int (3 : Int32)), .val (.long (((0 : Int64) + t_w_tree_a9_0_2) + t_w_tree_a9_0_1)), .second, .val (.int (2 : Int32))] [])) _
            rw [← hx13]
            refine XS.iload X11.here hx rfl (hb hby d9_22) rfl ?_
            refine XS.iload X11.here hx rfl (hb hby d9_24) rfl ?_
            show Steps p.tables e below (T11.setTop (mkF m 26 #[.val (.ref a9_0), .val (.int (3 : Int32)), .val (.long x13), .second, .val (.int (2 : Int32))] [(.int (2 : Int32)), (.int (2 : Int32))])) _
            refine XS.iload X11.here hx rfl (hb hby d9_26) rfl ?_
            refine XS.ineg X11.here hx rfl (hb hby d9_28) rfl ?_
            refine XS.iand X11.here hx rfl (hb hby d9_29) rfl ?_
            show Steps p.tables e below (T11.setTop (mkF m 30 #[.val (.ref a9_0), .val (.int (3 : Int32)), .val (.long x13), .second, .val (.int (2 : Int32))] [(.int (2 : Int32)), (.int (2 : Int32))])) _
            refine XS.isub X11.here hx rfl (hb hby d9_30) rfl ?_
            refine XS.istore X11.here hx rfl (hb hby d9_31) rfl (l' := #[.val (.ref a9_0), .val (.int (3 : Int32)), .val (.long x13), .second, .val (.int (0 : Int32))]) rfl ?_
            refine XS.goto X11.here hx rfl (pc0 := 33) (pc' := 5) rfl (hb hby d9_33) (by decide) (by decide) ?_
            show Steps p.tables e below (T11.setTop (mkF m 5 #[.val (.ref a9_0), .val (.int (3 : Int32)), .val (.long x13), .second, .val (.int (0 : Int32))] [])) _
            refine XS.iload X11.here hx rfl (hb hby d9_5) rfl ?_
            show Steps p.tables e below (T11.setTop (mkF m 7 #[.val (.ref a9_0), .val (.int (3 : Int32)), .val (.long x13), .second, .val (.int (0 : Int32))] [(.int (0 : Int32))])) _
            refine XS.ifYes X11.here hx rfl (pc0 := 7) (pc' := 36) rfl (hb hby d9_7) rfl ((if0 _ _).trans (flt (by decide : ¬ ((0 : Int32) < (0 : Int32)))).2.2.2) (by decide) (by decide) ?_
            refine XS.lloadN X11.here hx rfl (hb hby d9_36) rfl ?_
            show Steps p.tables e below (T11.setTop (mkF m 37 #[.val (.ref a9_0), .val (.int (3 : Int32)), .val (.long x13), .second, .val (.int (0 : Int32))] [(.long x13)])) _
            exact own_retJ X11 hx Bd.returns (hb hby d9_37) hr
          · show Q_rm9_7 Z a9_0 p9_1 w_tree_a9_0 w_total_a9_0 kc_w_tree_a9_0 t_w_tree_a9_0_0 t_w_tree_a9_0_1 t_w_tree_a9_0_2 t_w_tree_a9_0_3 h0 n0 _ T11.heap _
            rw [e11]
            subst hx13
            exact ⟨(congrArg (fun z => some (Value.long z)) ((if_neg hb1).trans ((if_neg hb2).trans ((if_neg hb5).trans (if_pos hb8)))).symm), N0, rfl⟩
        · have own_u8 : True := trivial
          have hl14 : p9_1 = (4 : Int32) := ((((hq.resolve_left hb1).resolve_left hb2).resolve_left hb5).resolve_left hb8)
          obtain ⟨T15, X15, e15, st15⟩ := getF X0 hx hZ hown (host := "") (Or.inl (ow11 hw)) Via.refl e0 F_tree_a9_0 (g := (mkF m 12 #[.val (.ref a9_0), .val (.int (4 : Int32)), .val (.long (0 : Int64)), .second, .val (.int (4 : Int32))] [(.ref a9_0), (.long (0 : Int64))])) rfl rfl (hb hby d9_12)
          obtain ⟨cl16, Ar16, qk16, Sz16, Nz16, Hh16, Gf16⟩ := id V_w_tree_a9_0
          obtain ⟨fs, hr, hrun, hended, hW, hsame⟩ := X15.leave (v := some (.long ((0 : Int64) + t_w_tree_a9_0_3))) (fun h => by rw [Bd.returns] at h; cases h)
          refine ⟨_, _, pre0 _ ?_, hrun, hended, _, _, rfl, ?_, ⟨_, rfl⟩, hW, hsame.mono (by decide) (by decide)⟩
          · show Steps p.tables e below (s₁.setTop (mkF m 0 #[.val (.ref a9_0), .val (.int p9_1), .unset, .unset, .unset] [])) _
            rw [hl14]
            show Steps p.tables e below (s₁.setTop (mkF m 0 #[.val (.ref a9_0), .val (.int (4 : Int32)), .unset, .unset, .unset] [])) _
            refine XS.lconst X0.here hx rfl (hb hby d9_0) ?_
            refine XS.lstoreN X0.here hx rfl (hb hby d9_1) rfl (l' := #[.val (.ref a9_0), .val (.int (4 : Int32)), .val (.long (0 : Int64)), .second, .unset]) rfl ?_
            refine XS.iloadN X0.here hx rfl (hb hby d9_2) rfl ?_
            show Steps p.tables e below (s₁.setTop (mkF m 3 #[.val (.ref a9_0), .val (.int (4 : Int32)), .val (.long (0 : Int64)), .second, .unset] [(.int (4 : Int32))])) _
            refine XS.istore X0.here hx rfl (hb hby d9_3) rfl (l' := #[.val (.ref a9_0), .val (.int (4 : Int32)), .val (.long (0 : Int64)), .second, .val (.int (4 : Int32))]) rfl ?_
            refine XS.iload X0.here hx rfl (hb hby d9_5) rfl ?_
            show Steps p.tables e below (s₁.setTop (mkF m 7 #[.val (.ref a9_0), .val (.int (4 : Int32)), .val (.long (0 : Int64)), .second, .val (.int (4 : Int32))] [(.int (4 : Int32))])) _
            refine XS.ifNo X0.here hx rfl (hb hby d9_7) rfl ((if0 _ _).trans (tlt (by decide : (0 : Int32) < (4 : Int32))).2.2.2) ?_
            refine XS.lloadN X0.here hx rfl (hb hby d9_10) rfl ?_
            refine XS.aloadN X0.here hx rfl (hb hby d9_11) rfl rfl ?_
            show Steps p.tables e below (s₁.setTop (mkF m 12 #[.val (.ref a9_0), .val (.int (4 : Int32)), .val (.long (0 : Int64)), .second, .val (.int (4 : Int32))] [(.ref a9_0), (.long (0 : Int64))])) _
            refine st15 _ ?_
            refine XS.iload X15.here hx rfl (hb hby d9_15) rfl ?_
            refine XS.iconst X15.here hx rfl (hb hby d9_17) ?_
            show Steps p.tables e below (T15.setTop (mkF m 18 #[.val (.ref a9_0), .val (.int (4 : Int32)), .val (.long (0 : Int64)), .second, .val (.int (4 : Int32))] [(.int (1 : Int32)), (.int (4 : Int32)), (.ref w_tree_a9_0), (.long (0 : Int64))])) _
            refine XS.isub X15.here hx rfl (hb hby d9_18) rfl ?_
            refine X15.laload hx (j := (3 : Int32)) (v := (.long t_w_tree_a9_0_3)) (by rw [e15]; exact Ar16.1) (State.isArrayOf_alike hZ.alike Ar16.2.1) Ar16.2.2 (inb_of Sz16 ⟨by decide, by decide⟩) (Hh16.at (inb_of Sz16 ⟨by decide, by decide⟩) rfl) (g := (mkF m 19 #[.val (.ref a9_0), .val (.int (4 : Int32)), .val (.long (0 : Int64)), .second, .val (.int (4 : Int32))] [(.int (3 : Int32)), (.ref w_tree_a9_0), (.long (0 : Int64))])) rfl rfl (hb hby d9_19) _ ?_
            refine XS.ladd X15.here hx rfl (hb hby d9_20) rfl ?_
            show Steps p.tables e below (T15.setTop (mkF m 21 #[.val (.ref a9_0), .val (.int (4 : Int32)), .val (.long (0 : Int64)), .second, .val (.int (4 : Int32))] [(.long ((0 : Int64) + t_w_tree_a9_0_3))])) _
            refine XS.lstoreN X15.here hx rfl (hb hby d9_21) rfl (l' := #[.val (.ref a9_0), .val (.int (4 : Int32)), .val (.long ((0 : Int64) + t_w_tree_a9_0_3)), .second, .val (.int (4 : Int32))]) rfl ?_
            refine XS.iload X15.here hx rfl (hb hby d9_22) rfl ?_
            refine XS.iload X15.here hx rfl (hb hby d9_24) rfl ?_
            show Steps p.tables e below (T15.setTop (mkF m 26 #[.val (.ref a9_0), .val (.int (4 : Int32)), .val (.long ((0 : Int64) + t_w_tree_a9_0_3)), .second, .val (.int (4 : Int32))] [(.int (4 : Int32)), (.int (4 : Int32))])) _
            refine XS.iload X15.here hx rfl (hb hby d9_26) rfl ?_
            refine XS.ineg X15.here hx rfl (hb hby d9_28) rfl ?_
            refine XS.iand X15.here hx rfl (hb hby d9_29) rfl ?_
            show Steps p.tables e below (T15.setTop (mkF m 30 #[.val (.ref a9_0), .val (.int (4 : Int32)), .val (.long ((0 : Int64) + t_w_tree_a9_0_3)), .second, .val (.int (4 : Int32))] [(.int (4 : Int32)), (.int (4 : Int32))])) _
            refine XS.isub X15.here hx rfl (hb hby d9_30) rfl ?_
            refine XS.istore X15.here hx rfl (hb hby d9_31) rfl (l' := #[.val (.ref a9_0), .val (.int (4 : Int32)), .val (.long ((0 : Int64) + t_w_tree_a9_0_3)), .second, .val (.int (0 : Int32))]) rfl ?_
            refine XS.goto X15.here hx rfl (pc0 := 33) (pc' := 5) rfl (hb hby d9_33) (by decide) (by decide) ?_
            show Steps p.tables e below (T15.setTop (mkF m 5 #[.val (.ref a9_0), .val (.int (4 : Int32)), .val (.long ((0 : Int64) + t_w_tree_a9_0_3)), .second, .val (.int (0 : Int32))] [])) _
            refine XS.iload X15.here hx rfl (hb hby d9_5) rfl ?_
            show Steps p.tables e below (T15.setTop (mkF m 7 #[.val (.ref a9_0), .val (.int (4 : Int32)), .val (.long ((0 : Int64) + t_w_tree_a9_0_3)), .second, .val (.int (0 : Int32))] [(.int (0 : Int32))])) _
            refine XS.ifYes X15.here hx rfl (pc0 := 7) (pc' := 36) rfl (hb hby d9_7) rfl ((if0 _ _).trans (flt (by decide : ¬ ((0 : Int32) < (0 : Int32)))).2.2.2) (by decide) (by decide) ?_
            refine XS.lloadN X15.here hx rfl (hb hby d9_36) rfl ?_
            show Steps p.tables e below (T15.setTop (mkF m 37 #[.val (.ref a9_0), .val (.int (4 : Int32)), .val (.long ((0 : Int64) + t_w_tree_a9_0_3)), .second, .val (.int (0 : Int32))] [(.long ((0 : Int64) + t_w_tree_a9_0_3))])) _
            exact own_retJ X15 hx Bd.returns (hb hby d9_37) hr
          · show Q_rm9_7 Z a9_0 p9_1 w_tree_a9_0 w_total_a9_0 kc_w_tree_a9_0 t_w_tree_a9_0_0 t_w_tree_a9_0_1 t_w_tree_a9_0_2 t_w_tree_a9_0_3 h0 n0 _ T15.heap _
            rw [e15]
            exact ⟨(congrArg (fun z => some (Value.long z)) ((if_neg hb1).trans ((if_neg hb2).trans ((if_neg hb5).trans (if_neg hb8)))).symm), N0, rfl⟩
theorem own_fin5 (q0_0 : Int64) (q0_1 : Int64) (q0_2 : Int64) (q0_3 : Int64) (q0_4 : Int64) (p0_5 : Int32) (x2 : Int64) (hx2 : x2 = (q0_0 &&& (9223372036854775807 : Int64))) (x4 : Int64) (hx4 : x4 = (q0_1 &&& (9223372036854775807 : Int64))) (x6 : Int64) (hx6 : x6 = (q0_2 &&& (9223372036854775807 : Int64))) (x8 : Int64) (hx8 : x8 = (q0_3 &&& (9223372036854775807 : Int64))) (x10 : Int64) (hx10 : x10 = (q0_4 &&& (9223372036854775807 : Int64))) (x12 : Int32) (hx12 : x12 = ((p0_5 &&& (7 : Int32)) % (6 : Int32))) (x212 : Int32) (hx212 : x212 = ((((p0_5.toUInt32 >>> ((3 : Int32) &&& 31).toUInt32).toInt32) &&& (7 : Int32)) % (5 : Int32))) (y218 : Int64) (hy218 : y218 = ((0 : Int64) + x2)) (y221 : Int64) (hy221 : y221 = (((0 : Int64) + x2) + x4)) (y222 : Int64) (hy222 : y222 = ((((0 : Int64) + x2) - (0 : Int64)) + x4)) (y226 : Int64) (hy226 : y226 = ((0 : Int64) + x6)) (y227 : Int64) (hy227 : y227 = ((y221 - (0 : Int64)) + x6)) (y229 : Int64) (hy229 : y229 = (y227 + x8)) (v234 : Int64) (hv234 : v234 = (if (0 : Int32) < x212 then ((0 : Int64) + x2) else (0 : Int64))) (v240 : Int64) (hv240 : v240 = (if (1 : Int32) < x212 then (v234 + x4) else v234)) (v246 : Int64) (hv246 : v246 = (if (2 : Int32) < x212 then (v240 + x6) else v240)) (v252 : Int64) (hv252 : v252 = (if (3 : Int32) < x212 then (v246 + x8) else v246)) (v258 : Int64) (hv258 : v258 = (if (4 : Int32) < x212 then (v252 + x10) else v252)) (x262 : Int64) (hx262 : x262 = (if x212 = (0 : Int32) then (0 : Int64) else (if x212 = (1 : Int32) then ((0 : Int64) + y218) else (if x212 = (2 : Int32) then ((0 : Int64) + y222) else (if x212 = (3 : Int32) then (((0 : Int64) + y226) + y222) else ((0 : Int64) + y229)))))) (v265 : Int32) (hv265 : v265 = (if x262 = v258 then (1 : Int32) else (0 : Int32))) (hc19 : x12 = (4 : Int32)) : v265 = (1 : Int32) := by
  have hp := own_p5 ((p0_5.toUInt32 >>> ((3 : Int32) &&& 31).toUInt32).toInt32) x212 hx212
  clear hx212
  have e : x262 = v258 := by
    clear hv265
    simp only [hy218, hy221, hy222, hy226, hy227, hy229, hv234, hv240, hv246, hv252, hv258, hx262]
    rcases hp with rfl | rfl | rfl | rfl | rfl <;> first | (simp +decide only [↓reduceIte] <;> first | rfl | grind) | (simp +decide <;> grind) | grind
  rw [hv265, if_pos e]
theorem ef_rm5_4 (m : MethodId)  : entryFrame m #[(.int (5 : Int32)), (.int (8 : Int32))] 2 = mkF m 0 #[.val (.int (5 : Int32)), .val (.int (8 : Int32))] [] := by first | (simp [entryFrame, mkF, argsToLocals, Value.category]; done) | rfl
def Q_rm5_4 (Z : State)  (h0 : Heap) (n0 : Nat) (v : Option Value) (h : Heap) (L : List Loc) : Prop := v = some (.int (8 : Int32)) ∧ Fr n0 L ∧ h = h0
set_option maxRecDepth 65536 in
set_option maxHeartbeats 40000000 in
theorem rm5_4 (l : Launch) (Z : State) (a0 : Array Value) (hw : ∀ d ∈ tables_1, d.before a0 Z = true) (ws : List Jvm.Cond)  (h0 : Heap) (n0 : Nat) (Z0 : n0 ≤ h0.size) :
    MetFree l (⟨"java/lang/Math", "max", "(II)I"⟩ : MethodName) (head1 (Jvm.Cond.code (⟨"java/lang/Math", "max", "(II)I"⟩ : MethodName) jdk_29_method_65_code 2 (some .int) :: ws) ({ frames := 0, cells := 0, slots := 0, locals := 0 } : Room)) (fun a U => a = #[(.int (5 : Int32)), (.int (8 : Int32))] ∧ Z.Warmed39 U.vm ∧ U.heap = h0) (fun _ _ _ _ _ => True) (fun _ U o U' => ∃ v L, o = .returned v ∧ Q_rm5_4 Z  h0 n0 v U'.heap L ∧ FrameEnd U o U' L ({ frames := 0, cells := 0, slots := 0, locals := 0 } : Room).cells ({ frames := 0, cells := 0, slots := 0, locals := 0 } : Room).slots) := by
  refine MetFree.of_bodySF (Jvm.Free.JP.mathPlain rfl (by decide +kernel)) hisR ?_
  intro p e s m args below meth c s₁ Bd hml0 hP hK
  obtain ⟨rfl, hZ, hh⟩ := hP
  have hx := Bd.exec
  have hby := Bd.bytes
  have hml : c.maxLocals = 2 := hml0
  have hown : s.vm.findClass "java/lang/Math" = some m.cls := findClass_of_methodNamed Bd.named
  have hnm := (name_of_methodNamed Bd.named Bd.method).1
  have X0 : Stand p l e ({ frames := 0, cells := 0, slots := 0, locals := 0 } : Room) s m #[(.int (5 : Int32)), (.int (8 : Int32))] below meth c s₁ [] 0 0 := Stand.of_body Bd
  have e0 : s₁.heap = h0 := by rw [← hh, Bd.state]; rfl
  have N0 := Fr.nil n0
  have pre0 : ∀ t, Steps p.tables e below (s₁.setTop (mkF m 0 #[.val (.int (5 : Int32)), .val (.int (8 : Int32))] [])) t → Steps p.tables e below (s₁.setTop (entryFrame m #[(.int (5 : Int32)), (.int (8 : Int32))] 2)) t := fun t k => castTop (ef_rm5_4 m ) k
  obtain ⟨fs, hr, hrun, hended, hW, hsame⟩ := X0.leave (v := some (.int (8 : Int32))) (fun h => by rw [Bd.returns] at h; cases h)
  refine ⟨_, _, pre0 _ ?_, hrun, hended, _, _, rfl, ?_, ⟨_, rfl⟩, hW, hsame.mono (by decide) (by decide)⟩
  · show Steps p.tables e below (s₁.setTop (mkF m 0 #[.val (.int (5 : Int32)), .val (.int (8 : Int32))] [])) _
    refine XS.iloadN X0.here hx rfl (hb hby d5_0) rfl ?_
    refine XS.iloadN X0.here hx rfl (hb hby d5_1) rfl ?_
    show Steps p.tables e below (s₁.setTop (mkF m 2 #[.val (.int (5 : Int32)), .val (.int (8 : Int32))] [(.int (8 : Int32)), (.int (5 : Int32))])) _
    refine XS.icmpYes X0.here hx rfl (pc0 := 2) (pc' := 9) rfl (hb hby d5_2) rfl (tlt (by decide : (5 : Int32) < (8 : Int32))).1 (by decide) (by decide) ?_
    refine XS.iloadN X0.here hx rfl (hb hby d5_9) rfl ?_
    show Steps p.tables e below (s₁.setTop (mkF m 10 #[.val (.int (5 : Int32)), .val (.int (8 : Int32))] [(.int (8 : Int32))])) _
    exact retI X0 hx Bd.returns (hb hby d5_10) hr
  · show Q_rm5_4 Z  h0 n0 _ s₁.heap _
    rw [e0]
    exact ⟨rfl, N0, rfl⟩
theorem ef_rm7_4 (m : MethodId)  : entryFrame m #[(.int (4 : Int32)), (.int (8 : Int32))] 2 = mkF m 0 #[.val (.int (4 : Int32)), .val (.int (8 : Int32))] [] := by first | (simp [entryFrame, mkF, argsToLocals, Value.category]; done) | rfl
def Q_rm7_4 (Z : State)  (h0 : Heap) (n0 : Nat) (v : Option Value) (h : Heap) (L : List Loc) : Prop := v = some (.int (4 : Int32)) ∧ Fr n0 L ∧ h = h0
set_option maxRecDepth 65536 in
set_option maxHeartbeats 40000000 in
theorem rm7_4 (l : Launch) (Z : State) (a0 : Array Value) (hw : ∀ d ∈ tables_1, d.before a0 Z = true) (ws : List Jvm.Cond)  (h0 : Heap) (n0 : Nat) (Z0 : n0 ≤ h0.size) :
    MetFree l (⟨"java/lang/Math", "min", "(II)I"⟩ : MethodName) (head1 (Jvm.Cond.code (⟨"java/lang/Math", "min", "(II)I"⟩ : MethodName) jdk_29_method_69_code 2 (some .int) :: ws) ({ frames := 0, cells := 0, slots := 0, locals := 0 } : Room)) (fun a U => a = #[(.int (4 : Int32)), (.int (8 : Int32))] ∧ Z.Warmed39 U.vm ∧ U.heap = h0) (fun _ _ _ _ _ => True) (fun _ U o U' => ∃ v L, o = .returned v ∧ Q_rm7_4 Z  h0 n0 v U'.heap L ∧ FrameEnd U o U' L ({ frames := 0, cells := 0, slots := 0, locals := 0 } : Room).cells ({ frames := 0, cells := 0, slots := 0, locals := 0 } : Room).slots) := by
  refine MetFree.of_bodySF (Jvm.Free.JP.mathPlain rfl (by decide +kernel)) hisR ?_
  intro p e s m args below meth c s₁ Bd hml0 hP hK
  obtain ⟨rfl, hZ, hh⟩ := hP
  have hx := Bd.exec
  have hby := Bd.bytes
  have hml : c.maxLocals = 2 := hml0
  have hown : s.vm.findClass "java/lang/Math" = some m.cls := findClass_of_methodNamed Bd.named
  have hnm := (name_of_methodNamed Bd.named Bd.method).1
  have X0 : Stand p l e ({ frames := 0, cells := 0, slots := 0, locals := 0 } : Room) s m #[(.int (4 : Int32)), (.int (8 : Int32))] below meth c s₁ [] 0 0 := Stand.of_body Bd
  have e0 : s₁.heap = h0 := by rw [← hh, Bd.state]; rfl
  have N0 := Fr.nil n0
  have pre0 : ∀ t, Steps p.tables e below (s₁.setTop (mkF m 0 #[.val (.int (4 : Int32)), .val (.int (8 : Int32))] [])) t → Steps p.tables e below (s₁.setTop (entryFrame m #[(.int (4 : Int32)), (.int (8 : Int32))] 2)) t := fun t k => castTop (ef_rm7_4 m ) k
  obtain ⟨fs, hr, hrun, hended, hW, hsame⟩ := X0.leave (v := some (.int (4 : Int32))) (fun h => by rw [Bd.returns] at h; cases h)
  refine ⟨_, _, pre0 _ ?_, hrun, hended, _, _, rfl, ?_, ⟨_, rfl⟩, hW, hsame.mono (by decide) (by decide)⟩
  · show Steps p.tables e below (s₁.setTop (mkF m 0 #[.val (.int (4 : Int32)), .val (.int (8 : Int32))] [])) _
    refine XS.iloadN X0.here hx rfl (hb hby d7_0) rfl ?_
    refine XS.iloadN X0.here hx rfl (hb hby d7_1) rfl ?_
    show Steps p.tables e below (s₁.setTop (mkF m 2 #[.val (.int (4 : Int32)), .val (.int (8 : Int32))] [(.int (8 : Int32)), (.int (4 : Int32))])) _
    refine XS.icmpNo X0.here hx rfl (hb hby d7_2) rfl (flt (by decide : ¬ ((8 : Int32) < (4 : Int32)))).2.2.1 ?_
    refine XS.iloadN X0.here hx rfl (hb hby d7_5) rfl ?_
    refine XS.goto X0.here hx rfl (pc0 := 6) (pc' := 10) rfl (hb hby d7_6) (by decide) (by decide) ?_
    show Steps p.tables e below (s₁.setTop (mkF m 10 #[.val (.int (4 : Int32)), .val (.int (8 : Int32))] [(.int (4 : Int32))])) _
    exact retI X0 hx Bd.returns (hb hby d7_10) hr
  · show Q_rm7_4 Z  h0 n0 _ s₁.heap _
    rw [e0]
    exact ⟨rfl, N0, rfl⟩
theorem ef_rm6_4 (m : MethodId) (y0 : Addr) : entryFrame m #[(.ref y0), (.int (8 : Int32))] 3 = mkF m 0 #[.val (.ref y0), .val (.int (8 : Int32)), .unset] [] := by first | (simp [entryFrame, mkF, argsToLocals, Value.category]; done) | rfl
def Q_rm6_4 (Z : State) (a6_0 : Addr) (kc_a6_0 : ClassId) (t_a6_0_0 : Int64) (t_a6_0_1 : Int64) (t_a6_0_2 : Int64) (t_a6_0_3 : Int64) (h0 : Heap) (n0 : Nat) (v : Option Value) (h : Heap) (L : List Loc) : Prop := ∃ bx6_0 : Addr, ∃ kx6_0 : ClassId, v = some (.ref bx6_0) ∧ Fr n0 L ∧ Keep h0 h [] ∧ h0.size ≤ bx6_0 ∧ Arv Z h bx6_0 kx6_0 .long (8 : Int32) [(.long t_a6_0_0), (.long t_a6_0_1), (.long t_a6_0_2), (.long t_a6_0_3), (.long (0 : Int64)), (.long (0 : Int64)), (.long (0 : Int64)), (.long (0 : Int64))] (.long (0 : Int64))
set_option maxRecDepth 65536 in
set_option maxHeartbeats 40000000 in
theorem rm6_4 (l : Launch) (Z : State) (a0 : Array Value) (hw : ∀ d ∈ tables_1, d.before a0 Z = true) (ws : List Jvm.Cond) (a6_0 : Addr) (kc_a6_0 : ClassId) (t_a6_0_0 : Int64) (t_a6_0_1 : Int64) (t_a6_0_2 : Int64) (t_a6_0_3 : Int64) (h0 : Heap) (n0 : Nat) (Z0 : n0 ≤ h0.size) (V_a6_0 : Arv Z h0 a6_0 kc_a6_0 .long (4 : Int32) [(.long t_a6_0_0), (.long t_a6_0_1), (.long t_a6_0_2), (.long t_a6_0_3)] (.long (0 : Int64))) :
    MetFree l (⟨"java/util/Arrays", "copyOf", "([JI)[J"⟩ : MethodName) (head1 (Jvm.Cond.code (⟨"java/util/Arrays", "copyOf", "([JI)[J"⟩ : MethodName) jdk_65_method_124_code 3 (some (.array .long)) :: ws) ({ frames := 1, cells := 1, slots := 8, locals := 18 } : Room)) (fun a U => a = #[(.ref a6_0), (.int (8 : Int32))] ∧ Z.Warmed39 U.vm ∧ U.heap = h0) (fun _ _ _ _ _ => True) (fun _ U o U' => ∃ v L, o = .returned v ∧ Q_rm6_4 Z a6_0 kc_a6_0 t_a6_0_0 t_a6_0_1 t_a6_0_2 t_a6_0_3 h0 n0 v U'.heap L ∧ FrameEnd U o U' L ({ frames := 1, cells := 1, slots := 8, locals := 18 } : Room).cells ({ frames := 1, cells := 1, slots := 8, locals := 18 } : Room).slots) := by
  refine MetFree.of_bodySF (plainFor_of_name pn_6) hisR ?_
  intro p e s m args below meth c s₁ Bd hml0 hP hK
  obtain ⟨rfl, hZ, hh⟩ := hP
  have hx := Bd.exec
  have hby := Bd.bytes
  have hml : c.maxLocals = 3 := hml0
  have hown : s.vm.findClass "java/util/Arrays" = some m.cls := findClass_of_methodNamed Bd.named
  have hnm := (name_of_methodNamed Bd.named Bd.method).1
  have X0 : Stand p l e ({ frames := 1, cells := 1, slots := 8, locals := 18 } : Room) s m #[(.ref a6_0), (.int (8 : Int32))] below meth c s₁ [] 0 0 := Stand.of_body Bd
  have e0 : s₁.heap = h0 := by rw [← hh, Bd.state]; rfl
  have N0 := Fr.nil n0
  have pre0 : ∀ t, Steps p.tables e below (s₁.setTop (mkF m 0 #[.val (.ref a6_0), .val (.int (8 : Int32)), .unset] [])) t → Steps p.tables e below (s₁.setTop (entryFrame m #[(.ref a6_0), (.int (8 : Int32))] 3)) t := fun t k => castTop (ef_rm6_4 m a6_0) k
  obtain ⟨cl1, Ar1, qk1, Sz1, Nz1, Hh1, Gf1⟩ := id V_a6_0
  obtain ⟨T2, h2, k2, X2, e2, E2, A2, st2⟩ := newP X0 hx hZ (aty := .long) (ow10 hw) e0 (g := (mkF m 15 #[.val (.ref a6_0), .val (.int (8 : Int32)), .unset] [(.int (8 : Int32))])) rfl (hb hby d6_15) rfl (by decide) (cap := 8) (by decide) (by decide) (by decide) (by decide)
  obtain ⟨b2, g2⟩ : ∃ z, z = h0.size := ⟨_, rfl⟩
  rw [← g2] at A2 st2
  have ne_a6_0_b2 : a6_0 ≠ b2 := Nat.ne_of_lt (Nat.lt_of_lt_of_le V_a6_0.lt (Nat.le_of_eq g2.symm))
  have V_b2 : Arv Z h2 b2 k2 .long (8 : Int32) [(.long (0 : Int64)), (.long (0 : Int64)), (.long (0 : Int64)), (.long (0 : Int64)), (.long (0 : Int64)), (.long (0 : Int64)), (.long (0 : Int64)), (.long (0 : Int64))] (.long (0 : Int64)) := (Arv.new A2 (by decide)).pad (pad_rep [] (.long (0 : Int64)) 8)
  have g_b2 : n0 ≤ b2 := Nat.le_trans Z0 (Nat.le_of_eq g2.symm)
  have sz_b2 : h0.size ≤ b2 := Nat.le_trans (Nat.le_refl _) (Nat.le_of_eq g2.symm)
  have K2 : Keep h0 h2 [] := (Keep.refl h0 []).ext E2
  have Z2 : n0 ≤ h2.size := Nat.le_trans Z0 K2.1
  have f3 := (V_a6_0.ext E2)
  obtain ⟨cl4, Ar4, qk4, Sz4, Nz4, Hh4, Gf4⟩ := id f3
  obtain ⟨_, _, ⟨T5, L5, k5, n5⟩, -, X5, ⟨Lc5, hQ5, l5, y5, z5⟩, st5⟩ := Jvm.LawKit.callS X2 hx (y := (⟨"java/lang/Math", "min", "(II)I"⟩ : MethodName)) hown (mvT hZ (ow33 hw)) (mvT hZ (ow34 hw)) (mvT hZ (ow27 hw)) (mvT hZ (ow35 hw)) (by decide) (backOf (W := 4) (rm7_4 l Z a0 hw []  h2 n0 Z2 ) hZ (ow35 hw) (ow27 hw) (by decide) (by decide)) (g := (mkF m 25 #[.val (.ref a6_0), .val (.int (8 : Int32)), .val (.ref b2)] [(.int (8 : Int32)), (.int (4 : Int32)), (.int (0 : Int32)), (.ref b2), (.int (0 : Int32)), (.ref a6_0)])) rfl (by rw [hml]; rfl) (argsL := [(.int (4 : Int32)), (.int (8 : Int32))]) (rest := [(.int (0 : Int32)), (.ref b2), (.int (0 : Int32)), (.ref a6_0)]) (lenOf pd__II_I rfl) rfl (by show 2 * 0 + _ ≤ _; exact Nat.le_of_eq rfl) (hb hby d6_25) (fun _ _ => ⟨rfl, e2, (by decide : 1 + 0 ≤ _), (by decide : 8 + 0 ≤ _)⟩)
  dsimp only [Pt.U, Pt.locs, Pt.cells, Pt.slots] at X5 l5 y5 z5 st5 hQ5
  subst l5 y5 z5
  obtain ⟨rfl, Nq5, e5⟩ := hQ5
  have N5 := Fr.app N0 Nq5
  obtain ⟨T6, h6, Lo6, X6, e6, N6, Kc6, V6, st6⟩ := cpA X5 hx hZ hown (ow36 hw) (ow39 hw) (ow37 hw) (ow38 hw) e5 f3 V_b2 (Or.inl ⟨rfl, rfl⟩) (sp := (0 : Int32)) (dp := (0 : Int32)) (nn := (4 : Int32)) (us := [(.long t_a6_0_0), (.long t_a6_0_1), (.long t_a6_0_2), (.long t_a6_0_3)]) (by decide) (by decide) (by decide) (by decide) (by decide) rfl (Nat.le_of_ble_eq_true rfl) N5 g_b2 (g := (mkF m 28 #[.val (.ref a6_0), .val (.int (8 : Int32)), .val (.ref b2)] [(.int (4 : Int32)), (.int (0 : Int32)), (.ref b2), (.int (0 : Int32)), (.ref a6_0)])) rfl (by rw [hml]; rfl) rfl (hb hby d6_28) (by decide) (W := 0) (by show 2 * 0 + _ ≤ _; exact Nat.le_of_eq rfl) (by decide)
  have V6 : Arv Z h6 b2 k2 .long (8 : Int32) [(.long t_a6_0_0), (.long t_a6_0_1), (.long t_a6_0_2), (.long t_a6_0_3), (.long (0 : Int64)), (.long (0 : Int64)), (.long (0 : Int64)), (.long (0 : Int64))] (.long (0 : Int64)) := V6
  have K6 : Keep h0 h6 [] := Keep.trans K2 Kc6 (allS (P := fun x => x ∈ ([] : List Addr) ∨ h0.size ≤ x) (Or.inr sz_b2) all0)
  have Z6 : n0 ≤ h6.size := Nat.le_trans Z0 K6.1
  obtain ⟨fs, hr, hrun, hended, hW, hsame⟩ := X6.leave (v := some (.ref b2)) (fun h => by rw [Bd.returns] at h; cases h)
  refine ⟨_, _, pre0 _ ?_, hrun, hended, _, _, rfl, ?_, ⟨_, rfl⟩, hW, hsame.mono (by decide) (by decide)⟩
  · show Steps p.tables e below (s₁.setTop (mkF m 0 #[.val (.ref a6_0), .val (.int (8 : Int32)), .unset] [])) _
    refine XS.iloadN X0.here hx rfl (hb hby d6_0) rfl ?_
    refine XS.aloadN X0.here hx rfl (hb hby d6_1) rfl rfl ?_
    show Steps p.tables e below (s₁.setTop (mkF m 2 #[.val (.ref a6_0), .val (.int (8 : Int32)), .unset] [(.ref a6_0), (.int (8 : Int32))])) _
    refine X0.arraylength hx (cell := cl1) (by rw [e0]; exact Ar1.1) (State.isArrayOf_alike hZ.alike Ar1.2.1) (g := (mkF m 2 #[.val (.ref a6_0), .val (.int (8 : Int32)), .unset] [(.ref a6_0), (.int (8 : Int32))])) rfl (rest := [(.int (8 : Int32))]) rfl (hb hby d6_2) _ ?_
    rw [len_of Sz1 Nz1]
    show Steps p.tables e below (s₁.setTop (mkF m 3 #[.val (.ref a6_0), .val (.int (8 : Int32)), .unset] [(.int (4 : Int32)), (.int (8 : Int32))])) _
    refine XS.icmpYes X0.here hx rfl (pc0 := 3) (pc' := 14) rfl (hb hby d6_3) rfl (feq (by decide : ¬ ((8 : Int32) = (4 : Int32)))).2 (by decide) (by decide) ?_
    refine XS.iloadN X0.here hx rfl (hb hby d6_14) rfl ?_
    refine st2 _ ?_
    show Steps p.tables e below (T2.setTop (mkF m 17 #[.val (.ref a6_0), .val (.int (8 : Int32)), .unset] [(.ref b2)])) _
    refine XS.astoreN X2.here hx rfl (hb hby d6_17) rfl rfl (l' := #[.val (.ref a6_0), .val (.int (8 : Int32)), .val (.ref b2)]) rfl ?_
    refine XS.aloadN X2.here hx rfl (hb hby d6_18) rfl rfl ?_
    refine XS.iconst X2.here hx rfl (hb hby d6_19) ?_
    show Steps p.tables e below (T2.setTop (mkF m 20 #[.val (.ref a6_0), .val (.int (8 : Int32)), .val (.ref b2)] [(.int (0 : Int32)), (.ref a6_0)])) _
    refine XS.aloadN X2.here hx rfl (hb hby d6_20) rfl rfl ?_
    refine XS.iconst X2.here hx rfl (hb hby d6_21) ?_
    refine XS.aloadN X2.here hx rfl (hb hby d6_22) rfl rfl ?_
    show Steps p.tables e below (T2.setTop (mkF m 23 #[.val (.ref a6_0), .val (.int (8 : Int32)), .val (.ref b2)] [(.ref a6_0), (.int (0 : Int32)), (.ref b2), (.int (0 : Int32)), (.ref a6_0)])) _
    refine X2.arraylength hx (cell := cl4) (by rw [e2]; exact Ar4.1) (State.isArrayOf_alike hZ.alike Ar4.2.1) (g := (mkF m 23 #[.val (.ref a6_0), .val (.int (8 : Int32)), .val (.ref b2)] [(.ref a6_0), (.int (0 : Int32)), (.ref b2), (.int (0 : Int32)), (.ref a6_0)])) rfl (rest := [(.int (0 : Int32)), (.ref b2), (.int (0 : Int32)), (.ref a6_0)]) rfl (hb hby d6_23) _ ?_
    rw [len_of Sz4 Nz4]
    refine XS.iloadN X2.here hx rfl (hb hby d6_24) rfl ?_
    show Steps p.tables e below (T2.setTop (mkF m 25 #[.val (.ref a6_0), .val (.int (8 : Int32)), .val (.ref b2)] [(.int (8 : Int32)), (.int (4 : Int32)), (.int (0 : Int32)), (.ref b2), (.int (0 : Int32)), (.ref a6_0)])) _
    refine st5 _ ?_
    refine st6 _ ?_
    refine XS.aloadN X6.here hx rfl (hb hby d6_31) rfl rfl ?_
    show Steps p.tables e below (T6.setTop (mkF m 32 #[.val (.ref a6_0), .val (.int (8 : Int32)), .val (.ref b2)] [(.ref b2)])) _
    jvm_step X6.here [X6.here.top, hx, (hb hby d6_32), X6.method', Bd.returns, Value.isRef, FieldType.isReference]
    first | (intro acts; rw [hr _ acts rfl rfl rfl]) | rw [hr _ _ rfl rfl rfl]
    exact Steps.refl _
  · show Q_rm6_4 Z a6_0 kc_a6_0 t_a6_0_0 t_a6_0_1 t_a6_0_2 t_a6_0_3 h0 n0 _ T6.heap _
    rw [e6]
    exact ⟨b2, k2, rfl, N6, K6, sz_b2, V6⟩
theorem ef_rm9_8 (m : MethodId) (y0 : Addr) : entryFrame m #[(.ref y0), (.int (0 : Int32))] 5 = mkF m 0 #[.val (.ref y0), .val (.int (0 : Int32)), .unset, .unset, .unset] [] := by first | (simp [entryFrame, mkF, argsToLocals, Value.category]; done) | rfl
def Q_rm9_8 (Z : State) (a9_0 : Addr) (w_tree_a9_0 : Addr) (w_total_a9_0 : Int64) (kc_w_tree_a9_0 : ClassId) (t_w_tree_a9_0_0 : Int64) (t_w_tree_a9_0_1 : Int64) (t_w_tree_a9_0_2 : Int64) (t_w_tree_a9_0_3 : Int64) (h0 : Heap) (n0 : Nat) (v : Option Value) (h : Heap) (L : List Loc) : Prop := v = some (.long (0 : Int64)) ∧ Fr n0 L ∧ h = h0
set_option maxRecDepth 65536 in
set_option maxHeartbeats 40000000 in
theorem rm9_8 (l : Launch) (Z : State) (a0 : Array Value) (hw : ∀ d ∈ tables_1, d.before a0 Z = true) (ws : List Jvm.Cond) (a9_0 : Addr) (w_tree_a9_0 : Addr) (w_total_a9_0 : Int64) (kc_w_tree_a9_0 : ClassId) (t_w_tree_a9_0_0 : Int64) (t_w_tree_a9_0_1 : Int64) (t_w_tree_a9_0_2 : Int64) (t_w_tree_a9_0_3 : Int64) (h0 : Heap) (n0 : Nat) (Z0 : n0 ≤ h0.size) (E_a9_0 : Exa Z h0 a9_0 "com/example/motley/motley/CountTree") (F_tree_a9_0 : Fld Z h0 a9_0 "com/example/motley/motley/CountTree" "tree" "[J" (.ref w_tree_a9_0)) (F_size_a9_0 : Fld Z h0 a9_0 "com/example/motley/motley/CountTree" "size" "I" (.int (4 : Int32))) (F_total_a9_0 : Fld Z h0 a9_0 "com/example/motley/motley/CountTree" "total" "J" (.long w_total_a9_0)) (V_w_tree_a9_0 : Arv Z h0 w_tree_a9_0 kc_w_tree_a9_0 .long (4 : Int32) [(.long t_w_tree_a9_0_0), (.long t_w_tree_a9_0_1), (.long t_w_tree_a9_0_2), (.long t_w_tree_a9_0_3)] (.long (0 : Int64))) :
    MetFree l (⟨"com/example/motley/motley/CountTree", "sumBefore", "(I)J"⟩ : MethodName) (head1 (Jvm.Cond.code (⟨"com/example/motley/motley/CountTree", "sumBefore", "(I)J"⟩ : MethodName) prog_14_method_8_code 5 (some .long) :: ws) ({ frames := 0, cells := 0, slots := 0, locals := 0 } : Room)) (fun a U => a = #[(.ref a9_0), (.int (0 : Int32))] ∧ Z.Warmed39 U.vm ∧ U.heap = h0) (fun _ _ _ _ _ => True) (fun _ U o U' => ∃ v L, o = .returned v ∧ Q_rm9_8 Z a9_0 w_tree_a9_0 w_total_a9_0 kc_w_tree_a9_0 t_w_tree_a9_0_0 t_w_tree_a9_0_1 t_w_tree_a9_0_2 t_w_tree_a9_0_3 h0 n0 v U'.heap L ∧ FrameEnd U o U' L ({ frames := 0, cells := 0, slots := 0, locals := 0 } : Room).cells ({ frames := 0, cells := 0, slots := 0, locals := 0 } : Room).slots) := by
  refine MetFree.of_bodySF (plainFor_of_name pn_9) hisR ?_
  intro p e s m args below meth c s₁ Bd hml0 hP hK
  obtain ⟨rfl, hZ, hh⟩ := hP
  have hx := Bd.exec
  have hby := Bd.bytes
  have hml : c.maxLocals = 5 := hml0
  have hown : s.vm.findClass "com/example/motley/motley/CountTree" = some m.cls := findClass_of_methodNamed Bd.named
  have hnm := (name_of_methodNamed Bd.named Bd.method).1
  have X0 : Stand p l e ({ frames := 0, cells := 0, slots := 0, locals := 0 } : Room) s m #[(.ref a9_0), (.int (0 : Int32))] below meth c s₁ [] 0 0 := Stand.of_body Bd
  have e0 : s₁.heap = h0 := by rw [← hh, Bd.state]; rfl
  have N0 := Fr.nil n0
  have pre0 : ∀ t, Steps p.tables e below (s₁.setTop (mkF m 0 #[.val (.ref a9_0), .val (.int (0 : Int32)), .unset, .unset, .unset] [])) t → Steps p.tables e below (s₁.setTop (entryFrame m #[(.ref a9_0), (.int (0 : Int32))] 5)) t := fun t k => castTop (ef_rm9_8 m a9_0) k
  obtain ⟨fs, hr, hrun, hended, hW, hsame⟩ := X0.leave (v := some (.long (0 : Int64))) (fun h => by rw [Bd.returns] at h; cases h)
  refine ⟨_, _, pre0 _ ?_, hrun, hended, _, _, rfl, ?_, ⟨_, rfl⟩, hW, hsame.mono (by decide) (by decide)⟩
  · show Steps p.tables e below (s₁.setTop (mkF m 0 #[.val (.ref a9_0), .val (.int (0 : Int32)), .unset, .unset, .unset] [])) _
    refine XS.lconst X0.here hx rfl (hb hby d9_0) ?_
    refine XS.lstoreN X0.here hx rfl (hb hby d9_1) rfl (l' := #[.val (.ref a9_0), .val (.int (0 : Int32)), .val (.long (0 : Int64)), .second, .unset]) rfl ?_
    refine XS.iloadN X0.here hx rfl (hb hby d9_2) rfl ?_
    show Steps p.tables e below (s₁.setTop (mkF m 3 #[.val (.ref a9_0), .val (.int (0 : Int32)), .val (.long (0 : Int64)), .second, .unset] [(.int (0 : Int32))])) _
    refine XS.istore X0.here hx rfl (hb hby d9_3) rfl (l' := #[.val (.ref a9_0), .val (.int (0 : Int32)), .val (.long (0 : Int64)), .second, .val (.int (0 : Int32))]) rfl ?_
    refine XS.iload X0.here hx rfl (hb hby d9_5) rfl ?_
    show Steps p.tables e below (s₁.setTop (mkF m 7 #[.val (.ref a9_0), .val (.int (0 : Int32)), .val (.long (0 : Int64)), .second, .val (.int (0 : Int32))] [(.int (0 : Int32))])) _
    refine XS.ifYes X0.here hx rfl (pc0 := 7) (pc' := 36) rfl (hb hby d9_7) rfl ((if0 _ _).trans (flt (by decide : ¬ ((0 : Int32) < (0 : Int32)))).2.2.2) (by decide) (by decide) ?_
    refine XS.lloadN X0.here hx rfl (hb hby d9_36) rfl ?_
    show Steps p.tables e below (s₁.setTop (mkF m 37 #[.val (.ref a9_0), .val (.int (0 : Int32)), .val (.long (0 : Int64)), .second, .val (.int (0 : Int32))] [(.long (0 : Int64))])) _
    exact own_retJ X0 hx Bd.returns (hb hby d9_37) hr
  · show Q_rm9_8 Z a9_0 w_tree_a9_0 w_total_a9_0 kc_w_tree_a9_0 t_w_tree_a9_0_0 t_w_tree_a9_0_1 t_w_tree_a9_0_2 t_w_tree_a9_0_3 h0 n0 _ s₁.heap _
    rw [e0]
    exact ⟨rfl, N0, rfl⟩
theorem ef_rm4_5 (m : MethodId) (y0 : Addr) : entryFrame m #[(.ref y0), (.int (1 : Int32))] 7 = mkF m 0 #[.val (.ref y0), .val (.int (1 : Int32)), .unset, .unset, .unset, .unset, .unset] [] := by first | (simp [entryFrame, mkF, argsToLocals, Value.category]; done) | rfl
def Q_rm4_5 (Z : State) (a4_0 : Addr) (w_tree_a4_0 : Addr) (w_total_a4_0 : Int64) (kc_w_tree_a4_0 : ClassId) (t_w_tree_a4_0_0 : Int64) (t_w_tree_a4_0_1 : Int64) (t_w_tree_a4_0_2 : Int64) (t_w_tree_a4_0_3 : Int64) (h0 : Heap) (n0 : Nat) (v : Option Value) (h : Heap) (L : List Loc) : Prop := ∃ bx4_0 : Addr, ∃ kx4_0 : ClassId, v = none ∧ Fr n0 L ∧ Keep h0 h [a4_0] ∧ h0.size ≤ bx4_0 ∧ Exa Z h a4_0 "com/example/motley/motley/CountTree" ∧ Fld Z h a4_0 "com/example/motley/motley/CountTree" "tree" "[J" (.ref bx4_0) ∧ Fld Z h a4_0 "com/example/motley/motley/CountTree" "size" "I" (.int (4 : Int32)) ∧ Fld Z h a4_0 "com/example/motley/motley/CountTree" "total" "J" (.long w_total_a4_0) ∧ Arv Z h bx4_0 kx4_0 .long (8 : Int32) [(.long t_w_tree_a4_0_0), (.long t_w_tree_a4_0_1), (.long t_w_tree_a4_0_2), (.long t_w_tree_a4_0_3), (.long (0 : Int64)), (.long (0 : Int64)), (.long (0 : Int64)), (.long (w_total_a4_0 - (0 : Int64)))] (.long (0 : Int64))
set_option maxRecDepth 65536 in
set_option maxHeartbeats 40000000 in
theorem rm4_5 (l : Launch) (Z : State) (a0 : Array Value) (hw : ∀ d ∈ tables_1, d.before a0 Z = true) (ws : List Jvm.Cond) (a4_0 : Addr) (w_tree_a4_0 : Addr) (w_total_a4_0 : Int64) (kc_w_tree_a4_0 : ClassId) (t_w_tree_a4_0_0 : Int64) (t_w_tree_a4_0_1 : Int64) (t_w_tree_a4_0_2 : Int64) (t_w_tree_a4_0_3 : Int64) (h0 : Heap) (n0 : Nat) (Z0 : n0 ≤ h0.size) (E_a4_0 : Exa Z h0 a4_0 "com/example/motley/motley/CountTree") (F_tree_a4_0 : Fld Z h0 a4_0 "com/example/motley/motley/CountTree" "tree" "[J" (.ref w_tree_a4_0)) (F_size_a4_0 : Fld Z h0 a4_0 "com/example/motley/motley/CountTree" "size" "I" (.int (4 : Int32))) (F_total_a4_0 : Fld Z h0 a4_0 "com/example/motley/motley/CountTree" "total" "J" (.long w_total_a4_0)) (V_w_tree_a4_0 : Arv Z h0 w_tree_a4_0 kc_w_tree_a4_0 .long (4 : Int32) [(.long t_w_tree_a4_0_0), (.long t_w_tree_a4_0_1), (.long t_w_tree_a4_0_2), (.long t_w_tree_a4_0_3)] (.long (0 : Int64))) (g_a4_0 : n0 ≤ a4_0) :
    MetFree l (⟨"com/example/motley/motley/CountTree", "reserve", "(I)V"⟩ : MethodName) (head1 (Jvm.Cond.code (⟨"com/example/motley/motley/CountTree", "reserve", "(I)V"⟩ : MethodName) prog_14_method_3_code 7 none :: ws) ({ frames := 2, cells := 1, slots := 8, locals := 32 } : Room)) (fun a U => a = #[(.ref a4_0), (.int (1 : Int32))] ∧ Z.Warmed39 U.vm ∧ U.heap = h0) (fun _ _ _ _ _ => True) (fun _ U o U' => ∃ v L, o = .returned v ∧ Q_rm4_5 Z a4_0 w_tree_a4_0 w_total_a4_0 kc_w_tree_a4_0 t_w_tree_a4_0_0 t_w_tree_a4_0_1 t_w_tree_a4_0_2 t_w_tree_a4_0_3 h0 n0 v U'.heap L ∧ FrameEnd U o U' L ({ frames := 2, cells := 1, slots := 8, locals := 32 } : Room).cells ({ frames := 2, cells := 1, slots := 8, locals := 32 } : Room).slots) := by
  refine MetFree.of_bodySF (plainFor_of_name pn_4) hisR ?_
  intro p e s m args below meth c s₁ Bd hml0 hP hK
  obtain ⟨rfl, hZ, hh⟩ := hP
  have hx := Bd.exec
  have hby := Bd.bytes
  have hml : c.maxLocals = 7 := hml0
  have hown : s.vm.findClass "com/example/motley/motley/CountTree" = some m.cls := findClass_of_methodNamed Bd.named
  have hnm := (name_of_methodNamed Bd.named Bd.method).1
  have X0 : Stand p l e ({ frames := 2, cells := 1, slots := 8, locals := 32 } : Room) s m #[(.ref a4_0), (.int (1 : Int32))] below meth c s₁ [] 0 0 := Stand.of_body Bd
  have e0 : s₁.heap = h0 := by rw [← hh, Bd.state]; rfl
  have N0 := Fr.nil n0
  have pre0 : ∀ t, Steps p.tables e below (s₁.setTop (mkF m 0 #[.val (.ref a4_0), .val (.int (1 : Int32)), .unset, .unset, .unset, .unset, .unset] [])) t → Steps p.tables e below (s₁.setTop (entryFrame m #[(.ref a4_0), (.int (1 : Int32))] 7)) t := fun t k => castTop (ef_rm4_5 m a4_0) k
  obtain ⟨T1, X1, e1, st1⟩ := getF X0 hx hZ hown (host := "") (Or.inl (ow23 hw)) Via.refl e0 F_size_a4_0 (g := (mkF m 1 #[.val (.ref a4_0), .val (.int (1 : Int32)), .unset, .unset, .unset, .unset, .unset] [(.ref a4_0)])) rfl rfl (hb hby d4_1)
  obtain ⟨T2, X2, e2, st2⟩ := getF X1 hx hZ hown (host := "") (Or.inl (ow11 hw)) Via.refl e1 F_tree_a4_0 (g := (mkF m 9 #[.val (.ref a4_0), .val (.int (1 : Int32)), .val (.int (5 : Int32)), .unset, .unset, .unset, .unset] [(.ref a4_0), (.int (5 : Int32))])) rfl rfl (hb hby d4_9)
  obtain ⟨cl3, Ar3, qk3, Sz3, Nz3, Hh3, Gf3⟩ := id V_w_tree_a4_0
  obtain ⟨T4, X4, e4, st4⟩ := getF X2 hx hZ hown (host := "") (Or.inl (ow11 hw)) Via.refl e2 F_tree_a4_0 (g := (mkF m 20 #[.val (.ref a4_0), .val (.int (1 : Int32)), .val (.int (5 : Int32)), .unset, .unset, .unset, .unset] [(.ref a4_0), (.int (2 : Int32)), (.int (5 : Int32))])) rfl rfl (hb hby d4_20)
  obtain ⟨cl5, Ar5, qk5, Sz5, Nz5, Hh5, Gf5⟩ := id V_w_tree_a4_0
  obtain ⟨_, _, ⟨T6, L6, k6, n6⟩, -, X6, ⟨Lc6, hQ6, l6, y6, z6⟩, st6⟩ := Jvm.LawKit.callS X4 hx (y := (⟨"java/lang/Math", "max", "(II)I"⟩ : MethodName)) hown (mvT hZ (ow25 hw)) (mvT hZ (ow26 hw)) (mvT hZ (ow27 hw)) (mvT hZ (ow28 hw)) (by decide) (backOf (W := 0) (rm5_4 l Z a0 hw []  h0 n0 Z0 ) hZ (ow28 hw) (ow27 hw) (by decide) (by decide)) (g := (mkF m 25 #[.val (.ref a4_0), .val (.int (1 : Int32)), .val (.int (5 : Int32)), .unset, .unset, .unset, .unset] [(.int (8 : Int32)), (.int (5 : Int32))])) rfl (by rw [hml]; rfl) (argsL := [(.int (5 : Int32)), (.int (8 : Int32))]) (rest := []) (lenOf pd__II_I rfl) rfl (by show 2 * 0 + _ ≤ _; exact Nat.le_of_eq rfl) (hb hby d4_25) (fun _ _ => ⟨rfl, e4, (by decide : 0 + 0 ≤ _), (by decide : 0 + 0 ≤ _)⟩)
  dsimp only [Pt.U, Pt.locs, Pt.cells, Pt.slots] at X6 l6 y6 z6 st6 hQ6
  subst l6 y6 z6
  obtain ⟨rfl, Nq6, e6⟩ := hQ6
  have N6 := Fr.app N0 Nq6
  obtain ⟨T7, X7, e7, st7⟩ := getF X6 hx hZ hown (host := "") (Or.inl (ow11 hw)) Via.refl e6 F_tree_a4_0 (g := (mkF m 30 #[.val (.ref a4_0), .val (.int (1 : Int32)), .val (.int (5 : Int32)), .val (.int (8 : Int32)), .unset, .unset, .unset] [(.ref a4_0)])) rfl rfl (hb hby d4_30)
  obtain ⟨_, _, ⟨T8, L8, k8, n8⟩, -, X8, ⟨Lc8, hQ8, l8, y8, z8⟩, st8⟩ := Jvm.LawKit.callS X7 hx (y := (⟨"java/util/Arrays", "copyOf", "([JI)[J"⟩ : MethodName)) hown (mvT hZ (ow29 hw)) (mvT hZ (ow30 hw)) (mvT hZ (ow31 hw)) (mvT hZ (ow32 hw)) (by decide) (backOf (W := 0) (rm6_4 l Z a0 hw [] w_tree_a4_0 kc_w_tree_a4_0 t_w_tree_a4_0_0 t_w_tree_a4_0_1 t_w_tree_a4_0_2 t_w_tree_a4_0_3 h0 n0 Z0 V_w_tree_a4_0) hZ (ow32 hw) (ow31 hw) (by decide) (by decide)) (g := (mkF m 34 #[.val (.ref a4_0), .val (.int (1 : Int32)), .val (.int (5 : Int32)), .val (.int (8 : Int32)), .unset, .unset, .unset] [(.int (8 : Int32)), (.ref w_tree_a4_0)])) rfl (by rw [hml]; rfl) (argsL := [(.ref w_tree_a4_0), (.int (8 : Int32))]) (rest := []) (lenOf pd___JI__J rfl) rfl (by show 2 * 0 + _ ≤ _; exact Nat.le_of_eq rfl) (hb hby d4_34) (fun _ _ => ⟨rfl, e7, (by decide : 0 + 1 ≤ _), (by decide : 0 + 8 ≤ _)⟩)
  dsimp only [Pt.U, Pt.locs, Pt.cells, Pt.slots] at X8 l8 y8 z8 st8 hQ8
  subst l8 y8 z8
  obtain ⟨bx6_0_8, kx6_0_8, rfl, Nq8, Kc8, P8_0, P8_1⟩ := hQ8
  have K8 : Keep h0 T8.heap [a4_0] := Keep.trans (Keep.refl h0 [a4_0]) Kc8 all0
  have Z8 : n0 ≤ T8.heap.size := Nat.le_trans Z0 K8.1
  have g_bx6_0_8 : n0 ≤ bx6_0_8 := Nat.le_trans Z0 P8_0
  have sz_bx6_0_8 : h0.size ≤ bx6_0_8 := Nat.le_trans (Nat.le_refl _) P8_0
  have ne_a4_0_bx6_0_8 : a4_0 ≠ bx6_0_8 := Nat.ne_of_lt (Nat.lt_of_lt_of_le E_a4_0.lt P8_0)
  have ne_w_tree_a4_0_bx6_0_8 : w_tree_a4_0 ≠ bx6_0_8 := Nat.ne_of_lt (Nat.lt_of_lt_of_le V_w_tree_a4_0.lt P8_0)
  have N8 := Fr.app N6 Nq8
  have f9 := (F_tree_a4_0.keep Kc8 nin0)
  obtain ⟨T10, X10, e10, st10⟩ := getF X8 hx hZ hown (host := "") (Or.inl (ow11 hw)) Via.refl rfl f9 (g := (mkF m 40 #[.val (.ref a4_0), .val (.int (1 : Int32)), .val (.int (5 : Int32)), .val (.int (8 : Int32)), .val (.ref bx6_0_8), .unset, .unset] [(.ref a4_0)])) rfl rfl (hb hby d4_40)
  have f11 := (V_w_tree_a4_0.keep Kc8 nin0)
  obtain ⟨cl12, Ar12, qk12, Sz12, Nz12, Hh12, Gf12⟩ := id f11
  have f13 := (F_size_a4_0.keep Kc8 nin0)
  obtain ⟨T14, X14, e14, st14⟩ := getF X10 hx hZ hown (host := "") (Or.inl (ow23 hw)) Via.refl e10 f13 (g := (mkF m 68 #[.val (.ref a4_0), .val (.int (1 : Int32)), .val (.int (5 : Int32)), .val (.int (8 : Int32)), .val (.ref bx6_0_8), .val (.int (5 : Int32)), .val (.int (4 : Int32))] [(.ref a4_0), (.int (4 : Int32))])) rfl rfl (hb hby d4_68)
  obtain ⟨T15, X15, e15, st15⟩ := getF X14 hx hZ hown (host := "") (Or.inl (ow23 hw)) Via.refl e14 f13 (g := (mkF m 68 #[.val (.ref a4_0), .val (.int (1 : Int32)), .val (.int (5 : Int32)), .val (.int (8 : Int32)), .val (.ref bx6_0_8), .val (.int (6 : Int32)), .val (.int (4 : Int32))] [(.ref a4_0), (.int (4 : Int32))])) rfl rfl (hb hby d4_68)
  obtain ⟨T16, X16, e16, st16⟩ := getF X15 hx hZ hown (host := "") (Or.inl (ow23 hw)) Via.refl e15 f13 (g := (mkF m 68 #[.val (.ref a4_0), .val (.int (1 : Int32)), .val (.int (5 : Int32)), .val (.int (8 : Int32)), .val (.ref bx6_0_8), .val (.int (7 : Int32)), .val (.int (6 : Int32))] [(.ref a4_0), (.int (6 : Int32))])) rfl rfl (hb hby d4_68)
  obtain ⟨T17, X17, e17, st17⟩ := getF X16 hx hZ hown (host := "") (Or.inl (ow23 hw)) Via.refl e16 f13 (g := (mkF m 68 #[.val (.ref a4_0), .val (.int (1 : Int32)), .val (.int (5 : Int32)), .val (.int (8 : Int32)), .val (.ref bx6_0_8), .val (.int (8 : Int32)), .val (.int (0 : Int32))] [(.ref a4_0), (.int (0 : Int32))])) rfl rfl (hb hby d4_68)
  have f18 := (F_total_a4_0.keep Kc8 nin0)
  obtain ⟨T19, X19, e19, st19⟩ := getF X17 hx hZ hown (host := "") (Or.inl (ow45 hw)) Via.refl e17 f18 (g := (mkF m 81 #[.val (.ref a4_0), .val (.int (1 : Int32)), .val (.int (5 : Int32)), .val (.int (8 : Int32)), .val (.ref bx6_0_8), .val (.int (8 : Int32)), .val (.int (0 : Int32))] [(.ref a4_0), (.int (7 : Int32)), (.ref bx6_0_8)])) rfl rfl (hb hby d4_81)
  have f20 := (E_a4_0.keep Kc8)
  obtain ⟨cq21, kq21, q21a, q21b, q21c⟩ := isOf hZ e19 f20
  obtain ⟨_, _, ⟨T21, L21, k21, n21⟩, -, X21, ⟨Lc21, hQ21, l21, y21, z21⟩, st21⟩ := X19.virtualBack hx (y := (⟨"com/example/motley/motley/CountTree", "sumBefore", "(I)J"⟩ : MethodName)) (z := (⟨"com/example/motley/motley/CountTree", "sumBefore", "(I)J"⟩ : MethodName)) hown (mvT hZ (ow47 hw)) (mvT hZ (ow48 hw)) (notFace_of_selects (args := #[]) (mvT hZ (ow50 hw))) (mvT hZ (ow50 hw)) (mvT hZ (ow49 hw)) (by decide) (backOf (W := 4) (rm9_8 l Z a0 hw [] a4_0 w_tree_a4_0 w_total_a4_0 kc_w_tree_a4_0 t_w_tree_a4_0_0 t_w_tree_a4_0_1 t_w_tree_a4_0_2 t_w_tree_a4_0_3 T8.heap n0 Z8 f20 f9 f13 f18 f11) hZ (ow51 hw) (ow3 hw) (by decide) (by decide)) q21a q21c (g := (mkF m 87 #[.val (.ref a4_0), .val (.int (1 : Int32)), .val (.int (5 : Int32)), .val (.int (8 : Int32)), .val (.ref bx6_0_8), .val (.int (8 : Int32)), .val (.int (0 : Int32))] [(.int (0 : Int32)), (.ref a4_0), (.long w_total_a4_0), (.int (7 : Int32)), (.ref bx6_0_8)])) rfl (by rw [hml]; rfl) (Steps.refl _) (argsL := [(.int (0 : Int32))]) (rest := [(.long w_total_a4_0), (.int (7 : Int32)), (.ref bx6_0_8)]) (lenOf pd__I_J rfl) rfl (by show 2 * 0 + _ ≤ _; exact Nat.le_of_eq rfl) (hb hby d4_87) (fun _ _ => ⟨rfl, e19, (by decide : 1 + 0 ≤ _), (by decide : 8 + 0 ≤ _)⟩)
  dsimp only [Pt.U, Pt.locs, Pt.cells, Pt.slots] at X21 l21 y21 z21 st21 hQ21
  subst l21 y21 z21
  obtain ⟨rfl, Nq21, e21⟩ := hQ21
  have N21 := Fr.app N8 Nq21
  obtain ⟨cl22, Ar22, qk22, Sz22, Nz22, Hh22, Gf22⟩ := id P8_1
  obtain ⟨T23, h23, X23, e23, W23, st23⟩ := stJ X21 hx hZ e21 Ar22 (j := (7 : Int32)) (inb_of Sz22 ⟨by decide, by decide⟩) (g := (mkF m 91 #[.val (.ref a4_0), .val (.int (1 : Int32)), .val (.int (5 : Int32)), .val (.int (8 : Int32)), .val (.ref bx6_0_8), .val (.int (8 : Int32)), .val (.int (0 : Int32))] [(.long (w_total_a4_0 - (0 : Int64))), (.int (7 : Int32)), (.ref bx6_0_8)])) rfl rfl (hb hby d4_91)
  have V23 : Arv Z h23 bx6_0_8 kx6_0_8 .long (8 : Int32) [(.long t_w_tree_a4_0_0), (.long t_w_tree_a4_0_1), (.long t_w_tree_a4_0_2), (.long t_w_tree_a4_0_3), (.long (0 : Int64)), (.long (0 : Int64)), (.long (0 : Int64)), (.long (w_total_a4_0 - (0 : Int64)))] (.long (0 : Int64)) := Arv.set Ar22 qk22 Sz22 Nz22 Hh22 Gf22 rfl W23 7 rfl (Nat.le_of_ble_eq_true rfl)
  have K23 : Keep h0 h23 [a4_0] := K8.wr W23 (Or.inr sz_bx6_0_8)
  have Z23 : n0 ≤ h23.size := Nat.le_trans Z0 K23.1
  have N23 := Fr.snoc X23 N21 g_bx6_0_8
  have f24 := (f20.wr W23)
  have f25 := (f9.other W23 (Or.inl ne_a4_0_bx6_0_8))
  obtain ⟨T26, h26, X26, e26, W26, st26⟩ := putF X23 hx hZ hown (host := "") (Or.inl (ow11 hw)) Via.refl e23 f25 f24 (Or.inl (ow12 hw)) (ow2 hw) (ty := (.array .long)) (by decide) rfl rfl (g := (mkF m 101 #[.val (.ref a4_0), .val (.int (1 : Int32)), .val (.int (5 : Int32)), .val (.int (8 : Int32)), .val (.ref bx6_0_8), .val (.int (9 : Int32)), .val (.int (0 : Int32))] [(.ref bx6_0_8), (.ref a4_0)])) rfl rfl (hb hby d4_101)
  have F26 := f25.same W26
  have K26 : Keep h0 h26 [a4_0] := K23.wr W26 (Or.inl (List.mem_of_getElem? (i := 0) rfl))
  have Z26 : n0 ≤ h26.size := Nat.le_trans Z0 K26.1
  have N26 := Fr.snoc X26 N23 g_a4_0
  obtain ⟨fs, hr, hrun, hended, hW, hsame⟩ := X26.leave (v := none) (fun _ => rfl)
  refine ⟨_, _, pre0 _ ?_, hrun, hended, _, _, rfl, ?_, ⟨_, rfl⟩, hW, hsame.mono (by decide) (by decide)⟩
  · show Steps p.tables e below (s₁.setTop (mkF m 0 #[.val (.ref a4_0), .val (.int (1 : Int32)), .unset, .unset, .unset, .unset, .unset] [])) _
    refine XS.aloadN X0.here hx rfl (hb hby d4_0) rfl rfl ?_
    refine st1 _ ?_
    refine XS.iloadN X1.here hx rfl (hb hby d4_4) rfl ?_
    show Steps p.tables e below (T1.setTop (mkF m 5 #[.val (.ref a4_0), .val (.int (1 : Int32)), .unset, .unset, .unset, .unset, .unset] [(.int (1 : Int32)), (.int (4 : Int32))])) _
    refine XS.iadd X1.here hx rfl (hb hby d4_5) rfl ?_
    refine XS.istoreN X1.here hx rfl (hb hby d4_6) rfl (l' := #[.val (.ref a4_0), .val (.int (1 : Int32)), .val (.int (5 : Int32)), .unset, .unset, .unset, .unset]) rfl ?_
    refine XS.iloadN X1.here hx rfl (hb hby d4_7) rfl ?_
    show Steps p.tables e below (T1.setTop (mkF m 8 #[.val (.ref a4_0), .val (.int (1 : Int32)), .val (.int (5 : Int32)), .unset, .unset, .unset, .unset] [(.int (5 : Int32))])) _
    refine XS.aloadN X1.here hx rfl (hb hby d4_8) rfl rfl ?_
    refine st2 _ ?_
    show Steps p.tables e below (T2.setTop (mkF m 12 #[.val (.ref a4_0), .val (.int (1 : Int32)), .val (.int (5 : Int32)), .unset, .unset, .unset, .unset] [(.ref w_tree_a4_0), (.int (5 : Int32))])) _
    refine X2.arraylength hx (cell := cl3) (by rw [e2]; exact Ar3.1) (State.isArrayOf_alike hZ.alike Ar3.2.1) (g := (mkF m 12 #[.val (.ref a4_0), .val (.int (1 : Int32)), .val (.int (5 : Int32)), .unset, .unset, .unset, .unset] [(.ref w_tree_a4_0), (.int (5 : Int32))])) rfl (rest := [(.int (5 : Int32))]) rfl (hb hby d4_12) _ ?_
    rw [len_of Sz3 Nz3]
    show Steps p.tables e below (T2.setTop (mkF m 13 #[.val (.ref a4_0), .val (.int (1 : Int32)), .val (.int (5 : Int32)), .unset, .unset, .unset, .unset] [(.int (4 : Int32)), (.int (5 : Int32))])) _
    refine XS.icmpYes X2.here hx rfl (pc0 := 13) (pc' := 17) rfl (hb hby d4_13) rfl (tlt (by decide : (4 : Int32) < (5 : Int32))).2.2.1 (by decide) (by decide) ?_
    refine XS.iloadN X2.here hx rfl (hb hby d4_17) rfl ?_
    refine XS.iconst X2.here hx rfl (hb hby d4_18) ?_
    show Steps p.tables e below (T2.setTop (mkF m 19 #[.val (.ref a4_0), .val (.int (1 : Int32)), .val (.int (5 : Int32)), .unset, .unset, .unset, .unset] [(.int (2 : Int32)), (.int (5 : Int32))])) _
    refine XS.aloadN X2.here hx rfl (hb hby d4_19) rfl rfl ?_
    refine st4 _ ?_
    show Steps p.tables e below (T4.setTop (mkF m 23 #[.val (.ref a4_0), .val (.int (1 : Int32)), .val (.int (5 : Int32)), .unset, .unset, .unset, .unset] [(.ref w_tree_a4_0), (.int (2 : Int32)), (.int (5 : Int32))])) _
    refine X4.arraylength hx (cell := cl5) (by rw [e4]; exact Ar5.1) (State.isArrayOf_alike hZ.alike Ar5.2.1) (g := (mkF m 23 #[.val (.ref a4_0), .val (.int (1 : Int32)), .val (.int (5 : Int32)), .unset, .unset, .unset, .unset] [(.ref w_tree_a4_0), (.int (2 : Int32)), (.int (5 : Int32))])) rfl (rest := [(.int (2 : Int32)), (.int (5 : Int32))]) rfl (hb hby d4_23) _ ?_
    rw [len_of Sz5 Nz5]
    refine XS.imul X4.here hx rfl (hb hby d4_24) rfl ?_
    show Steps p.tables e below (T4.setTop (mkF m 25 #[.val (.ref a4_0), .val (.int (1 : Int32)), .val (.int (5 : Int32)), .unset, .unset, .unset, .unset] [(.int (8 : Int32)), (.int (5 : Int32))])) _
    refine st6 _ ?_
    refine XS.istoreN X6.here hx rfl (hb hby d4_28) rfl (l' := #[.val (.ref a4_0), .val (.int (1 : Int32)), .val (.int (5 : Int32)), .val (.int (8 : Int32)), .unset, .unset, .unset]) rfl ?_
    refine XS.aloadN X6.here hx rfl (hb hby d4_29) rfl rfl ?_
    show Steps p.tables e below (T6.setTop (mkF m 30 #[.val (.ref a4_0), .val (.int (1 : Int32)), .val (.int (5 : Int32)), .val (.int (8 : Int32)), .unset, .unset, .unset] [(.ref a4_0)])) _
    refine st7 _ ?_
    refine XS.iloadN X7.here hx rfl (hb hby d4_33) rfl ?_
    refine st8 _ ?_
    show Steps p.tables e below (T8.setTop (mkF m 37 #[.val (.ref a4_0), .val (.int (1 : Int32)), .val (.int (5 : Int32)), .val (.int (8 : Int32)), .unset, .unset, .unset] [(.ref bx6_0_8)])) _
    refine XS.astore X8.here hx rfl (hb hby d4_37) rfl rfl (l' := #[.val (.ref a4_0), .val (.int (1 : Int32)), .val (.int (5 : Int32)), .val (.int (8 : Int32)), .val (.ref bx6_0_8), .unset, .unset]) rfl ?_
    refine XS.aloadN X8.here hx rfl (hb hby d4_39) rfl rfl ?_
    refine st10 _ ?_
    show Steps p.tables e below (T10.setTop (mkF m 43 #[.val (.ref a4_0), .val (.int (1 : Int32)), .val (.int (5 : Int32)), .val (.int (8 : Int32)), .val (.ref bx6_0_8), .unset, .unset] [(.ref w_tree_a4_0)])) _
    refine X10.arraylength hx (cell := cl12) (by rw [e10]; exact Ar12.1) (State.isArrayOf_alike hZ.alike Ar12.2.1) (g := (mkF m 43 #[.val (.ref a4_0), .val (.int (1 : Int32)), .val (.int (5 : Int32)), .val (.int (8 : Int32)), .val (.ref bx6_0_8), .unset, .unset] [(.ref w_tree_a4_0)])) rfl (rest := []) rfl (hb hby d4_43) _ ?_
    rw [len_of Sz12 Nz12]
    refine XS.iconst X10.here hx rfl (hb hby d4_44) ?_
    show Steps p.tables e below (T10.setTop (mkF m 45 #[.val (.ref a4_0), .val (.int (1 : Int32)), .val (.int (5 : Int32)), .val (.int (8 : Int32)), .val (.ref bx6_0_8), .unset, .unset] [(.int (1 : Int32)), (.int (4 : Int32))])) _
    refine XS.iadd X10.here hx rfl (hb hby d4_45) rfl ?_
    refine XS.istore X10.here hx rfl (hb hby d4_46) rfl (l' := #[.val (.ref a4_0), .val (.int (1 : Int32)), .val (.int (5 : Int32)), .val (.int (8 : Int32)), .val (.ref bx6_0_8), .val (.int (5 : Int32)), .unset]) rfl ?_
    refine XS.iload X10.here hx rfl (hb hby d4_48) rfl ?_
    show Steps p.tables e below (T10.setTop (mkF m 50 #[.val (.ref a4_0), .val (.int (1 : Int32)), .val (.int (5 : Int32)), .val (.int (8 : Int32)), .val (.ref bx6_0_8), .val (.int (5 : Int32)), .unset] [(.int (5 : Int32))])) _
    refine XS.iloadN X10.here hx rfl (hb hby d4_50) rfl ?_
    show Steps p.tables e below (T10.setTop (mkF m 51 #[.val (.ref a4_0), .val (.int (1 : Int32)), .val (.int (5 : Int32)), .val (.int (8 : Int32)), .val (.ref bx6_0_8), .val (.int (5 : Int32)), .unset] [(.int (8 : Int32)), (.int (5 : Int32))])) _
    refine XS.icmpNo X10.here hx rfl (hb hby d4_51) rfl (flt (by decide : ¬ ((8 : Int32) < (5 : Int32)))).2.2.1 ?_
    refine XS.iload X10.here hx rfl (hb hby d4_54) rfl ?_
    refine XS.iload X10.here hx rfl (hb hby d4_56) rfl ?_
    show Steps p.tables e below (T10.setTop (mkF m 58 #[.val (.ref a4_0), .val (.int (1 : Int32)), .val (.int (5 : Int32)), .val (.int (8 : Int32)), .val (.ref bx6_0_8), .val (.int (5 : Int32)), .unset] [(.int (5 : Int32)), (.int (5 : Int32))])) _
    refine XS.iload X10.here hx rfl (hb hby d4_58) rfl ?_
    refine XS.ineg X10.here hx rfl (hb hby d4_60) rfl ?_
    refine XS.iand X10.here hx rfl (hb hby d4_61) rfl ?_
    show Steps p.tables e below (T10.setTop (mkF m 62 #[.val (.ref a4_0), .val (.int (1 : Int32)), .val (.int (5 : Int32)), .val (.int (8 : Int32)), .val (.ref bx6_0_8), .val (.int (5 : Int32)), .unset] [(.int (1 : Int32)), (.int (5 : Int32))])) _
    refine XS.isub X10.here hx rfl (hb hby d4_62) rfl ?_
    refine XS.istore X10.here hx rfl (hb hby d4_63) rfl (l' := #[.val (.ref a4_0), .val (.int (1 : Int32)), .val (.int (5 : Int32)), .val (.int (8 : Int32)), .val (.ref bx6_0_8), .val (.int (5 : Int32)), .val (.int (4 : Int32))]) rfl ?_
    refine XS.iload X10.here hx rfl (hb hby d4_65) rfl ?_
    show Steps p.tables e below (T10.setTop (mkF m 67 #[.val (.ref a4_0), .val (.int (1 : Int32)), .val (.int (5 : Int32)), .val (.int (8 : Int32)), .val (.ref bx6_0_8), .val (.int (5 : Int32)), .val (.int (4 : Int32))] [(.int (4 : Int32))])) _
    refine XS.aloadN X10.here hx rfl (hb hby d4_67) rfl rfl ?_
    refine st14 _ ?_
    show Steps p.tables e below (T14.setTop (mkF m 71 #[.val (.ref a4_0), .val (.int (1 : Int32)), .val (.int (5 : Int32)), .val (.int (8 : Int32)), .val (.ref bx6_0_8), .val (.int (5 : Int32)), .val (.int (4 : Int32))] [(.int (4 : Int32)), (.int (4 : Int32))])) _
    refine XS.icmpYes X14.here hx rfl (pc0 := 71) (pc' := 92) rfl (hb hby d4_71) rfl (flt (by decide : ¬ ((4 : Int32) < (4 : Int32)))).2.1 (by decide) (by decide) ?_
    refine XS.iinc X14.here hx rfl (hb hby d4_92) rfl (l' := #[.val (.ref a4_0), .val (.int (1 : Int32)), .val (.int (5 : Int32)), .val (.int (8 : Int32)), .val (.ref bx6_0_8), .val (.int (6 : Int32)), .val (.int (4 : Int32))]) rfl ?_
    refine XS.goto X14.here hx rfl (pc0 := 95) (pc' := 48) rfl (hb hby d4_95) (by decide) (by decide) ?_
    show Steps p.tables e below (T14.setTop (mkF m 48 #[.val (.ref a4_0), .val (.int (1 : Int32)), .val (.int (5 : Int32)), .val (.int (8 : Int32)), .val (.ref bx6_0_8), .val (.int (6 : Int32)), .val (.int (4 : Int32))] [])) _
    refine XS.iload X14.here hx rfl (hb hby d4_48) rfl ?_
    refine XS.iloadN X14.here hx rfl (hb hby d4_50) rfl ?_
    show Steps p.tables e below (T14.setTop (mkF m 51 #[.val (.ref a4_0), .val (.int (1 : Int32)), .val (.int (5 : Int32)), .val (.int (8 : Int32)), .val (.ref bx6_0_8), .val (.int (6 : Int32)), .val (.int (4 : Int32))] [(.int (8 : Int32)), (.int (6 : Int32))])) _
    refine XS.icmpNo X14.here hx rfl (hb hby d4_51) rfl (flt (by decide : ¬ ((8 : Int32) < (6 : Int32)))).2.2.1 ?_
    refine XS.iload X14.here hx rfl (hb hby d4_54) rfl ?_
    refine XS.iload X14.here hx rfl (hb hby d4_56) rfl ?_
    show Steps p.tables e below (T14.setTop (mkF m 58 #[.val (.ref a4_0), .val (.int (1 : Int32)), .val (.int (5 : Int32)), .val (.int (8 : Int32)), .val (.ref bx6_0_8), .val (.int (6 : Int32)), .val (.int (4 : Int32))] [(.int (6 : Int32)), (.int (6 : Int32))])) _
    refine XS.iload X14.here hx rfl (hb hby d4_58) rfl ?_
    refine XS.ineg X14.here hx rfl (hb hby d4_60) rfl ?_
    refine XS.iand X14.here hx rfl (hb hby d4_61) rfl ?_
    show Steps p.tables e below (T14.setTop (mkF m 62 #[.val (.ref a4_0), .val (.int (1 : Int32)), .val (.int (5 : Int32)), .val (.int (8 : Int32)), .val (.ref bx6_0_8), .val (.int (6 : Int32)), .val (.int (4 : Int32))] [(.int (2 : Int32)), (.int (6 : Int32))])) _
    refine XS.isub X14.here hx rfl (hb hby d4_62) rfl ?_
    refine XS.istore X14.here hx rfl (hb hby d4_63) rfl (l' := #[.val (.ref a4_0), .val (.int (1 : Int32)), .val (.int (5 : Int32)), .val (.int (8 : Int32)), .val (.ref bx6_0_8), .val (.int (6 : Int32)), .val (.int (4 : Int32))]) rfl ?_
    refine XS.iload X14.here hx rfl (hb hby d4_65) rfl ?_
    show Steps p.tables e below (T14.setTop (mkF m 67 #[.val (.ref a4_0), .val (.int (1 : Int32)), .val (.int (5 : Int32)), .val (.int (8 : Int32)), .val (.ref bx6_0_8), .val (.int (6 : Int32)), .val (.int (4 : Int32))] [(.int (4 : Int32))])) _
    refine XS.aloadN X14.here hx rfl (hb hby d4_67) rfl rfl ?_
    refine st15 _ ?_
    show Steps p.tables e below (T15.setTop (mkF m 71 #[.val (.ref a4_0), .val (.int (1 : Int32)), .val (.int (5 : Int32)), .val (.int (8 : Int32)), .val (.ref bx6_0_8), .val (.int (6 : Int32)), .val (.int (4 : Int32))] [(.int (4 : Int32)), (.int (4 : Int32))])) _
    refine XS.icmpYes X15.here hx rfl (pc0 := 71) (pc' := 92) rfl (hb hby d4_71) rfl (flt (by decide : ¬ ((4 : Int32) < (4 : Int32)))).2.1 (by decide) (by decide) ?_
    refine XS.iinc X15.here hx rfl (hb hby d4_92) rfl (l' := #[.val (.ref a4_0), .val (.int (1 : Int32)), .val (.int (5 : Int32)), .val (.int (8 : Int32)), .val (.ref bx6_0_8), .val (.int (7 : Int32)), .val (.int (4 : Int32))]) rfl ?_
    refine XS.goto X15.here hx rfl (pc0 := 95) (pc' := 48) rfl (hb hby d4_95) (by decide) (by decide) ?_
    show Steps p.tables e below (T15.setTop (mkF m 48 #[.val (.ref a4_0), .val (.int (1 : Int32)), .val (.int (5 : Int32)), .val (.int (8 : Int32)), .val (.ref bx6_0_8), .val (.int (7 : Int32)), .val (.int (4 : Int32))] [])) _
    refine XS.iload X15.here hx rfl (hb hby d4_48) rfl ?_
    refine XS.iloadN X15.here hx rfl (hb hby d4_50) rfl ?_
    show Steps p.tables e below (T15.setTop (mkF m 51 #[.val (.ref a4_0), .val (.int (1 : Int32)), .val (.int (5 : Int32)), .val (.int (8 : Int32)), .val (.ref bx6_0_8), .val (.int (7 : Int32)), .val (.int (4 : Int32))] [(.int (8 : Int32)), (.int (7 : Int32))])) _
    refine XS.icmpNo X15.here hx rfl (hb hby d4_51) rfl (flt (by decide : ¬ ((8 : Int32) < (7 : Int32)))).2.2.1 ?_
    refine XS.iload X15.here hx rfl (hb hby d4_54) rfl ?_
    refine XS.iload X15.here hx rfl (hb hby d4_56) rfl ?_
    show Steps p.tables e below (T15.setTop (mkF m 58 #[.val (.ref a4_0), .val (.int (1 : Int32)), .val (.int (5 : Int32)), .val (.int (8 : Int32)), .val (.ref bx6_0_8), .val (.int (7 : Int32)), .val (.int (4 : Int32))] [(.int (7 : Int32)), (.int (7 : Int32))])) _
    refine XS.iload X15.here hx rfl (hb hby d4_58) rfl ?_
    refine XS.ineg X15.here hx rfl (hb hby d4_60) rfl ?_
    refine XS.iand X15.here hx rfl (hb hby d4_61) rfl ?_
    show Steps p.tables e below (T15.setTop (mkF m 62 #[.val (.ref a4_0), .val (.int (1 : Int32)), .val (.int (5 : Int32)), .val (.int (8 : Int32)), .val (.ref bx6_0_8), .val (.int (7 : Int32)), .val (.int (4 : Int32))] [(.int (1 : Int32)), (.int (7 : Int32))])) _
    refine XS.isub X15.here hx rfl (hb hby d4_62) rfl ?_
    refine XS.istore X15.here hx rfl (hb hby d4_63) rfl (l' := #[.val (.ref a4_0), .val (.int (1 : Int32)), .val (.int (5 : Int32)), .val (.int (8 : Int32)), .val (.ref bx6_0_8), .val (.int (7 : Int32)), .val (.int (6 : Int32))]) rfl ?_
    refine XS.iload X15.here hx rfl (hb hby d4_65) rfl ?_
    show Steps p.tables e below (T15.setTop (mkF m 67 #[.val (.ref a4_0), .val (.int (1 : Int32)), .val (.int (5 : Int32)), .val (.int (8 : Int32)), .val (.ref bx6_0_8), .val (.int (7 : Int32)), .val (.int (6 : Int32))] [(.int (6 : Int32))])) _
    refine XS.aloadN X15.here hx rfl (hb hby d4_67) rfl rfl ?_
    refine st16 _ ?_
    show Steps p.tables e below (T16.setTop (mkF m 71 #[.val (.ref a4_0), .val (.int (1 : Int32)), .val (.int (5 : Int32)), .val (.int (8 : Int32)), .val (.ref bx6_0_8), .val (.int (7 : Int32)), .val (.int (6 : Int32))] [(.int (4 : Int32)), (.int (6 : Int32))])) _
    refine XS.icmpYes X16.here hx rfl (pc0 := 71) (pc' := 92) rfl (hb hby d4_71) rfl (flt (by decide : ¬ ((6 : Int32) < (4 : Int32)))).2.1 (by decide) (by decide) ?_
    refine XS.iinc X16.here hx rfl (hb hby d4_92) rfl (l' := #[.val (.ref a4_0), .val (.int (1 : Int32)), .val (.int (5 : Int32)), .val (.int (8 : Int32)), .val (.ref bx6_0_8), .val (.int (8 : Int32)), .val (.int (6 : Int32))]) rfl ?_
    refine XS.goto X16.here hx rfl (pc0 := 95) (pc' := 48) rfl (hb hby d4_95) (by decide) (by decide) ?_
    show Steps p.tables e below (T16.setTop (mkF m 48 #[.val (.ref a4_0), .val (.int (1 : Int32)), .val (.int (5 : Int32)), .val (.int (8 : Int32)), .val (.ref bx6_0_8), .val (.int (8 : Int32)), .val (.int (6 : Int32))] [])) _
    refine XS.iload X16.here hx rfl (hb hby d4_48) rfl ?_
    refine XS.iloadN X16.here hx rfl (hb hby d4_50) rfl ?_
    show Steps p.tables e below (T16.setTop (mkF m 51 #[.val (.ref a4_0), .val (.int (1 : Int32)), .val (.int (5 : Int32)), .val (.int (8 : Int32)), .val (.ref bx6_0_8), .val (.int (8 : Int32)), .val (.int (6 : Int32))] [(.int (8 : Int32)), (.int (8 : Int32))])) _
    refine XS.icmpNo X16.here hx rfl (hb hby d4_51) rfl (flt (by decide : ¬ ((8 : Int32) < (8 : Int32)))).2.2.1 ?_
    refine XS.iload X16.here hx rfl (hb hby d4_54) rfl ?_
    refine XS.iload X16.here hx rfl (hb hby d4_56) rfl ?_
    show Steps p.tables e below (T16.setTop (mkF m 58 #[.val (.ref a4_0), .val (.int (1 : Int32)), .val (.int (5 : Int32)), .val (.int (8 : Int32)), .val (.ref bx6_0_8), .val (.int (8 : Int32)), .val (.int (6 : Int32))] [(.int (8 : Int32)), (.int (8 : Int32))])) _
    refine XS.iload X16.here hx rfl (hb hby d4_58) rfl ?_
    refine XS.ineg X16.here hx rfl (hb hby d4_60) rfl ?_
    refine XS.iand X16.here hx rfl (hb hby d4_61) rfl ?_
    show Steps p.tables e below (T16.setTop (mkF m 62 #[.val (.ref a4_0), .val (.int (1 : Int32)), .val (.int (5 : Int32)), .val (.int (8 : Int32)), .val (.ref bx6_0_8), .val (.int (8 : Int32)), .val (.int (6 : Int32))] [(.int (8 : Int32)), (.int (8 : Int32))])) _
    refine XS.isub X16.here hx rfl (hb hby d4_62) rfl ?_
    refine XS.istore X16.here hx rfl (hb hby d4_63) rfl (l' := #[.val (.ref a4_0), .val (.int (1 : Int32)), .val (.int (5 : Int32)), .val (.int (8 : Int32)), .val (.ref bx6_0_8), .val (.int (8 : Int32)), .val (.int (0 : Int32))]) rfl ?_
    refine XS.iload X16.here hx rfl (hb hby d4_65) rfl ?_
    show Steps p.tables e below (T16.setTop (mkF m 67 #[.val (.ref a4_0), .val (.int (1 : Int32)), .val (.int (5 : Int32)), .val (.int (8 : Int32)), .val (.ref bx6_0_8), .val (.int (8 : Int32)), .val (.int (0 : Int32))] [(.int (0 : Int32))])) _
    refine XS.aloadN X16.here hx rfl (hb hby d4_67) rfl rfl ?_
    refine st17 _ ?_
    show Steps p.tables e below (T17.setTop (mkF m 71 #[.val (.ref a4_0), .val (.int (1 : Int32)), .val (.int (5 : Int32)), .val (.int (8 : Int32)), .val (.ref bx6_0_8), .val (.int (8 : Int32)), .val (.int (0 : Int32))] [(.int (4 : Int32)), (.int (0 : Int32))])) _
    refine XS.icmpNo X17.here hx rfl (hb hby d4_71) rfl (tlt (by decide : (0 : Int32) < (4 : Int32))).2.1 ?_
    refine XS.aload X17.here hx rfl (hb hby d4_74) rfl rfl ?_
    refine XS.iload X17.here hx rfl (hb hby d4_76) rfl ?_
    show Steps p.tables e below (T17.setTop (mkF m 78 #[.val (.ref a4_0), .val (.int (1 : Int32)), .val (.int (5 : Int32)), .val (.int (8 : Int32)), .val (.ref bx6_0_8), .val (.int (8 : Int32)), .val (.int (0 : Int32))] [(.int (8 : Int32)), (.ref bx6_0_8)])) _
    refine XS.iconst X17.here hx rfl (hb hby d4_78) ?_
    refine XS.isub X17.here hx rfl (hb hby d4_79) rfl ?_
    refine XS.aloadN X17.here hx rfl (hb hby d4_80) rfl rfl ?_
    show Steps p.tables e below (T17.setTop (mkF m 81 #[.val (.ref a4_0), .val (.int (1 : Int32)), .val (.int (5 : Int32)), .val (.int (8 : Int32)), .val (.ref bx6_0_8), .val (.int (8 : Int32)), .val (.int (0 : Int32))] [(.ref a4_0), (.int (7 : Int32)), (.ref bx6_0_8)])) _
    refine st19 _ ?_
    refine XS.aloadN X19.here hx rfl (hb hby d4_84) rfl rfl ?_
    refine XS.iload X19.here hx rfl (hb hby d4_85) rfl ?_
    show Steps p.tables e below (T19.setTop (mkF m 87 #[.val (.ref a4_0), .val (.int (1 : Int32)), .val (.int (5 : Int32)), .val (.int (8 : Int32)), .val (.ref bx6_0_8), .val (.int (8 : Int32)), .val (.int (0 : Int32))] [(.int (0 : Int32)), (.ref a4_0), (.long w_total_a4_0), (.int (7 : Int32)), (.ref bx6_0_8)])) _
    refine st21.trans ?_
    refine XS.lsub X21.here hx rfl (hb hby d4_90) rfl ?_
    refine st23 _ ?_
    show Steps p.tables e below (T23.setTop (mkF m 92 #[.val (.ref a4_0), .val (.int (1 : Int32)), .val (.int (5 : Int32)), .val (.int (8 : Int32)), .val (.ref bx6_0_8), .val (.int (8 : Int32)), .val (.int (0 : Int32))] [])) _
    refine XS.iinc X23.here hx rfl (hb hby d4_92) rfl (l' := #[.val (.ref a4_0), .val (.int (1 : Int32)), .val (.int (5 : Int32)), .val (.int (8 : Int32)), .val (.ref bx6_0_8), .val (.int (9 : Int32)), .val (.int (0 : Int32))]) rfl ?_
    refine XS.goto X23.here hx rfl (pc0 := 95) (pc' := 48) rfl (hb hby d4_95) (by decide) (by decide) ?_
    refine XS.iload X23.here hx rfl (hb hby d4_48) rfl ?_
    show Steps p.tables e below (T23.setTop (mkF m 50 #[.val (.ref a4_0), .val (.int (1 : Int32)), .val (.int (5 : Int32)), .val (.int (8 : Int32)), .val (.ref bx6_0_8), .val (.int (9 : Int32)), .val (.int (0 : Int32))] [(.int (9 : Int32))])) _
    refine XS.iloadN X23.here hx rfl (hb hby d4_50) rfl ?_
    show Steps p.tables e below (T23.setTop (mkF m 51 #[.val (.ref a4_0), .val (.int (1 : Int32)), .val (.int (5 : Int32)), .val (.int (8 : Int32)), .val (.ref bx6_0_8), .val (.int (9 : Int32)), .val (.int (0 : Int32))] [(.int (8 : Int32)), (.int (9 : Int32))])) _
    refine XS.icmpYes X23.here hx rfl (pc0 := 51) (pc' := 98) rfl (hb hby d4_51) rfl (tlt (by decide : (8 : Int32) < (9 : Int32))).2.2.1 (by decide) (by decide) ?_
    refine XS.aloadN X23.here hx rfl (hb hby d4_98) rfl rfl ?_
    refine XS.aload X23.here hx rfl (hb hby d4_99) rfl rfl ?_
    show Steps p.tables e below (T23.setTop (mkF m 101 #[.val (.ref a4_0), .val (.int (1 : Int32)), .val (.int (5 : Int32)), .val (.int (8 : Int32)), .val (.ref bx6_0_8), .val (.int (9 : Int32)), .val (.int (0 : Int32))] [(.ref bx6_0_8), (.ref a4_0)])) _
    refine st26 _ ?_
    show Steps p.tables e below (T26.setTop (mkF m 104 #[.val (.ref a4_0), .val (.int (1 : Int32)), .val (.int (5 : Int32)), .val (.int (8 : Int32)), .val (.ref bx6_0_8), .val (.int (9 : Int32)), .val (.int (0 : Int32))] [])) _
    exact X26.returnOut hx Bd.returns (hb hby d4_104) hr
  · have f27 := (f24.wr W26)
    have f28 := ((f13.other W23 (Or.inl ne_a4_0_bx6_0_8)).other W26 (Or.inr (slot_ne (Or.inl (ow24 hw)) (Or.inl (ow12 hw)) (by decide) (t := .int) (t' := (.array .long)) (by decide) (by decide))))
    have f29 := ((f18.other W23 (Or.inl ne_a4_0_bx6_0_8)).other W26 (Or.inr (slot_ne (Or.inl (ow46 hw)) (Or.inl (ow12 hw)) (by decide) (t := .long) (t' := (.array .long)) (by decide) (by decide))))
    have f30 := (V23.other W26 (Ne.symm ne_a4_0_bx6_0_8))
    show Q_rm4_5 Z a4_0 w_tree_a4_0 w_total_a4_0 kc_w_tree_a4_0 t_w_tree_a4_0_0 t_w_tree_a4_0_1 t_w_tree_a4_0_2 t_w_tree_a4_0_3 h0 n0 _ T26.heap _
    rw [e26]
    exact ⟨bx6_0_8, kx6_0_8, rfl, N26, K26, sz_bx6_0_8, f27, F26, f28, f29, f30⟩
theorem ef_rm8_5 (m : MethodId) (y0 : Addr) (y2 : Int64) : entryFrame m #[(.ref y0), (.int (4 : Int32)), (.long y2)] 5 = mkF m 0 #[.val (.ref y0), .val (.int (4 : Int32)), .val (.long y2), .second, .unset] [] := by first | (simp [entryFrame, mkF, argsToLocals, Value.category]; done) | rfl
def Q_rm8_5 (Z : State) (a8_0 : Addr) (q8_2 : Int64) (w_tree_a8_0 : Addr) (w_total_a8_0 : Int64) (kc_w_tree_a8_0 : ClassId) (t_w_tree_a8_0_0 : Int64) (t_w_tree_a8_0_1 : Int64) (t_w_tree_a8_0_2 : Int64) (t_w_tree_a8_0_3 : Int64) (t_w_tree_a8_0_4 : Int64) (t_w_tree_a8_0_5 : Int64) (t_w_tree_a8_0_6 : Int64) (t_w_tree_a8_0_7 : Int64) (h0 : Heap) (n0 : Nat) (v : Option Value) (h : Heap) (L : List Loc) : Prop := v = none ∧ Fr n0 L ∧ Keep h0 h [a8_0, w_tree_a8_0] ∧ Exa Z h a8_0 "com/example/motley/motley/CountTree" ∧ Fld Z h a8_0 "com/example/motley/motley/CountTree" "tree" "[J" (.ref w_tree_a8_0) ∧ Fld Z h a8_0 "com/example/motley/motley/CountTree" "size" "I" (.int (5 : Int32)) ∧ Fld Z h a8_0 "com/example/motley/motley/CountTree" "total" "J" (.long (w_total_a8_0 + q8_2)) ∧ Arv Z h w_tree_a8_0 kc_w_tree_a8_0 .long (8 : Int32) [(.long t_w_tree_a8_0_0), (.long t_w_tree_a8_0_1), (.long t_w_tree_a8_0_2), (.long t_w_tree_a8_0_3), (.long (t_w_tree_a8_0_4 + q8_2)), (.long (t_w_tree_a8_0_5 + q8_2)), (.long t_w_tree_a8_0_6), (.long (t_w_tree_a8_0_7 + q8_2))] (.long (0 : Int64))
set_option maxRecDepth 65536 in
set_option maxHeartbeats 40000000 in
theorem rm8_5 (l : Launch) (Z : State) (a0 : Array Value) (hw : ∀ d ∈ tables_1, d.before a0 Z = true) (ws : List Jvm.Cond) (a8_0 : Addr) (q8_2 : Int64) (w_tree_a8_0 : Addr) (w_total_a8_0 : Int64) (kc_w_tree_a8_0 : ClassId) (t_w_tree_a8_0_0 : Int64) (t_w_tree_a8_0_1 : Int64) (t_w_tree_a8_0_2 : Int64) (t_w_tree_a8_0_3 : Int64) (t_w_tree_a8_0_4 : Int64) (t_w_tree_a8_0_5 : Int64) (t_w_tree_a8_0_6 : Int64) (t_w_tree_a8_0_7 : Int64) (h0 : Heap) (n0 : Nat) (Z0 : n0 ≤ h0.size) (E_a8_0 : Exa Z h0 a8_0 "com/example/motley/motley/CountTree") (F_tree_a8_0 : Fld Z h0 a8_0 "com/example/motley/motley/CountTree" "tree" "[J" (.ref w_tree_a8_0)) (F_size_a8_0 : Fld Z h0 a8_0 "com/example/motley/motley/CountTree" "size" "I" (.int (5 : Int32))) (F_total_a8_0 : Fld Z h0 a8_0 "com/example/motley/motley/CountTree" "total" "J" (.long w_total_a8_0)) (V_w_tree_a8_0 : Arv Z h0 w_tree_a8_0 kc_w_tree_a8_0 .long (8 : Int32) [(.long t_w_tree_a8_0_0), (.long t_w_tree_a8_0_1), (.long t_w_tree_a8_0_2), (.long t_w_tree_a8_0_3), (.long t_w_tree_a8_0_4), (.long t_w_tree_a8_0_5), (.long t_w_tree_a8_0_6), (.long t_w_tree_a8_0_7)] (.long (0 : Int64))) (g_a8_0 : n0 ≤ a8_0) (ne_w_tree_a8_0_a8_0 : w_tree_a8_0 ≠ a8_0) (g_w_tree_a8_0 : n0 ≤ w_tree_a8_0) :
    MetFree l (⟨"com/example/motley/motley/CountTree", "add", "(IJ)V"⟩ : MethodName) (head1 (Jvm.Cond.code (⟨"com/example/motley/motley/CountTree", "add", "(IJ)V"⟩ : MethodName) prog_14_method_7_code 5 none :: ws) ({ frames := 0, cells := 0, slots := 0, locals := 0 } : Room)) (fun a U => a = #[(.ref a8_0), (.int (4 : Int32)), (.long q8_2)] ∧ Z.Warmed39 U.vm ∧ U.heap = h0) (fun _ _ _ _ _ => True) (fun _ U o U' => ∃ v L, o = .returned v ∧ Q_rm8_5 Z a8_0 q8_2 w_tree_a8_0 w_total_a8_0 kc_w_tree_a8_0 t_w_tree_a8_0_0 t_w_tree_a8_0_1 t_w_tree_a8_0_2 t_w_tree_a8_0_3 t_w_tree_a8_0_4 t_w_tree_a8_0_5 t_w_tree_a8_0_6 t_w_tree_a8_0_7 h0 n0 v U'.heap L ∧ FrameEnd U o U' L ({ frames := 0, cells := 0, slots := 0, locals := 0 } : Room).cells ({ frames := 0, cells := 0, slots := 0, locals := 0 } : Room).slots) := by
  refine MetFree.of_bodySF (plainFor_of_name pn_8) hisR ?_
  intro p e s m args below meth c s₁ Bd hml0 hP hK
  obtain ⟨rfl, hZ, hh⟩ := hP
  have hx := Bd.exec
  have hby := Bd.bytes
  have hml : c.maxLocals = 5 := hml0
  have hown : s.vm.findClass "com/example/motley/motley/CountTree" = some m.cls := findClass_of_methodNamed Bd.named
  have hnm := (name_of_methodNamed Bd.named Bd.method).1
  have X0 : Stand p l e ({ frames := 0, cells := 0, slots := 0, locals := 0 } : Room) s m #[(.ref a8_0), (.int (4 : Int32)), (.long q8_2)] below meth c s₁ [] 0 0 := Stand.of_body Bd
  have e0 : s₁.heap = h0 := by rw [← hh, Bd.state]; rfl
  have N0 := Fr.nil n0
  have pre0 : ∀ t, Steps p.tables e below (s₁.setTop (mkF m 0 #[.val (.ref a8_0), .val (.int (4 : Int32)), .val (.long q8_2), .second, .unset] [])) t → Steps p.tables e below (s₁.setTop (entryFrame m #[(.ref a8_0), (.int (4 : Int32)), (.long q8_2)] 5)) t := fun t k => castTop (ef_rm8_5 m a8_0 q8_2) k
  obtain ⟨T1, X1, e1, st1⟩ := getF X0 hx hZ hown (host := "") (Or.inl (ow45 hw)) Via.refl e0 F_total_a8_0 (g := (mkF m 2 #[.val (.ref a8_0), .val (.int (4 : Int32)), .val (.long q8_2), .second, .unset] [(.ref a8_0), (.ref a8_0)])) rfl rfl (hb hby d8_2)
  obtain ⟨T2, h2, X2, e2, W2, st2⟩ := putF X1 hx hZ hown (host := "") (Or.inl (ow45 hw)) Via.refl e1 F_total_a8_0 E_a8_0 (Or.inl (ow46 hw)) (ow2 hw) (ty := .long) (by decide) rfl rfl (g := (mkF m 7 #[.val (.ref a8_0), .val (.int (4 : Int32)), .val (.long q8_2), .second, .unset] [(.long (w_total_a8_0 + q8_2)), (.ref a8_0)])) rfl rfl (hb hby d8_7)
  have F2 := F_total_a8_0.same W2
  have K2 : Keep h0 h2 [a8_0, w_tree_a8_0] := (Keep.refl h0 [a8_0, w_tree_a8_0]).wr W2 (Or.inl (List.mem_of_getElem? (i := 0) rfl))
  have Z2 : n0 ≤ h2.size := Nat.le_trans Z0 K2.1
  have N2 := Fr.snoc X2 N0 g_a8_0
  have f3 := (F_tree_a8_0.other W2 (Or.inr (slot_ne (Or.inl (ow12 hw)) (Or.inl (ow46 hw)) (by decide) (t := (.array .long)) (t' := .long) (by decide) (by decide))))
  obtain ⟨T4, X4, e4, st4⟩ := getF X2 hx hZ hown (host := "") (Or.inl (ow11 hw)) Via.refl e2 f3 (g := (mkF m 18 #[.val (.ref a8_0), .val (.int (4 : Int32)), .val (.long q8_2), .second, .val (.int (5 : Int32))] [(.ref a8_0), (.int (5 : Int32))])) rfl rfl (hb hby d8_18)
  have f5 := (V_w_tree_a8_0.other W2 ne_w_tree_a8_0_a8_0)
  obtain ⟨cl6, Ar6, qk6, Sz6, Nz6, Hh6, Gf6⟩ := id f5
  obtain ⟨T7, X7, e7, st7⟩ := getF X4 hx hZ hown (host := "") (Or.inl (ow11 hw)) Via.refl e4 f3 (g := (mkF m 26 #[.val (.ref a8_0), .val (.int (4 : Int32)), .val (.long q8_2), .second, .val (.int (5 : Int32))] [(.ref a8_0)])) rfl rfl (hb hby d8_26)
  obtain ⟨cl8, Ar8, qk8, Sz8, Nz8, Hh8, Gf8⟩ := id f5
  obtain ⟨cl9, Ar9, qk9, Sz9, Nz9, Hh9, Gf9⟩ := id f5
  obtain ⟨T10, h10, X10, e10, W10, st10⟩ := stJ X7 hx hZ e7 Ar9 (j := (4 : Int32)) (inb_of Sz9 ⟨by decide, by decide⟩) (g := (mkF m 37 #[.val (.ref a8_0), .val (.int (4 : Int32)), .val (.long q8_2), .second, .val (.int (5 : Int32))] [(.long (t_w_tree_a8_0_4 + q8_2)), (.int (4 : Int32)), (.ref w_tree_a8_0)])) rfl rfl (hb hby d8_37)
  have V10 : Arv Z h10 w_tree_a8_0 kc_w_tree_a8_0 .long (8 : Int32) [(.long t_w_tree_a8_0_0), (.long t_w_tree_a8_0_1), (.long t_w_tree_a8_0_2), (.long t_w_tree_a8_0_3), (.long (t_w_tree_a8_0_4 + q8_2)), (.long t_w_tree_a8_0_5), (.long t_w_tree_a8_0_6), (.long t_w_tree_a8_0_7)] (.long (0 : Int64)) := Arv.set Ar9 qk9 Sz9 Nz9 Hh9 Gf9 rfl W10 4 rfl (Nat.le_of_ble_eq_true rfl)
  have K10 : Keep h0 h10 [a8_0, w_tree_a8_0] := K2.wr W10 (Or.inl (List.mem_of_getElem? (i := 1) rfl))
  have Z10 : n0 ≤ h10.size := Nat.le_trans Z0 K10.1
  have N10 := Fr.snoc X10 N2 g_w_tree_a8_0
  have f11 := (f3.other W10 (Or.inl (Ne.symm ne_w_tree_a8_0_a8_0)))
  obtain ⟨T12, X12, e12, st12⟩ := getF X10 hx hZ hown (host := "") (Or.inl (ow11 hw)) Via.refl e10 f11 (g := (mkF m 18 #[.val (.ref a8_0), .val (.int (4 : Int32)), .val (.long q8_2), .second, .val (.int (6 : Int32))] [(.ref a8_0), (.int (6 : Int32))])) rfl rfl (hb hby d8_18)
  obtain ⟨cl13, Ar13, qk13, Sz13, Nz13, Hh13, Gf13⟩ := id V10
  obtain ⟨T14, X14, e14, st14⟩ := getF X12 hx hZ hown (host := "") (Or.inl (ow11 hw)) Via.refl e12 f11 (g := (mkF m 26 #[.val (.ref a8_0), .val (.int (4 : Int32)), .val (.long q8_2), .second, .val (.int (6 : Int32))] [(.ref a8_0)])) rfl rfl (hb hby d8_26)
  obtain ⟨cl15, Ar15, qk15, Sz15, Nz15, Hh15, Gf15⟩ := id V10
  obtain ⟨cl16, Ar16, qk16, Sz16, Nz16, Hh16, Gf16⟩ := id V10
  obtain ⟨T17, h17, X17, e17, W17, st17⟩ := stJ X14 hx hZ e14 Ar16 (j := (5 : Int32)) (inb_of Sz16 ⟨by decide, by decide⟩) (g := (mkF m 37 #[.val (.ref a8_0), .val (.int (4 : Int32)), .val (.long q8_2), .second, .val (.int (6 : Int32))] [(.long (t_w_tree_a8_0_5 + q8_2)), (.int (5 : Int32)), (.ref w_tree_a8_0)])) rfl rfl (hb hby d8_37)
  have V17 : Arv Z h17 w_tree_a8_0 kc_w_tree_a8_0 .long (8 : Int32) [(.long t_w_tree_a8_0_0), (.long t_w_tree_a8_0_1), (.long t_w_tree_a8_0_2), (.long t_w_tree_a8_0_3), (.long (t_w_tree_a8_0_4 + q8_2)), (.long (t_w_tree_a8_0_5 + q8_2)), (.long t_w_tree_a8_0_6), (.long t_w_tree_a8_0_7)] (.long (0 : Int64)) := Arv.set Ar16 qk16 Sz16 Nz16 Hh16 Gf16 rfl W17 5 rfl (Nat.le_of_ble_eq_true rfl)
  have K17 : Keep h0 h17 [a8_0, w_tree_a8_0] := K10.wr W17 (Or.inl (List.mem_of_getElem? (i := 1) rfl))
  have Z17 : n0 ≤ h17.size := Nat.le_trans Z0 K17.1
  have N17 := Fr.snoc X17 N10 g_w_tree_a8_0
  have f18 := (f11.other W17 (Or.inl (Ne.symm ne_w_tree_a8_0_a8_0)))
  obtain ⟨T19, X19, e19, st19⟩ := getF X17 hx hZ hown (host := "") (Or.inl (ow11 hw)) Via.refl e17 f18 (g := (mkF m 18 #[.val (.ref a8_0), .val (.int (4 : Int32)), .val (.long q8_2), .second, .val (.int (8 : Int32))] [(.ref a8_0), (.int (8 : Int32))])) rfl rfl (hb hby d8_18)
  obtain ⟨cl20, Ar20, qk20, Sz20, Nz20, Hh20, Gf20⟩ := id V17
  obtain ⟨T21, X21, e21, st21⟩ := getF X19 hx hZ hown (host := "") (Or.inl (ow11 hw)) Via.refl e19 f18 (g := (mkF m 26 #[.val (.ref a8_0), .val (.int (4 : Int32)), .val (.long q8_2), .second, .val (.int (8 : Int32))] [(.ref a8_0)])) rfl rfl (hb hby d8_26)
  obtain ⟨cl22, Ar22, qk22, Sz22, Nz22, Hh22, Gf22⟩ := id V17
  obtain ⟨cl23, Ar23, qk23, Sz23, Nz23, Hh23, Gf23⟩ := id V17
  obtain ⟨T24, h24, X24, e24, W24, st24⟩ := stJ X21 hx hZ e21 Ar23 (j := (7 : Int32)) (inb_of Sz23 ⟨by decide, by decide⟩) (g := (mkF m 37 #[.val (.ref a8_0), .val (.int (4 : Int32)), .val (.long q8_2), .second, .val (.int (8 : Int32))] [(.long (t_w_tree_a8_0_7 + q8_2)), (.int (7 : Int32)), (.ref w_tree_a8_0)])) rfl rfl (hb hby d8_37)
  have V24 : Arv Z h24 w_tree_a8_0 kc_w_tree_a8_0 .long (8 : Int32) [(.long t_w_tree_a8_0_0), (.long t_w_tree_a8_0_1), (.long t_w_tree_a8_0_2), (.long t_w_tree_a8_0_3), (.long (t_w_tree_a8_0_4 + q8_2)), (.long (t_w_tree_a8_0_5 + q8_2)), (.long t_w_tree_a8_0_6), (.long (t_w_tree_a8_0_7 + q8_2))] (.long (0 : Int64)) := Arv.set Ar23 qk23 Sz23 Nz23 Hh23 Gf23 rfl W24 7 rfl (Nat.le_of_ble_eq_true rfl)
  have K24 : Keep h0 h24 [a8_0, w_tree_a8_0] := K17.wr W24 (Or.inl (List.mem_of_getElem? (i := 1) rfl))
  have Z24 : n0 ≤ h24.size := Nat.le_trans Z0 K24.1
  have N24 := Fr.snoc X24 N17 g_w_tree_a8_0
  have f25 := (f18.other W24 (Or.inl (Ne.symm ne_w_tree_a8_0_a8_0)))
  obtain ⟨T26, X26, e26, st26⟩ := getF X24 hx hZ hown (host := "") (Or.inl (ow11 hw)) Via.refl e24 f25 (g := (mkF m 18 #[.val (.ref a8_0), .val (.int (4 : Int32)), .val (.long q8_2), .second, .val (.int (16 : Int32))] [(.ref a8_0), (.int (16 : Int32))])) rfl rfl (hb hby d8_18)
  obtain ⟨cl27, Ar27, qk27, Sz27, Nz27, Hh27, Gf27⟩ := id V24
  obtain ⟨fs, hr, hrun, hended, hW, hsame⟩ := X26.leave (v := none) (fun _ => rfl)
  refine ⟨_, _, pre0 _ ?_, hrun, hended, _, _, rfl, ?_, ⟨_, rfl⟩, hW, hsame.mono (by decide) (by decide)⟩
  · show Steps p.tables e below (s₁.setTop (mkF m 0 #[.val (.ref a8_0), .val (.int (4 : Int32)), .val (.long q8_2), .second, .unset] [])) _
    refine XS.aloadN X0.here hx rfl (hb hby d8_0) rfl rfl ?_
    refine XS.dup X0.here hx rfl (hb hby d8_1) rfl rfl ?_
    refine st1 _ ?_
    show Steps p.tables e below (T1.setTop (mkF m 5 #[.val (.ref a8_0), .val (.int (4 : Int32)), .val (.long q8_2), .second, .unset] [(.long w_total_a8_0), (.ref a8_0)])) _
    refine XS.lloadN X1.here hx rfl (hb hby d8_5) rfl ?_
    refine XS.ladd X1.here hx rfl (hb hby d8_6) rfl ?_
    refine st2 _ ?_
    show Steps p.tables e below (T2.setTop (mkF m 10 #[.val (.ref a8_0), .val (.int (4 : Int32)), .val (.long q8_2), .second, .unset] [])) _
    refine XS.iloadN X2.here hx rfl (hb hby d8_10) rfl ?_
    refine XS.iconst X2.here hx rfl (hb hby d8_11) ?_
    refine XS.iadd X2.here hx rfl (hb hby d8_12) rfl ?_
    show Steps p.tables e below (T2.setTop (mkF m 13 #[.val (.ref a8_0), .val (.int (4 : Int32)), .val (.long q8_2), .second, .unset] [(.int (5 : Int32))])) _
    refine XS.istore X2.here hx rfl (hb hby d8_13) rfl (l' := #[.val (.ref a8_0), .val (.int (4 : Int32)), .val (.long q8_2), .second, .val (.int (5 : Int32))]) rfl ?_
    refine XS.iload X2.here hx rfl (hb hby d8_15) rfl ?_
    refine XS.aloadN X2.here hx rfl (hb hby d8_17) rfl rfl ?_
    show Steps p.tables e below (T2.setTop (mkF m 18 #[.val (.ref a8_0), .val (.int (4 : Int32)), .val (.long q8_2), .second, .val (.int (5 : Int32))] [(.ref a8_0), (.int (5 : Int32))])) _
    refine st4 _ ?_
    show Steps p.tables e below (T4.setTop (mkF m 21 #[.val (.ref a8_0), .val (.int (4 : Int32)), .val (.long q8_2), .second, .val (.int (5 : Int32))] [(.ref w_tree_a8_0), (.int (5 : Int32))])) _
    refine X4.arraylength hx (cell := cl6) (by rw [e4]; exact Ar6.1) (State.isArrayOf_alike hZ.alike Ar6.2.1) (g := (mkF m 21 #[.val (.ref a8_0), .val (.int (4 : Int32)), .val (.long q8_2), .second, .val (.int (5 : Int32))] [(.ref w_tree_a8_0), (.int (5 : Int32))])) rfl (rest := [(.int (5 : Int32))]) rfl (hb hby d8_21) _ ?_
    rw [len_of Sz6 Nz6]
    show Steps p.tables e below (T4.setTop (mkF m 22 #[.val (.ref a8_0), .val (.int (4 : Int32)), .val (.long q8_2), .second, .val (.int (5 : Int32))] [(.int (8 : Int32)), (.int (5 : Int32))])) _
    refine XS.icmpNo X4.here hx rfl (hb hby d8_22) rfl (flt (by decide : ¬ ((8 : Int32) < (5 : Int32)))).2.2.1 ?_
    refine XS.aloadN X4.here hx rfl (hb hby d8_25) rfl rfl ?_
    refine st7 _ ?_
    show Steps p.tables e below (T7.setTop (mkF m 29 #[.val (.ref a8_0), .val (.int (4 : Int32)), .val (.long q8_2), .second, .val (.int (5 : Int32))] [(.ref w_tree_a8_0)])) _
    refine XS.iload X7.here hx rfl (hb hby d8_29) rfl ?_
    refine XS.iconst X7.here hx rfl (hb hby d8_31) ?_
    refine XS.isub X7.here hx rfl (hb hby d8_32) rfl ?_
    show Steps p.tables e below (T7.setTop (mkF m 33 #[.val (.ref a8_0), .val (.int (4 : Int32)), .val (.long q8_2), .second, .val (.int (5 : Int32))] [(.int (4 : Int32)), (.ref w_tree_a8_0)])) _
    jvm_step X7.here [X7.here.top, hx, (hb hby d8_33), Value.category]
    refine X7.laload hx (j := (4 : Int32)) (v := (.long t_w_tree_a8_0_4)) (by rw [e7]; exact Ar8.1) (State.isArrayOf_alike hZ.alike Ar8.2.1) Ar8.2.2 (inb_of Sz8 ⟨by decide, by decide⟩) (Hh8.at (inb_of Sz8 ⟨by decide, by decide⟩) rfl) (g := (mkF m 34 #[.val (.ref a8_0), .val (.int (4 : Int32)), .val (.long q8_2), .second, .val (.int (5 : Int32))] [(.int (4 : Int32)), (.ref w_tree_a8_0), (.int (4 : Int32)), (.ref w_tree_a8_0)])) rfl rfl (hb hby d8_34) _ ?_
    refine XS.lloadN X7.here hx rfl (hb hby d8_35) rfl ?_
    show Steps p.tables e below (T7.setTop (mkF m 36 #[.val (.ref a8_0), .val (.int (4 : Int32)), .val (.long q8_2), .second, .val (.int (5 : Int32))] [(.long q8_2), (.long t_w_tree_a8_0_4), (.int (4 : Int32)), (.ref w_tree_a8_0)])) _
    refine XS.ladd X7.here hx rfl (hb hby d8_36) rfl ?_
    refine st10 _ ?_
    refine XS.iload X10.here hx rfl (hb hby d8_38) rfl ?_
    show Steps p.tables e below (T10.setTop (mkF m 40 #[.val (.ref a8_0), .val (.int (4 : Int32)), .val (.long q8_2), .second, .val (.int (5 : Int32))] [(.int (5 : Int32))])) _
    refine XS.iload X10.here hx rfl (hb hby d8_40) rfl ?_
    refine XS.iload X10.here hx rfl (hb hby d8_42) rfl ?_
    refine XS.ineg X10.here hx rfl (hb hby d8_44) rfl ?_
    show Steps p.tables e below (T10.setTop (mkF m 45 #[.val (.ref a8_0), .val (.int (4 : Int32)), .val (.long q8_2), .second, .val (.int (5 : Int32))] [(.int (-5 : Int32)), (.int (5 : Int32)), (.int (5 : Int32))])) _
    refine XS.iand X10.here hx rfl (hb hby d8_45) rfl ?_
    refine XS.iadd X10.here hx rfl (hb hby d8_46) rfl ?_
    refine XS.istore X10.here hx rfl (hb hby d8_47) rfl (l' := #[.val (.ref a8_0), .val (.int (4 : Int32)), .val (.long q8_2), .second, .val (.int (6 : Int32))]) rfl ?_
    show Steps p.tables e below (T10.setTop (mkF m 49 #[.val (.ref a8_0), .val (.int (4 : Int32)), .val (.long q8_2), .second, .val (.int (6 : Int32))] [])) _
    refine XS.goto X10.here hx rfl (pc0 := 49) (pc' := 15) rfl (hb hby d8_49) (by decide) (by decide) ?_
    refine XS.iload X10.here hx rfl (hb hby d8_15) rfl ?_
    refine XS.aloadN X10.here hx rfl (hb hby d8_17) rfl rfl ?_
    show Steps p.tables e below (T10.setTop (mkF m 18 #[.val (.ref a8_0), .val (.int (4 : Int32)), .val (.long q8_2), .second, .val (.int (6 : Int32))] [(.ref a8_0), (.int (6 : Int32))])) _
    refine st12 _ ?_
    show Steps p.tables e below (T12.setTop (mkF m 21 #[.val (.ref a8_0), .val (.int (4 : Int32)), .val (.long q8_2), .second, .val (.int (6 : Int32))] [(.ref w_tree_a8_0), (.int (6 : Int32))])) _
    refine X12.arraylength hx (cell := cl13) (by rw [e12]; exact Ar13.1) (State.isArrayOf_alike hZ.alike Ar13.2.1) (g := (mkF m 21 #[.val (.ref a8_0), .val (.int (4 : Int32)), .val (.long q8_2), .second, .val (.int (6 : Int32))] [(.ref w_tree_a8_0), (.int (6 : Int32))])) rfl (rest := [(.int (6 : Int32))]) rfl (hb hby d8_21) _ ?_
    rw [len_of Sz13 Nz13]
    show Steps p.tables e below (T12.setTop (mkF m 22 #[.val (.ref a8_0), .val (.int (4 : Int32)), .val (.long q8_2), .second, .val (.int (6 : Int32))] [(.int (8 : Int32)), (.int (6 : Int32))])) _
    refine XS.icmpNo X12.here hx rfl (hb hby d8_22) rfl (flt (by decide : ¬ ((8 : Int32) < (6 : Int32)))).2.2.1 ?_
    refine XS.aloadN X12.here hx rfl (hb hby d8_25) rfl rfl ?_
    refine st14 _ ?_
    show Steps p.tables e below (T14.setTop (mkF m 29 #[.val (.ref a8_0), .val (.int (4 : Int32)), .val (.long q8_2), .second, .val (.int (6 : Int32))] [(.ref w_tree_a8_0)])) _
    refine XS.iload X14.here hx rfl (hb hby d8_29) rfl ?_
    refine XS.iconst X14.here hx rfl (hb hby d8_31) ?_
    refine XS.isub X14.here hx rfl (hb hby d8_32) rfl ?_
    show Steps p.tables e below (T14.setTop (mkF m 33 #[.val (.ref a8_0), .val (.int (4 : Int32)), .val (.long q8_2), .second, .val (.int (6 : Int32))] [(.int (5 : Int32)), (.ref w_tree_a8_0)])) _
    jvm_step X14.here [X14.here.top, hx, (hb hby d8_33), Value.category]
    refine X14.laload hx (j := (5 : Int32)) (v := (.long t_w_tree_a8_0_5)) (by rw [e14]; exact Ar15.1) (State.isArrayOf_alike hZ.alike Ar15.2.1) Ar15.2.2 (inb_of Sz15 ⟨by decide, by decide⟩) (Hh15.at (inb_of Sz15 ⟨by decide, by decide⟩) rfl) (g := (mkF m 34 #[.val (.ref a8_0), .val (.int (4 : Int32)), .val (.long q8_2), .second, .val (.int (6 : Int32))] [(.int (5 : Int32)), (.ref w_tree_a8_0), (.int (5 : Int32)), (.ref w_tree_a8_0)])) rfl rfl (hb hby d8_34) _ ?_
    refine XS.lloadN X14.here hx rfl (hb hby d8_35) rfl ?_
    show Steps p.tables e below (T14.setTop (mkF m 36 #[.val (.ref a8_0), .val (.int (4 : Int32)), .val (.long q8_2), .second, .val (.int (6 : Int32))] [(.long q8_2), (.long t_w_tree_a8_0_5), (.int (5 : Int32)), (.ref w_tree_a8_0)])) _
    refine XS.ladd X14.here hx rfl (hb hby d8_36) rfl ?_
    refine st17 _ ?_
    refine XS.iload X17.here hx rfl (hb hby d8_38) rfl ?_
    show Steps p.tables e below (T17.setTop (mkF m 40 #[.val (.ref a8_0), .val (.int (4 : Int32)), .val (.long q8_2), .second, .val (.int (6 : Int32))] [(.int (6 : Int32))])) _
    refine XS.iload X17.here hx rfl (hb hby d8_40) rfl ?_
    refine XS.iload X17.here hx rfl (hb hby d8_42) rfl ?_
    refine XS.ineg X17.here hx rfl (hb hby d8_44) rfl ?_
    show Steps p.tables e below (T17.setTop (mkF m 45 #[.val (.ref a8_0), .val (.int (4 : Int32)), .val (.long q8_2), .second, .val (.int (6 : Int32))] [(.int (-6 : Int32)), (.int (6 : Int32)), (.int (6 : Int32))])) _
    refine XS.iand X17.here hx rfl (hb hby d8_45) rfl ?_
    refine XS.iadd X17.here hx rfl (hb hby d8_46) rfl ?_
    refine XS.istore X17.here hx rfl (hb hby d8_47) rfl (l' := #[.val (.ref a8_0), .val (.int (4 : Int32)), .val (.long q8_2), .second, .val (.int (8 : Int32))]) rfl ?_
    show Steps p.tables e below (T17.setTop (mkF m 49 #[.val (.ref a8_0), .val (.int (4 : Int32)), .val (.long q8_2), .second, .val (.int (8 : Int32))] [])) _
    refine XS.goto X17.here hx rfl (pc0 := 49) (pc' := 15) rfl (hb hby d8_49) (by decide) (by decide) ?_
    refine XS.iload X17.here hx rfl (hb hby d8_15) rfl ?_
    refine XS.aloadN X17.here hx rfl (hb hby d8_17) rfl rfl ?_
    show Steps p.tables e below (T17.setTop (mkF m 18 #[.val (.ref a8_0), .val (.int (4 : Int32)), .val (.long q8_2), .second, .val (.int (8 : Int32))] [(.ref a8_0), (.int (8 : Int32))])) _
    refine st19 _ ?_
    show Steps p.tables e below (T19.setTop (mkF m 21 #[.val (.ref a8_0), .val (.int (4 : Int32)), .val (.long q8_2), .second, .val (.int (8 : Int32))] [(.ref w_tree_a8_0), (.int (8 : Int32))])) _
    refine X19.arraylength hx (cell := cl20) (by rw [e19]; exact Ar20.1) (State.isArrayOf_alike hZ.alike Ar20.2.1) (g := (mkF m 21 #[.val (.ref a8_0), .val (.int (4 : Int32)), .val (.long q8_2), .second, .val (.int (8 : Int32))] [(.ref w_tree_a8_0), (.int (8 : Int32))])) rfl (rest := [(.int (8 : Int32))]) rfl (hb hby d8_21) _ ?_
    rw [len_of Sz20 Nz20]
    show Steps p.tables e below (T19.setTop (mkF m 22 #[.val (.ref a8_0), .val (.int (4 : Int32)), .val (.long q8_2), .second, .val (.int (8 : Int32))] [(.int (8 : Int32)), (.int (8 : Int32))])) _
    refine XS.icmpNo X19.here hx rfl (hb hby d8_22) rfl (flt (by decide : ¬ ((8 : Int32) < (8 : Int32)))).2.2.1 ?_
    refine XS.aloadN X19.here hx rfl (hb hby d8_25) rfl rfl ?_
    refine st21 _ ?_
    show Steps p.tables e below (T21.setTop (mkF m 29 #[.val (.ref a8_0), .val (.int (4 : Int32)), .val (.long q8_2), .second, .val (.int (8 : Int32))] [(.ref w_tree_a8_0)])) _
    refine XS.iload X21.here hx rfl (hb hby d8_29) rfl ?_
    refine XS.iconst X21.here hx rfl (hb hby d8_31) ?_
    refine XS.isub X21.here hx rfl (hb hby d8_32) rfl ?_
    show Steps p.tables e below (T21.setTop (mkF m 33 #[.val (.ref a8_0), .val (.int (4 : Int32)), .val (.long q8_2), .second, .val (.int (8 : Int32))] [(.int (7 : Int32)), (.ref w_tree_a8_0)])) _
    jvm_step X21.here [X21.here.top, hx, (hb hby d8_33), Value.category]
    refine X21.laload hx (j := (7 : Int32)) (v := (.long t_w_tree_a8_0_7)) (by rw [e21]; exact Ar22.1) (State.isArrayOf_alike hZ.alike Ar22.2.1) Ar22.2.2 (inb_of Sz22 ⟨by decide, by decide⟩) (Hh22.at (inb_of Sz22 ⟨by decide, by decide⟩) rfl) (g := (mkF m 34 #[.val (.ref a8_0), .val (.int (4 : Int32)), .val (.long q8_2), .second, .val (.int (8 : Int32))] [(.int (7 : Int32)), (.ref w_tree_a8_0), (.int (7 : Int32)), (.ref w_tree_a8_0)])) rfl rfl (hb hby d8_34) _ ?_
    refine XS.lloadN X21.here hx rfl (hb hby d8_35) rfl ?_
    show Steps p.tables e below (T21.setTop (mkF m 36 #[.val (.ref a8_0), .val (.int (4 : Int32)), .val (.long q8_2), .second, .val (.int (8 : Int32))] [(.long q8_2), (.long t_w_tree_a8_0_7), (.int (7 : Int32)), (.ref w_tree_a8_0)])) _
    refine XS.ladd X21.here hx rfl (hb hby d8_36) rfl ?_
    refine st24 _ ?_
    refine XS.iload X24.here hx rfl (hb hby d8_38) rfl ?_
    show Steps p.tables e below (T24.setTop (mkF m 40 #[.val (.ref a8_0), .val (.int (4 : Int32)), .val (.long q8_2), .second, .val (.int (8 : Int32))] [(.int (8 : Int32))])) _
    refine XS.iload X24.here hx rfl (hb hby d8_40) rfl ?_
    refine XS.iload X24.here hx rfl (hb hby d8_42) rfl ?_
    refine XS.ineg X24.here hx rfl (hb hby d8_44) rfl ?_
    show Steps p.tables e below (T24.setTop (mkF m 45 #[.val (.ref a8_0), .val (.int (4 : Int32)), .val (.long q8_2), .second, .val (.int (8 : Int32))] [(.int (-8 : Int32)), (.int (8 : Int32)), (.int (8 : Int32))])) _
    refine XS.iand X24.here hx rfl (hb hby d8_45) rfl ?_
    refine XS.iadd X24.here hx rfl (hb hby d8_46) rfl ?_
    refine XS.istore X24.here hx rfl (hb hby d8_47) rfl (l' := #[.val (.ref a8_0), .val (.int (4 : Int32)), .val (.long q8_2), .second, .val (.int (16 : Int32))]) rfl ?_
    show Steps p.tables e below (T24.setTop (mkF m 49 #[.val (.ref a8_0), .val (.int (4 : Int32)), .val (.long q8_2), .second, .val (.int (16 : Int32))] [])) _
    refine XS.goto X24.here hx rfl (pc0 := 49) (pc' := 15) rfl (hb hby d8_49) (by decide) (by decide) ?_
    refine XS.iload X24.here hx rfl (hb hby d8_15) rfl ?_
    refine XS.aloadN X24.here hx rfl (hb hby d8_17) rfl rfl ?_
    show Steps p.tables e below (T24.setTop (mkF m 18 #[.val (.ref a8_0), .val (.int (4 : Int32)), .val (.long q8_2), .second, .val (.int (16 : Int32))] [(.ref a8_0), (.int (16 : Int32))])) _
    refine st26 _ ?_
    show Steps p.tables e below (T26.setTop (mkF m 21 #[.val (.ref a8_0), .val (.int (4 : Int32)), .val (.long q8_2), .second, .val (.int (16 : Int32))] [(.ref w_tree_a8_0), (.int (16 : Int32))])) _
    refine X26.arraylength hx (cell := cl27) (by rw [e26]; exact Ar27.1) (State.isArrayOf_alike hZ.alike Ar27.2.1) (g := (mkF m 21 #[.val (.ref a8_0), .val (.int (4 : Int32)), .val (.long q8_2), .second, .val (.int (16 : Int32))] [(.ref w_tree_a8_0), (.int (16 : Int32))])) rfl (rest := [(.int (16 : Int32))]) rfl (hb hby d8_21) _ ?_
    rw [len_of Sz27 Nz27]
    show Steps p.tables e below (T26.setTop (mkF m 22 #[.val (.ref a8_0), .val (.int (4 : Int32)), .val (.long q8_2), .second, .val (.int (16 : Int32))] [(.int (8 : Int32)), (.int (16 : Int32))])) _
    refine XS.icmpYes X26.here hx rfl (pc0 := 22) (pc' := 52) rfl (hb hby d8_22) rfl (tlt (by decide : (8 : Int32) < (16 : Int32))).2.2.1 (by decide) (by decide) ?_
    show Steps p.tables e below (T26.setTop (mkF m 52 #[.val (.ref a8_0), .val (.int (4 : Int32)), .val (.long q8_2), .second, .val (.int (16 : Int32))] [])) _
    exact X26.returnOut hx Bd.returns (hb hby d8_52) hr
  · have f28 := ((((E_a8_0.wr W2).wr W10).wr W17).wr W24)
    have f29 := ((((F_size_a8_0.other W2 (Or.inr (slot_ne (Or.inl (ow24 hw)) (Or.inl (ow46 hw)) (by decide) (t := .int) (t' := .long) (by decide) (by decide)))).other W10 (Or.inl (Ne.symm ne_w_tree_a8_0_a8_0))).other W17 (Or.inl (Ne.symm ne_w_tree_a8_0_a8_0))).other W24 (Or.inl (Ne.symm ne_w_tree_a8_0_a8_0)))
    have f30 := (((F2.other W10 (Or.inl (Ne.symm ne_w_tree_a8_0_a8_0))).other W17 (Or.inl (Ne.symm ne_w_tree_a8_0_a8_0))).other W24 (Or.inl (Ne.symm ne_w_tree_a8_0_a8_0)))
    show Q_rm8_5 Z a8_0 q8_2 w_tree_a8_0 w_total_a8_0 kc_w_tree_a8_0 t_w_tree_a8_0_0 t_w_tree_a8_0_1 t_w_tree_a8_0_2 t_w_tree_a8_0_3 t_w_tree_a8_0_4 t_w_tree_a8_0_5 t_w_tree_a8_0_6 t_w_tree_a8_0_7 h0 n0 _ T26.heap _
    rw [e26]
    exact ⟨rfl, N24, K24, f28, f25, f29, f30, V24⟩
theorem ef_rm3_5 (m : MethodId) (y0 : Addr) (y1 : Int64) : entryFrame m #[(.ref y0), (.long y1)] 3 = mkF m 0 #[.val (.ref y0), .val (.long y1), .second] [] := by first | (simp [entryFrame, mkF, argsToLocals, Value.category]; done) | rfl
def Q_rm3_5 (Z : State) (a3_0 : Addr) (q3_1 : Int64) (w_tree_a3_0 : Addr) (w_total_a3_0 : Int64) (kc_w_tree_a3_0 : ClassId) (t_w_tree_a3_0_0 : Int64) (t_w_tree_a3_0_1 : Int64) (t_w_tree_a3_0_2 : Int64) (t_w_tree_a3_0_3 : Int64) (h0 : Heap) (n0 : Nat) (v : Option Value) (h : Heap) (L : List Loc) : Prop := ∃ bx3_0 : Addr, ∃ kx3_0 : ClassId, v = none ∧ Fr n0 L ∧ Keep h0 h [a3_0] ∧ h0.size ≤ bx3_0 ∧ Exa Z h a3_0 "com/example/motley/motley/CountTree" ∧ Fld Z h a3_0 "com/example/motley/motley/CountTree" "tree" "[J" (.ref bx3_0) ∧ Fld Z h a3_0 "com/example/motley/motley/CountTree" "size" "I" (.int (5 : Int32)) ∧ Fld Z h a3_0 "com/example/motley/motley/CountTree" "total" "J" (.long (w_total_a3_0 + q3_1)) ∧ Arv Z h bx3_0 kx3_0 .long (8 : Int32) [(.long t_w_tree_a3_0_0), (.long t_w_tree_a3_0_1), (.long t_w_tree_a3_0_2), (.long t_w_tree_a3_0_3), (.long ((0 : Int64) + q3_1)), (.long ((0 : Int64) + q3_1)), (.long (0 : Int64)), (.long ((w_total_a3_0 - (0 : Int64)) + q3_1))] (.long (0 : Int64))
set_option maxRecDepth 65536 in
set_option maxHeartbeats 40000000 in
theorem rm3_5 (l : Launch) (Z : State) (a0 : Array Value) (hw : ∀ d ∈ tables_1, d.before a0 Z = true) (ws : List Jvm.Cond) (a3_0 : Addr) (q3_1 : Int64) (w_tree_a3_0 : Addr) (w_total_a3_0 : Int64) (kc_w_tree_a3_0 : ClassId) (t_w_tree_a3_0_0 : Int64) (t_w_tree_a3_0_1 : Int64) (t_w_tree_a3_0_2 : Int64) (t_w_tree_a3_0_3 : Int64) (h0 : Heap) (n0 : Nat) (Z0 : n0 ≤ h0.size) (E_a3_0 : Exa Z h0 a3_0 "com/example/motley/motley/CountTree") (F_tree_a3_0 : Fld Z h0 a3_0 "com/example/motley/motley/CountTree" "tree" "[J" (.ref w_tree_a3_0)) (F_size_a3_0 : Fld Z h0 a3_0 "com/example/motley/motley/CountTree" "size" "I" (.int (4 : Int32))) (F_total_a3_0 : Fld Z h0 a3_0 "com/example/motley/motley/CountTree" "total" "J" (.long w_total_a3_0)) (V_w_tree_a3_0 : Arv Z h0 w_tree_a3_0 kc_w_tree_a3_0 .long (4 : Int32) [(.long t_w_tree_a3_0_0), (.long t_w_tree_a3_0_1), (.long t_w_tree_a3_0_2), (.long t_w_tree_a3_0_3)] (.long (0 : Int64))) (g_a3_0 : n0 ≤ a3_0) :
    MetFree l (⟨"com/example/motley/motley/CountTree", "append", "(J)V"⟩ : MethodName) (head1 (Jvm.Cond.code (⟨"com/example/motley/motley/CountTree", "append", "(J)V"⟩ : MethodName) prog_14_method_4_code 3 none :: ws) ({ frames := 3, cells := 1, slots := 8, locals := 50 } : Room)) (fun a U => a = #[(.ref a3_0), (.long q3_1)] ∧ Z.Warmed39 U.vm ∧ U.heap = h0) (fun _ _ _ _ _ => True) (fun _ U o U' => ∃ v L, o = .returned v ∧ Q_rm3_5 Z a3_0 q3_1 w_tree_a3_0 w_total_a3_0 kc_w_tree_a3_0 t_w_tree_a3_0_0 t_w_tree_a3_0_1 t_w_tree_a3_0_2 t_w_tree_a3_0_3 h0 n0 v U'.heap L ∧ FrameEnd U o U' L ({ frames := 3, cells := 1, slots := 8, locals := 50 } : Room).cells ({ frames := 3, cells := 1, slots := 8, locals := 50 } : Room).slots) := by
  refine MetFree.of_bodySF (plainFor_of_name pn_3) hisR ?_
  intro p e s m args below meth c s₁ Bd hml0 hP hK
  obtain ⟨rfl, hZ, hh⟩ := hP
  have hx := Bd.exec
  have hby := Bd.bytes
  have hml : c.maxLocals = 3 := hml0
  have hown : s.vm.findClass "com/example/motley/motley/CountTree" = some m.cls := findClass_of_methodNamed Bd.named
  have hnm := (name_of_methodNamed Bd.named Bd.method).1
  have X0 : Stand p l e ({ frames := 3, cells := 1, slots := 8, locals := 50 } : Room) s m #[(.ref a3_0), (.long q3_1)] below meth c s₁ [] 0 0 := Stand.of_body Bd
  have e0 : s₁.heap = h0 := by rw [← hh, Bd.state]; rfl
  have N0 := Fr.nil n0
  have pre0 : ∀ t, Steps p.tables e below (s₁.setTop (mkF m 0 #[.val (.ref a3_0), .val (.long q3_1), .second] [])) t → Steps p.tables e below (s₁.setTop (entryFrame m #[(.ref a3_0), (.long q3_1)] 3)) t := fun t k => castTop (ef_rm3_5 m a3_0 q3_1) k
  obtain ⟨cq1, kq1, q1a, q1b, q1c⟩ := isOf hZ e0 E_a3_0
  obtain ⟨_, _, ⟨T1, L1, k1, n1⟩, -, X1, ⟨Lc1, hQ1, l1, y1, z1⟩, st1⟩ := X0.virtualBack hx (y := (⟨"com/example/motley/motley/CountTree", "reserve", "(I)V"⟩ : MethodName)) (z := (⟨"com/example/motley/motley/CountTree", "reserve", "(I)V"⟩ : MethodName)) hown (mvT hZ (ow18 hw)) (mvT hZ (ow19 hw)) (notFace_of_selects (args := #[]) (mvT hZ (ow21 hw))) (mvT hZ (ow21 hw)) (mvT hZ (ow20 hw)) (by decide) (backOf (W := 0) (rm4_5 l Z a0 hw [] a3_0 w_tree_a3_0 w_total_a3_0 kc_w_tree_a3_0 t_w_tree_a3_0_0 t_w_tree_a3_0_1 t_w_tree_a3_0_2 t_w_tree_a3_0_3 h0 n0 Z0 E_a3_0 F_tree_a3_0 F_size_a3_0 F_total_a3_0 V_w_tree_a3_0 g_a3_0) hZ (ow22 hw) (ow3 hw) (by decide) (by decide)) q1a q1c (g := (mkF m 2 #[.val (.ref a3_0), .val (.long q3_1), .second] [(.int (1 : Int32)), (.ref a3_0)])) rfl (by rw [hml]; rfl) (Steps.refl _) (argsL := [(.int (1 : Int32))]) (rest := []) (lenOf pd__I_V rfl) rfl (by show 2 * 0 + _ ≤ _; exact Nat.le_of_eq rfl) (hb hby d3_2) (fun _ _ => ⟨rfl, e0, (by decide : 0 + 1 ≤ _), (by decide : 0 + 8 ≤ _)⟩)
  dsimp only [Pt.U, Pt.locs, Pt.cells, Pt.slots] at X1 l1 y1 z1 st1 hQ1
  subst l1 y1 z1
  obtain ⟨bx4_0_1, kx4_0_1, rfl, Nq1, Kc1, P1_0, P1_1, P1_2, P1_3, P1_4, P1_5⟩ := hQ1
  have K1 : Keep h0 T1.heap [a3_0] := Keep.trans (Keep.refl h0 [a3_0]) Kc1 (allS (P := fun x => x ∈ ([a3_0] : List Addr) ∨ h0.size ≤ x) (Or.inl (List.mem_of_getElem? (i := 0) rfl)) all0)
  have Z1 : n0 ≤ T1.heap.size := Nat.le_trans Z0 K1.1
  have g_bx4_0_1 : n0 ≤ bx4_0_1 := Nat.le_trans Z0 P1_0
  have sz_bx4_0_1 : h0.size ≤ bx4_0_1 := Nat.le_trans (Nat.le_refl _) P1_0
  have ne_a3_0_bx4_0_1 : a3_0 ≠ bx4_0_1 := Nat.ne_of_lt (Nat.lt_of_lt_of_le E_a3_0.lt P1_0)
  have ne_w_tree_a3_0_bx4_0_1 : w_tree_a3_0 ≠ bx4_0_1 := Nat.ne_of_lt (Nat.lt_of_lt_of_le V_w_tree_a3_0.lt P1_0)
  obtain ⟨y2, hy2⟩ : ∃ z : Int64, z = (w_total_a3_0 - (0 : Int64)) := ⟨_, rfl⟩
  rw [← hy2] at P1_5
  have N1 := Fr.app N0 Nq1
  obtain ⟨T3, X3, e3, st3⟩ := getF X1 hx hZ hown (host := "") (Or.inl (ow23 hw)) Via.refl rfl P1_3 (g := (mkF m 7 #[.val (.ref a3_0), .val (.long q3_1), .second] [(.ref a3_0), (.ref a3_0)])) rfl rfl (hb hby d3_7)
  obtain ⟨T4, h4, X4, e4, W4, st4⟩ := putF X3 hx hZ hown (host := "") (Or.inl (ow23 hw)) Via.refl e3 P1_3 P1_1 (Or.inl (ow24 hw)) (ow2 hw) (ty := .int) (by decide) rfl rfl (g := (mkF m 12 #[.val (.ref a3_0), .val (.long q3_1), .second] [(.int (5 : Int32)), (.ref a3_0)])) rfl rfl (hb hby d3_12)
  have F4 := P1_3.same W4
  have K4 : Keep h0 h4 [a3_0] := K1.wr W4 (Or.inl (List.mem_of_getElem? (i := 0) rfl))
  have Z4 : n0 ≤ h4.size := Nat.le_trans Z0 K4.1
  have N4 := Fr.snoc X4 N1 g_a3_0
  obtain ⟨T5, X5, e5, st5⟩ := getF X4 hx hZ hown (host := "") (Or.inl (ow23 hw)) Via.refl e4 F4 (g := (mkF m 17 #[.val (.ref a3_0), .val (.long q3_1), .second] [(.ref a3_0), (.ref a3_0)])) rfl rfl (hb hby d3_17)
  have f6 := (P1_5.other W4 (Ne.symm ne_a3_0_bx4_0_1))
  have f7 := (P1_1.wr W4)
  have f8 := (P1_2.other W4 (Or.inr (slot_ne (Or.inl (ow12 hw)) (Or.inl (ow24 hw)) (by decide) (t := (.array .long)) (t' := .int) (by decide) (by decide))))
  have f9 := (P1_4.other W4 (Or.inr (slot_ne (Or.inl (ow46 hw)) (Or.inl (ow24 hw)) (by decide) (t := .long) (t' := .int) (by decide) (by decide))))
  obtain ⟨cq10, kq10, q10a, q10b, q10c⟩ := isOf hZ e5 f7
  obtain ⟨_, _, ⟨T10, L10, k10, n10⟩, -, X10, ⟨Lc10, hQ10, l10, y10, z10⟩, st10⟩ := X5.virtualBack hx (y := (⟨"com/example/motley/motley/CountTree", "add", "(IJ)V"⟩ : MethodName)) (z := (⟨"com/example/motley/motley/CountTree", "add", "(IJ)V"⟩ : MethodName)) hown (mvT hZ (ow40 hw)) (mvT hZ (ow41 hw)) (notFace_of_selects (args := #[]) (mvT hZ (ow43 hw))) (mvT hZ (ow43 hw)) (mvT hZ (ow42 hw)) (by decide) (backOf (W := 0) (rm8_5 l Z a0 hw [] a3_0 q3_1 bx4_0_1 w_total_a3_0 kx4_0_1 t_w_tree_a3_0_0 t_w_tree_a3_0_1 t_w_tree_a3_0_2 t_w_tree_a3_0_3 (0 : Int64) (0 : Int64) (0 : Int64) y2 h4 n0 Z4 f7 f8 F4 f9 f6 g_a3_0 (Ne.symm ne_a3_0_bx4_0_1) g_bx4_0_1) hZ (ow44 hw) (ow3 hw) (by decide) (by decide)) q10a q10c (g := (mkF m 23 #[.val (.ref a3_0), .val (.long q3_1), .second] [(.long q3_1), (.int (4 : Int32)), (.ref a3_0)])) rfl (by rw [hml]; rfl) (Steps.refl _) (argsL := [(.int (4 : Int32)), (.long q3_1)]) (rest := []) (lenOf pd__IJ_V rfl) rfl (by show 2 * 0 + _ ≤ _; exact Nat.le_of_eq rfl) (hb hby d3_23) (fun _ _ => ⟨rfl, e5, (by decide : 1 + 0 ≤ _), (by decide : 8 + 0 ≤ _)⟩)
  dsimp only [Pt.U, Pt.locs, Pt.cells, Pt.slots] at X10 l10 y10 z10 st10 hQ10
  subst l10 y10 z10
  obtain ⟨rfl, Nq10, Kc10, P10_0, P10_1, P10_2, P10_3, P10_4⟩ := hQ10
  have K10 : Keep h0 T10.heap [a3_0] := Keep.trans K4 Kc10 (allS (P := fun x => x ∈ ([a3_0] : List Addr) ∨ h0.size ≤ x) (Or.inl (List.mem_of_getElem? (i := 0) rfl)) (allS (P := fun x => x ∈ ([a3_0] : List Addr) ∨ h0.size ≤ x) (Or.inr sz_bx4_0_1) all0))
  have Z10 : n0 ≤ T10.heap.size := Nat.le_trans Z0 K10.1
  obtain ⟨y11, hy11⟩ : ∃ z : Int64, z = (w_total_a3_0 + q3_1) := ⟨_, rfl⟩
  rw [← hy11] at P10_3
  obtain ⟨y12, hy12⟩ : ∃ z : Int64, z = ((0 : Int64) + q3_1) := ⟨_, rfl⟩
  rw [← hy12] at P10_4
  obtain ⟨y13, hy13⟩ : ∃ z : Int64, z = (y2 + q3_1) := ⟨_, rfl⟩
  rw [← hy13] at P10_4
  have N10 := Fr.app N4 Nq10
  obtain ⟨fs, hr, hrun, hended, hW, hsame⟩ := X10.leave (v := none) (fun _ => rfl)
  refine ⟨_, _, pre0 _ ?_, hrun, hended, _, _, rfl, ?_, ⟨_, rfl⟩, hW, hsame.mono (by decide) (by decide)⟩
  · show Steps p.tables e below (s₁.setTop (mkF m 0 #[.val (.ref a3_0), .val (.long q3_1), .second] [])) _
    refine XS.aloadN X0.here hx rfl (hb hby d3_0) rfl rfl ?_
    refine XS.iconst X0.here hx rfl (hb hby d3_1) ?_
    refine st1.trans ?_
    show Steps p.tables e below (T1.setTop (mkF m 5 #[.val (.ref a3_0), .val (.long q3_1), .second] [])) _
    refine XS.aloadN X1.here hx rfl (hb hby d3_5) rfl rfl ?_
    refine XS.dup X1.here hx rfl (hb hby d3_6) rfl rfl ?_
    refine st3 _ ?_
    show Steps p.tables e below (T3.setTop (mkF m 10 #[.val (.ref a3_0), .val (.long q3_1), .second] [(.int (4 : Int32)), (.ref a3_0)])) _
    refine XS.iconst X3.here hx rfl (hb hby d3_10) ?_
    refine XS.iadd X3.here hx rfl (hb hby d3_11) rfl ?_
    refine st4 _ ?_
    show Steps p.tables e below (T4.setTop (mkF m 15 #[.val (.ref a3_0), .val (.long q3_1), .second] [])) _
    refine XS.aloadN X4.here hx rfl (hb hby d3_15) rfl rfl ?_
    refine XS.aloadN X4.here hx rfl (hb hby d3_16) rfl rfl ?_
    refine st5 _ ?_
    show Steps p.tables e below (T5.setTop (mkF m 20 #[.val (.ref a3_0), .val (.long q3_1), .second] [(.int (5 : Int32)), (.ref a3_0)])) _
    refine XS.iconst X5.here hx rfl (hb hby d3_20) ?_
    refine XS.isub X5.here hx rfl (hb hby d3_21) rfl ?_
    refine XS.lloadN X5.here hx rfl (hb hby d3_22) rfl ?_
    show Steps p.tables e below (T5.setTop (mkF m 23 #[.val (.ref a3_0), .val (.long q3_1), .second] [(.long q3_1), (.int (4 : Int32)), (.ref a3_0)])) _
    refine st10.trans ?_
    show Steps p.tables e below (T10.setTop (mkF m 26 #[.val (.ref a3_0), .val (.long q3_1), .second] [])) _
    exact X10.returnOut hx Bd.returns (hb hby d3_26) hr
  · show Q_rm3_5 Z a3_0 q3_1 w_tree_a3_0 w_total_a3_0 kc_w_tree_a3_0 t_w_tree_a3_0_0 t_w_tree_a3_0_1 t_w_tree_a3_0_2 t_w_tree_a3_0_3 h0 n0 _ T10.heap _
    subst hy13
    subst hy12
    subst hy11
    subst hy2
    exact ⟨bx4_0_1, kx4_0_1, rfl, N10, K10, sz_bx4_0_1, P10_0, P10_1, P10_2, P10_3, P10_4⟩
theorem ef_rm9_9 (m : MethodId) (y0 : Addr) (y1 : Int32) : entryFrame m #[(.ref y0), (.int y1)] 5 = mkF m 0 #[.val (.ref y0), .val (.int y1), .unset, .unset, .unset] [] := by first | (simp [entryFrame, mkF, argsToLocals, Value.category]; done) | rfl
def Q_rm9_9 (Z : State) (a9_0 : Addr) (p9_1 : Int32) (w_tree_a9_0 : Addr) (w_total_a9_0 : Int64) (kc_w_tree_a9_0 : ClassId) (t_w_tree_a9_0_0 : Int64) (t_w_tree_a9_0_1 : Int64) (t_w_tree_a9_0_2 : Int64) (t_w_tree_a9_0_3 : Int64) (t_w_tree_a9_0_4 : Int64) (t_w_tree_a9_0_5 : Int64) (t_w_tree_a9_0_6 : Int64) (t_w_tree_a9_0_7 : Int64) (h0 : Heap) (n0 : Nat) (v : Option Value) (h : Heap) (L : List Loc) : Prop := v = some (.long (if p9_1 = (0 : Int32) then (0 : Int64) else (if p9_1 = (1 : Int32) then ((0 : Int64) + t_w_tree_a9_0_0) else (if p9_1 = (2 : Int32) then ((0 : Int64) + t_w_tree_a9_0_1) else (if p9_1 = (3 : Int32) then (((0 : Int64) + t_w_tree_a9_0_2) + t_w_tree_a9_0_1) else (if p9_1 = (4 : Int32) then ((0 : Int64) + t_w_tree_a9_0_3) else (((0 : Int64) + t_w_tree_a9_0_4) + t_w_tree_a9_0_3))))))) ∧ Fr n0 L ∧ h = h0
set_option maxRecDepth 65536 in
set_option maxHeartbeats 40000000 in
theorem rm9_9 (l : Launch) (Z : State) (a0 : Array Value) (hw : ∀ d ∈ tables_1, d.before a0 Z = true) (ws : List Jvm.Cond) (a9_0 : Addr) (p9_1 : Int32) (w_tree_a9_0 : Addr) (w_total_a9_0 : Int64) (kc_w_tree_a9_0 : ClassId) (t_w_tree_a9_0_0 : Int64) (t_w_tree_a9_0_1 : Int64) (t_w_tree_a9_0_2 : Int64) (t_w_tree_a9_0_3 : Int64) (t_w_tree_a9_0_4 : Int64) (t_w_tree_a9_0_5 : Int64) (t_w_tree_a9_0_6 : Int64) (t_w_tree_a9_0_7 : Int64) (h0 : Heap) (n0 : Nat) (Z0 : n0 ≤ h0.size) (hq : p9_1 = (0 : Int32) ∨ p9_1 = (1 : Int32) ∨ p9_1 = (2 : Int32) ∨ p9_1 = (3 : Int32) ∨ p9_1 = (4 : Int32) ∨ p9_1 = (5 : Int32)) (E_a9_0 : Exa Z h0 a9_0 "com/example/motley/motley/CountTree") (F_tree_a9_0 : Fld Z h0 a9_0 "com/example/motley/motley/CountTree" "tree" "[J" (.ref w_tree_a9_0)) (F_size_a9_0 : Fld Z h0 a9_0 "com/example/motley/motley/CountTree" "size" "I" (.int (5 : Int32))) (F_total_a9_0 : Fld Z h0 a9_0 "com/example/motley/motley/CountTree" "total" "J" (.long w_total_a9_0)) (V_w_tree_a9_0 : Arv Z h0 w_tree_a9_0 kc_w_tree_a9_0 .long (8 : Int32) [(.long t_w_tree_a9_0_0), (.long t_w_tree_a9_0_1), (.long t_w_tree_a9_0_2), (.long t_w_tree_a9_0_3), (.long t_w_tree_a9_0_4), (.long t_w_tree_a9_0_5), (.long t_w_tree_a9_0_6), (.long t_w_tree_a9_0_7)] (.long (0 : Int64))) :
    MetFree l (⟨"com/example/motley/motley/CountTree", "sumBefore", "(I)J"⟩ : MethodName) (head1 (Jvm.Cond.code (⟨"com/example/motley/motley/CountTree", "sumBefore", "(I)J"⟩ : MethodName) prog_14_method_8_code 5 (some .long) :: ws) ({ frames := 0, cells := 0, slots := 0, locals := 0 } : Room)) (fun a U => a = #[(.ref a9_0), (.int p9_1)] ∧ Z.Warmed39 U.vm ∧ U.heap = h0) (fun _ _ _ _ _ => True) (fun _ U o U' => ∃ v L, o = .returned v ∧ Q_rm9_9 Z a9_0 p9_1 w_tree_a9_0 w_total_a9_0 kc_w_tree_a9_0 t_w_tree_a9_0_0 t_w_tree_a9_0_1 t_w_tree_a9_0_2 t_w_tree_a9_0_3 t_w_tree_a9_0_4 t_w_tree_a9_0_5 t_w_tree_a9_0_6 t_w_tree_a9_0_7 h0 n0 v U'.heap L ∧ FrameEnd U o U' L ({ frames := 0, cells := 0, slots := 0, locals := 0 } : Room).cells ({ frames := 0, cells := 0, slots := 0, locals := 0 } : Room).slots) := by
  refine MetFree.of_bodySF (plainFor_of_name pn_9) hisR ?_
  intro p e s m args below meth c s₁ Bd hml0 hP hK
  obtain ⟨rfl, hZ, hh⟩ := hP
  have hx := Bd.exec
  have hby := Bd.bytes
  have hml : c.maxLocals = 5 := hml0
  have hown : s.vm.findClass "com/example/motley/motley/CountTree" = some m.cls := findClass_of_methodNamed Bd.named
  have hnm := (name_of_methodNamed Bd.named Bd.method).1
  have X0 : Stand p l e ({ frames := 0, cells := 0, slots := 0, locals := 0 } : Room) s m #[(.ref a9_0), (.int p9_1)] below meth c s₁ [] 0 0 := Stand.of_body Bd
  have e0 : s₁.heap = h0 := by rw [← hh, Bd.state]; rfl
  have N0 := Fr.nil n0
  have pre0 : ∀ t, Steps p.tables e below (s₁.setTop (mkF m 0 #[.val (.ref a9_0), .val (.int p9_1), .unset, .unset, .unset] [])) t → Steps p.tables e below (s₁.setTop (entryFrame m #[(.ref a9_0), (.int p9_1)] 5)) t := fun t k => castTop (ef_rm9_9 m a9_0 p9_1) k
  by_cases hb1 : p9_1 = (0 : Int32)
  · have own_t1 : True := trivial
    obtain ⟨fs, hr, hrun, hended, hW, hsame⟩ := X0.leave (v := some (.long (0 : Int64))) (fun h => by rw [Bd.returns] at h; cases h)
    refine ⟨_, _, pre0 _ ?_, hrun, hended, _, _, rfl, ?_, ⟨_, rfl⟩, hW, hsame.mono (by decide) (by decide)⟩
    · show Steps p.tables e below (s₁.setTop (mkF m 0 #[.val (.ref a9_0), .val (.int p9_1), .unset, .unset, .unset] [])) _
      rw [hb1]
      show Steps p.tables e below (s₁.setTop (mkF m 0 #[.val (.ref a9_0), .val (.int (0 : Int32)), .unset, .unset, .unset] [])) _
      refine XS.lconst X0.here hx rfl (hb hby d9_0) ?_
      refine XS.lstoreN X0.here hx rfl (hb hby d9_1) rfl (l' := #[.val (.ref a9_0), .val (.int (0 : Int32)), .val (.long (0 : Int64)), .second, .unset]) rfl ?_
      refine XS.iloadN X0.here hx rfl (hb hby d9_2) rfl ?_
      show Steps p.tables e below (s₁.setTop (mkF m 3 #[.val (.ref a9_0), .val (.int (0 : Int32)), .val (.long (0 : Int64)), .second, .unset] [(.int (0 : Int32))])) _
      refine XS.istore X0.here hx rfl (hb hby d9_3) rfl (l' := #[.val (.ref a9_0), .val (.int (0 : Int32)), .val (.long (0 : Int64)), .second, .val (.int (0 : Int32))]) rfl ?_
      refine XS.iload X0.here hx rfl (hb hby d9_5) rfl ?_
      show Steps p.tables e below (s₁.setTop (mkF m 7 #[.val (.ref a9_0), .val (.int (0 : Int32)), .val (.long (0 : Int64)), .second, .val (.int (0 : Int32))] [(.int (0 : Int32))])) _
      refine XS.ifYes X0.here hx rfl (pc0 := 7) (pc' := 36) rfl (hb hby d9_7) rfl ((if0 _ _).trans (flt (by decide : ¬ ((0 : Int32) < (0 : Int32)))).2.2.2) (by decide) (by decide) ?_
      refine XS.lloadN X0.here hx rfl (hb hby d9_36) rfl ?_
      show Steps p.tables e below (s₁.setTop (mkF m 37 #[.val (.ref a9_0), .val (.int (0 : Int32)), .val (.long (0 : Int64)), .second, .val (.int (0 : Int32))] [(.long (0 : Int64))])) _
      exact own_retJ X0 hx Bd.returns (hb hby d9_37) hr
    · show Q_rm9_9 Z a9_0 p9_1 w_tree_a9_0 w_total_a9_0 kc_w_tree_a9_0 t_w_tree_a9_0_0 t_w_tree_a9_0_1 t_w_tree_a9_0_2 t_w_tree_a9_0_3 t_w_tree_a9_0_4 t_w_tree_a9_0_5 t_w_tree_a9_0_6 t_w_tree_a9_0_7 h0 n0 _ s₁.heap _
      rw [e0]
      exact ⟨(congrArg (fun z => some (Value.long z)) (if_pos hb1).symm), N0, rfl⟩
  · have own_u1 : True := trivial
    by_cases hb2 : p9_1 = (1 : Int32)
    · have own_t2 : True := trivial
      obtain ⟨T3, X3, e3, st3⟩ := getF X0 hx hZ hown (host := "") (Or.inl (ow11 hw)) Via.refl e0 F_tree_a9_0 (g := (mkF m 12 #[.val (.ref a9_0), .val (.int (1 : Int32)), .val (.long (0 : Int64)), .second, .val (.int (1 : Int32))] [(.ref a9_0), (.long (0 : Int64))])) rfl rfl (hb hby d9_12)
      obtain ⟨cl4, Ar4, qk4, Sz4, Nz4, Hh4, Gf4⟩ := id V_w_tree_a9_0
      obtain ⟨fs, hr, hrun, hended, hW, hsame⟩ := X3.leave (v := some (.long ((0 : Int64) + t_w_tree_a9_0_0))) (fun h => by rw [Bd.returns] at h; cases h)
      refine ⟨_, _, pre0 _ ?_, hrun, hended, _, _, rfl, ?_, ⟨_, rfl⟩, hW, hsame.mono (by decide) (by decide)⟩
      · show Steps p.tables e below (s₁.setTop (mkF m 0 #[.val (.ref a9_0), .val (.int p9_1), .unset, .unset, .unset] [])) _
        rw [hb2]
        show Steps p.tables e below (s₁.setTop (mkF m 0 #[.val (.ref a9_0), .val (.int (1 : Int32)), .unset, .unset, .unset] [])) _
        refine XS.lconst X0.here hx rfl (hb hby d9_0) ?_
        refine XS.lstoreN X0.here hx rfl (hb hby d9_1) rfl (l' := #[.val (.ref a9_0), .val (.int (1 : Int32)), .val (.long (0 : Int64)), .second, .unset]) rfl ?_
        refine XS.iloadN X0.here hx rfl (hb hby d9_2) rfl ?_
        show Steps p.tables e below (s₁.setTop (mkF m 3 #[.val (.ref a9_0), .val (.int (1 : Int32)), .val (.long (0 : Int64)), .second, .unset] [(.int (1 : Int32))])) _
        refine XS.istore X0.here hx rfl (hb hby d9_3) rfl (l' := #[.val (.ref a9_0), .val (.int (1 : Int32)), .val (.long (0 : Int64)), .second, .val (.int (1 : Int32))]) rfl ?_
        refine XS.iload X0.here hx rfl (hb hby d9_5) rfl ?_
        show Steps p.tables e below (s₁.setTop (mkF m 7 #[.val (.ref a9_0), .val (.int (1 : Int32)), .val (.long (0 : Int64)), .second, .val (.int (1 : Int32))] [(.int (1 : Int32))])) _
        refine XS.ifNo X0.here hx rfl (hb hby d9_7) rfl ((if0 _ _).trans (tlt (by decide : (0 : Int32) < (1 : Int32))).2.2.2) ?_
        refine XS.lloadN X0.here hx rfl (hb hby d9_10) rfl ?_
        refine XS.aloadN X0.here hx rfl (hb hby d9_11) rfl rfl ?_
        show Steps p.tables e below (s₁.setTop (mkF m 12 #[.val (.ref a9_0), .val (.int (1 : Int32)), .val (.long (0 : Int64)), .second, .val (.int (1 : Int32))] [(.ref a9_0), (.long (0 : Int64))])) _
        refine st3 _ ?_
        refine XS.iload X3.here hx rfl (hb hby d9_15) rfl ?_
        refine XS.iconst X3.here hx rfl (hb hby d9_17) ?_
        show Steps p.tables e below (T3.setTop (mkF m 18 #[.val (.ref a9_0), .val (.int (1 : Int32)), .val (.long (0 : Int64)), .second, .val (.int (1 : Int32))] [(.int (1 : Int32)), (.int (1 : Int32)), (.ref w_tree_a9_0), (.long (0 : Int64))])) _
        refine XS.isub X3.here hx rfl (hb hby d9_18) rfl ?_
        refine X3.laload hx (j := (0 : Int32)) (v := (.long t_w_tree_a9_0_0)) (by rw [e3]; exact Ar4.1) (State.isArrayOf_alike hZ.alike Ar4.2.1) Ar4.2.2 (inb_of Sz4 ⟨by decide, by decide⟩) (Hh4.at (inb_of Sz4 ⟨by decide, by decide⟩) rfl) (g := (mkF m 19 #[.val (.ref a9_0), .val (.int (1 : Int32)), .val (.long (0 : Int64)), .second, .val (.int (1 : Int32))] [(.int (0 : Int32)), (.ref w_tree_a9_0), (.long (0 : Int64))])) rfl rfl (hb hby d9_19) _ ?_
        refine XS.ladd X3.here hx rfl (hb hby d9_20) rfl ?_
        show Steps p.tables e below (T3.setTop (mkF m 21 #[.val (.ref a9_0), .val (.int (1 : Int32)), .val (.long (0 : Int64)), .second, .val (.int (1 : Int32))] [(.long ((0 : Int64) + t_w_tree_a9_0_0))])) _
        refine XS.lstoreN X3.here hx rfl (hb hby d9_21) rfl (l' := #[.val (.ref a9_0), .val (.int (1 : Int32)), .val (.long ((0 : Int64) + t_w_tree_a9_0_0)), .second, .val (.int (1 : Int32))]) rfl ?_
        refine XS.iload X3.here hx rfl (hb hby d9_22) rfl ?_
        refine XS.iload X3.here hx rfl (hb hby d9_24) rfl ?_
        show Steps p.tables e below (T3.setTop (mkF m 26 #[.val (.ref a9_0), .val (.int (1 : Int32)), .val (.long ((0 : Int64) + t_w_tree_a9_0_0)), .second, .val (.int (1 : Int32))] [(.int (1 : Int32)), (.int (1 : Int32))])) _
        refine XS.iload X3.here hx rfl (hb hby d9_26) rfl ?_
        refine XS.ineg X3.here hx rfl (hb hby d9_28) rfl ?_
        refine XS.iand X3.here hx rfl (hb hby d9_29) rfl ?_
        show Steps p.tables e below (T3.setTop (mkF m 30 #[.val (.ref a9_0), .val (.int (1 : Int32)), .val (.long ((0 : Int64) + t_w_tree_a9_0_0)), .second, .val (.int (1 : Int32))] [(.int (1 : Int32)), (.int (1 : Int32))])) _
        refine XS.isub X3.here hx rfl (hb hby d9_30) rfl ?_
        refine XS.istore X3.here hx rfl (hb hby d9_31) rfl (l' := #[.val (.ref a9_0), .val (.int (1 : Int32)), .val (.long ((0 : Int64) + t_w_tree_a9_0_0)), .second, .val (.int (0 : Int32))]) rfl ?_
        refine XS.goto X3.here hx rfl (pc0 := 33) (pc' := 5) rfl (hb hby d9_33) (by decide) (by decide) ?_
        show Steps p.tables e below (T3.setTop (mkF m 5 #[.val (.ref a9_0), .val (.int (1 : Int32)), .val (.long ((0 : Int64) + t_w_tree_a9_0_0)), .second, .val (.int (0 : Int32))] [])) _
        refine XS.iload X3.here hx rfl (hb hby d9_5) rfl ?_
        show Steps p.tables e below (T3.setTop (mkF m 7 #[.val (.ref a9_0), .val (.int (1 : Int32)), .val (.long ((0 : Int64) + t_w_tree_a9_0_0)), .second, .val (.int (0 : Int32))] [(.int (0 : Int32))])) _
        refine XS.ifYes X3.here hx rfl (pc0 := 7) (pc' := 36) rfl (hb hby d9_7) rfl ((if0 _ _).trans (flt (by decide : ¬ ((0 : Int32) < (0 : Int32)))).2.2.2) (by decide) (by decide) ?_
        refine XS.lloadN X3.here hx rfl (hb hby d9_36) rfl ?_
        show Steps p.tables e below (T3.setTop (mkF m 37 #[.val (.ref a9_0), .val (.int (1 : Int32)), .val (.long ((0 : Int64) + t_w_tree_a9_0_0)), .second, .val (.int (0 : Int32))] [(.long ((0 : Int64) + t_w_tree_a9_0_0))])) _
        exact own_retJ X3 hx Bd.returns (hb hby d9_37) hr
      · show Q_rm9_9 Z a9_0 p9_1 w_tree_a9_0 w_total_a9_0 kc_w_tree_a9_0 t_w_tree_a9_0_0 t_w_tree_a9_0_1 t_w_tree_a9_0_2 t_w_tree_a9_0_3 t_w_tree_a9_0_4 t_w_tree_a9_0_5 t_w_tree_a9_0_6 t_w_tree_a9_0_7 h0 n0 _ T3.heap _
        rw [e3]
        exact ⟨(congrArg (fun z => some (Value.long z)) ((if_neg hb1).trans (if_pos hb2)).symm), N0, rfl⟩
    · have own_u2 : True := trivial
      by_cases hb5 : p9_1 = (2 : Int32)
      · have own_t5 : True := trivial
        obtain ⟨T6, X6, e6, st6⟩ := getF X0 hx hZ hown (host := "") (Or.inl (ow11 hw)) Via.refl e0 F_tree_a9_0 (g := (mkF m 12 #[.val (.ref a9_0), .val (.int (2 : Int32)), .val (.long (0 : Int64)), .second, .val (.int (2 : Int32))] [(.ref a9_0), (.long (0 : Int64))])) rfl rfl (hb hby d9_12)
        obtain ⟨cl7, Ar7, qk7, Sz7, Nz7, Hh7, Gf7⟩ := id V_w_tree_a9_0
        obtain ⟨fs, hr, hrun, hended, hW, hsame⟩ := X6.leave (v := some (.long ((0 : Int64) + t_w_tree_a9_0_1))) (fun h => by rw [Bd.returns] at h; cases h)
        refine ⟨_, _, pre0 _ ?_, hrun, hended, _, _, rfl, ?_, ⟨_, rfl⟩, hW, hsame.mono (by decide) (by decide)⟩
        · show Steps p.tables e below (s₁.setTop (mkF m 0 #[.val (.ref a9_0), .val (.int p9_1), .unset, .unset, .unset] [])) _
          rw [hb5]
          show Steps p.tables e below (s₁.setTop (mkF m 0 #[.val (.ref a9_0), .val (.int (2 : Int32)), .unset, .unset, .unset] [])) _
          refine XS.lconst X0.here hx rfl (hb hby d9_0) ?_
          refine XS.lstoreN X0.here hx rfl (hb hby d9_1) rfl (l' := #[.val (.ref a9_0), .val (.int (2 : Int32)), .val (.long (0 : Int64)), .second, .unset]) rfl ?_
          refine XS.iloadN X0.here hx rfl (hb hby d9_2) rfl ?_
          show Steps p.tables e below (s₁.setTop (mkF m 3 #[.val (.ref a9_0), .val (.int (2 : Int32)), .val (.long (0 : Int64)), .second, .unset] [(.int (2 : Int32))])) _
          refine XS.istore X0.here hx rfl (hb hby d9_3) rfl (l' := #[.val (.ref a9_0), .val (.int (2 : Int32)), .val (.long (0 : Int64)), .second, .val (.int (2 : Int32))]) rfl ?_
          refine XS.iload X0.here hx rfl (hb hby d9_5) rfl ?_
          show Steps p.tables e below (s₁.setTop (mkF m 7 #[.val (.ref a9_0), .val (.int (2 : Int32)), .val (.long (0 : Int64)), .second, .val (.int (2 : Int32))] [(.int (2 : Int32))])) _
          refine XS.ifNo X0.here hx rfl (hb hby d9_7) rfl ((if0 _ _).trans (tlt (by decide : (0 : Int32) < (2 : Int32))).2.2.2) ?_
          refine XS.lloadN X0.here hx rfl (hb hby d9_10) rfl ?_
          refine XS.aloadN X0.here hx rfl (hb hby d9_11) rfl rfl ?_
          show Steps p.tables e below (s₁.setTop (mkF m 12 #[.val (.ref a9_0), .val (.int (2 : Int32)), .val (.long (0 : Int64)), .second, .val (.int (2 : Int32))] [(.ref a9_0), (.long (0 : Int64))])) _
          refine st6 _ ?_
          refine XS.iload X6.here hx rfl (hb hby d9_15) rfl ?_
          refine XS.iconst X6.here hx rfl (hb hby d9_17) ?_
          show Steps p.tables e below (T6.setTop (mkF m 18 #[.val (.ref a9_0), .val (.int (2 : Int32)), .val (.long (0 : Int64)), .second, .val (.int (2 : Int32))] [(.int (1 : Int32)), (.int (2 : Int32)), (.ref w_tree_a9_0), (.long (0 : Int64))])) _
          refine XS.isub X6.here hx rfl (hb hby d9_18) rfl ?_
          refine X6.laload hx (j := (1 : Int32)) (v := (.long t_w_tree_a9_0_1)) (by rw [e6]; exact Ar7.1) (State.isArrayOf_alike hZ.alike Ar7.2.1) Ar7.2.2 (inb_of Sz7 ⟨by decide, by decide⟩) (Hh7.at (inb_of Sz7 ⟨by decide, by decide⟩) rfl) (g := (mkF m 19 #[.val (.ref a9_0), .val (.int (2 : Int32)), .val (.long (0 : Int64)), .second, .val (.int (2 : Int32))] [(.int (1 : Int32)), (.ref w_tree_a9_0), (.long (0 : Int64))])) rfl rfl (hb hby d9_19) _ ?_
          refine XS.ladd X6.here hx rfl (hb hby d9_20) rfl ?_
          show Steps p.tables e below (T6.setTop (mkF m 21 #[.val (.ref a9_0), .val (.int (2 : Int32)), .val (.long (0 : Int64)), .second, .val (.int (2 : Int32))] [(.long ((0 : Int64) + t_w_tree_a9_0_1))])) _
          refine XS.lstoreN X6.here hx rfl (hb hby d9_21) rfl (l' := #[.val (.ref a9_0), .val (.int (2 : Int32)), .val (.long ((0 : Int64) + t_w_tree_a9_0_1)), .second, .val (.int (2 : Int32))]) rfl ?_
          refine XS.iload X6.here hx rfl (hb hby d9_22) rfl ?_
          refine XS.iload X6.here hx rfl (hb hby d9_24) rfl ?_
          show Steps p.tables e below (T6.setTop (mkF m 26 #[.val (.ref a9_0), .val (.int (2 : Int32)), .val (.long ((0 : Int64) + t_w_tree_a9_0_1)), .second, .val (.int (2 : Int32))] [(.int (2 : Int32)), (.int (2 : Int32))])) _
          refine XS.iload X6.here hx rfl (hb hby d9_26) rfl ?_
          refine XS.ineg X6.here hx rfl (hb hby d9_28) rfl ?_
          refine XS.iand X6.here hx rfl (hb hby d9_29) rfl ?_
          show Steps p.tables e below (T6.setTop (mkF m 30 #[.val (.ref a9_0), .val (.int (2 : Int32)), .val (.long ((0 : Int64) + t_w_tree_a9_0_1)), .second, .val (.int (2 : Int32))] [(.int (2 : Int32)), (.int (2 : Int32))])) _
          refine XS.isub X6.here hx rfl (hb hby d9_30) rfl ?_
          refine XS.istore X6.here hx rfl (hb hby d9_31) rfl (l' := #[.val (.ref a9_0), .val (.int (2 : Int32)), .val (.long ((0 : Int64) + t_w_tree_a9_0_1)), .second, .val (.int (0 : Int32))]) rfl ?_
          refine XS.goto X6.here hx rfl (pc0 := 33) (pc' := 5) rfl (hb hby d9_33) (by decide) (by decide) ?_
          show Steps p.tables e below (T6.setTop (mkF m 5 #[.val (.ref a9_0), .val (.int (2 : Int32)), .val (.long ((0 : Int64) + t_w_tree_a9_0_1)), .second, .val (.int (0 : Int32))] [])) _
          refine XS.iload X6.here hx rfl (hb hby d9_5) rfl ?_
          show Steps p.tables e below (T6.setTop (mkF m 7 #[.val (.ref a9_0), .val (.int (2 : Int32)), .val (.long ((0 : Int64) + t_w_tree_a9_0_1)), .second, .val (.int (0 : Int32))] [(.int (0 : Int32))])) _
          refine XS.ifYes X6.here hx rfl (pc0 := 7) (pc' := 36) rfl (hb hby d9_7) rfl ((if0 _ _).trans (flt (by decide : ¬ ((0 : Int32) < (0 : Int32)))).2.2.2) (by decide) (by decide) ?_
          refine XS.lloadN X6.here hx rfl (hb hby d9_36) rfl ?_
          show Steps p.tables e below (T6.setTop (mkF m 37 #[.val (.ref a9_0), .val (.int (2 : Int32)), .val (.long ((0 : Int64) + t_w_tree_a9_0_1)), .second, .val (.int (0 : Int32))] [(.long ((0 : Int64) + t_w_tree_a9_0_1))])) _
          exact own_retJ X6 hx Bd.returns (hb hby d9_37) hr
        · show Q_rm9_9 Z a9_0 p9_1 w_tree_a9_0 w_total_a9_0 kc_w_tree_a9_0 t_w_tree_a9_0_0 t_w_tree_a9_0_1 t_w_tree_a9_0_2 t_w_tree_a9_0_3 t_w_tree_a9_0_4 t_w_tree_a9_0_5 t_w_tree_a9_0_6 t_w_tree_a9_0_7 h0 n0 _ T6.heap _
          rw [e6]
          exact ⟨(congrArg (fun z => some (Value.long z)) ((if_neg hb1).trans ((if_neg hb2).trans (if_pos hb5))).symm), N0, rfl⟩
      · have own_u5 : True := trivial
        by_cases hb8 : p9_1 = (3 : Int32)
        · have own_t8 : True := trivial
          obtain ⟨T9, X9, e9, st9⟩ := getF X0 hx hZ hown (host := "") (Or.inl (ow11 hw)) Via.refl e0 F_tree_a9_0 (g := (mkF m 12 #[.val (.ref a9_0), .val (.int (3 : Int32)), .val (.long (0 : Int64)), .second, .val (.int (3 : Int32))] [(.ref a9_0), (.long (0 : Int64))])) rfl rfl (hb hby d9_12)
          obtain ⟨cl10, Ar10, qk10, Sz10, Nz10, Hh10, Gf10⟩ := id V_w_tree_a9_0
          obtain ⟨T11, X11, e11, st11⟩ := getF X9 hx hZ hown (host := "") (Or.inl (ow11 hw)) Via.refl e9 F_tree_a9_0 (g := (mkF m 12 #[.val (.ref a9_0), .val (.int (3 : Int32)), .val (.long ((0 : Int64) + t_w_tree_a9_0_2)), .second, .val (.int (2 : Int32))] [(.ref a9_0), (.long ((0 : Int64) + t_w_tree_a9_0_2))])) rfl rfl (hb hby d9_12)
          obtain ⟨cl12, Ar12, qk12, Sz12, Nz12, Hh12, Gf12⟩ := id V_w_tree_a9_0
          obtain ⟨x13, hx13⟩ : ∃ z : Int64, z = (((0 : Int64) + t_w_tree_a9_0_2) + t_w_tree_a9_0_1) := ⟨_, rfl⟩
          obtain ⟨fs, hr, hrun, hended, hW, hsame⟩ := X11.leave (v := some (.long x13)) (fun h => by rw [Bd.returns] at h; cases h)
          refine ⟨_, _, pre0 _ ?_, hrun, hended, _, _, rfl, ?_, ⟨_, rfl⟩, hW, hsame.mono (by decide) (by decide)⟩
          · show Steps p.tables e below (s₁.setTop (mkF m 0 #[.val (.ref a9_0), .val (.int p9_1), .unset, .unset, .unset] [])) _
            rw [hb8]
            show Steps p.tables e below (s₁.setTop (mkF m 0 #[.val (.ref a9_0), .val (.int (3 : Int32)), .unset, .unset, .unset] [])) _
            refine XS.lconst X0.here hx rfl (hb hby d9_0) ?_
            refine XS.lstoreN X0.here hx rfl (hb hby d9_1) rfl (l' := #[.val (.ref a9_0), .val (.int (3 : Int32)), .val (.long (0 : Int64)), .second, .unset]) rfl ?_
            refine XS.iloadN X0.here hx rfl (hb hby d9_2) rfl ?_
            show Steps p.tables e below (s₁.setTop (mkF m 3 #[.val (.ref a9_0), .val (.int (3 : Int32)), .val (.long (0 : Int64)), .second, .unset] [(.int (3 : Int32))])) _
            refine XS.istore X0.here hx rfl (hb hby d9_3) rfl (l' := #[.val (.ref a9_0), .val (.int (3 : Int32)), .val (.long (0 : Int64)), .second, .val (.int (3 : Int32))]) rfl ?_
            refine XS.iload X0.here hx rfl (hb hby d9_5) rfl ?_
            show Steps p.tables e below (s₁.setTop (mkF m 7 #[.val (.ref a9_0), .val (.int (3 : Int32)), .val (.long (0 : Int64)), .second, .val (.int (3 : Int32))] [(.int (3 : Int32))])) _
            refine XS.ifNo X0.here hx rfl (hb hby d9_7) rfl ((if0 _ _).trans (tlt (by decide : (0 : Int32) < (3 : Int32))).2.2.2) ?_
            refine XS.lloadN X0.here hx rfl (hb hby d9_10) rfl ?_
            refine XS.aloadN X0.here hx rfl (hb hby d9_11) rfl rfl ?_
            show Steps p.tables e below (s₁.setTop (mkF m 12 #[.val (.ref a9_0), .val (.int (3 : Int32)), .val (.long (0 : Int64)), .second, .val (.int (3 : Int32))] [(.ref a9_0), (.long (0 : Int64))])) _
            refine st9 _ ?_
            refine XS.iload X9.here hx rfl (hb hby d9_15) rfl ?_
            refine XS.iconst X9.here hx rfl (hb hby d9_17) ?_
            show Steps p.tables e below (T9.setTop (mkF m 18 #[.val (.ref a9_0), .val (.int (3 : Int32)), .val (.long (0 : Int64)), .second, .val (.int (3 : Int32))] [(.int (1 : Int32)), (.int (3 : Int32)), (.ref w_tree_a9_0), (.long (0 : Int64))])) _
            refine XS.isub X9.here hx rfl (hb hby d9_18) rfl ?_
            refine X9.laload hx (j := (2 : Int32)) (v := (.long t_w_tree_a9_0_2)) (by rw [e9]; exact Ar10.1) (State.isArrayOf_alike hZ.alike Ar10.2.1) Ar10.2.2 (inb_of Sz10 ⟨by decide, by decide⟩) (Hh10.at (inb_of Sz10 ⟨by decide, by decide⟩) rfl) (g := (mkF m 19 #[.val (.ref a9_0), .val (.int (3 : Int32)), .val (.long (0 : Int64)), .second, .val (.int (3 : Int32))] [(.int (2 : Int32)), (.ref w_tree_a9_0), (.long (0 : Int64))])) rfl rfl (hb hby d9_19) _ ?_
            refine XS.ladd X9.here hx rfl (hb hby d9_20) rfl ?_
            show Steps p.tables e below (T9.setTop (mkF m 21 #[.val (.ref a9_0), .val (.int (3 : Int32)), .val (.long (0 : Int64)), .second, .val (.int (3 : Int32))] [(.long ((0 : Int64) + t_w_tree_a9_0_2))])) _
            refine XS.lstoreN X9.here hx rfl (hb hby d9_21) rfl (l' := #[.val (.ref a9_0), .val (.int (3 : Int32)), .val (.long ((0 : Int64) + t_w_tree_a9_0_2)), .second, .val (.int (3 : Int32))]) rfl ?_
            refine XS.iload X9.here hx rfl (hb hby d9_22) rfl ?_
            refine XS.iload X9.here hx rfl (hb hby d9_24) rfl ?_
            show Steps p.tables e below (T9.setTop (mkF m 26 #[.val (.ref a9_0), .val (.int (3 : Int32)), .val (.long ((0 : Int64) + t_w_tree_a9_0_2)), .second, .val (.int (3 : Int32))] [(.int (3 : Int32)), (.int (3 : Int32))])) _
            refine XS.iload X9.here hx rfl (hb hby d9_26) rfl ?_
            refine XS.ineg X9.here hx rfl (hb hby d9_28) rfl ?_
            refine XS.iand X9.here hx rfl (hb hby d9_29) rfl ?_
            show Steps p.tables e below (T9.setTop (mkF m 30 #[.val (.ref a9_0), .val (.int (3 : Int32)), .val (.long ((0 : Int64) + t_w_tree_a9_0_2)), .second, .val (.int (3 : Int32))] [(.int (1 : Int32)), (.int (3 : Int32))])) _
            refine XS.isub X9.here hx rfl (hb hby d9_30) rfl ?_
            refine XS.istore X9.here hx rfl (hb hby d9_31) rfl (l' := #[.val (.ref a9_0), .val (.int (3 : Int32)), .val (.long ((0 : Int64) + t_w_tree_a9_0_2)), .second, .val (.int (2 : Int32))]) rfl ?_
            refine XS.goto X9.here hx rfl (pc0 := 33) (pc' := 5) rfl (hb hby d9_33) (by decide) (by decide) ?_
            show Steps p.tables e below (T9.setTop (mkF m 5 #[.val (.ref a9_0), .val (.int (3 : Int32)), .val (.long ((0 : Int64) + t_w_tree_a9_0_2)), .second, .val (.int (2 : Int32))] [])) _
            refine XS.iload X9.here hx rfl (hb hby d9_5) rfl ?_
            show Steps p.tables e below (T9.setTop (mkF m 7 #[.val (.ref a9_0), .val (.int (3 : Int32)), .val (.long ((0 : Int64) + t_w_tree_a9_0_2)), .second, .val (.int (2 : Int32))] [(.int (2 : Int32))])) _
            refine XS.ifNo X9.here hx rfl (hb hby d9_7) rfl ((if0 _ _).trans (tlt (by decide : (0 : Int32) < (2 : Int32))).2.2.2) ?_
            refine XS.lloadN X9.here hx rfl (hb hby d9_10) rfl ?_
            refine XS.aloadN X9.here hx rfl (hb hby d9_11) rfl rfl ?_
            show Steps p.tables e below (T9.setTop (mkF m 12 #[.val (.ref a9_0), .val (.int (3 : Int32)), .val (.long ((0 : Int64) + t_w_tree_a9_0_2)), .second, .val (.int (2 : Int32))] [(.ref a9_0), (.long ((0 : Int64) + t_w_tree_a9_0_2))])) _
            refine st11 _ ?_
            refine XS.iload X11.here hx rfl (hb hby d9_15) rfl ?_
            refine XS.iconst X11.here hx rfl (hb hby d9_17) ?_
            show Steps p.tables e below (T11.setTop (mkF m 18 #[.val (.ref a9_0), .val (.int (3 : Int32)), .val (.long ((0 : Int64) + t_w_tree_a9_0_2)), .second, .val (.int (2 : Int32))] [(.int (1 : Int32)), (.int (2 : Int32)), (.ref w_tree_a9_0), (.long ((0 : Int64) + t_w_tree_a9_0_2))])) _
            refine XS.isub X11.here hx rfl (hb hby d9_18) rfl ?_
            refine X11.laload hx (j := (1 : Int32)) (v := (.long t_w_tree_a9_0_1)) (by rw [e11]; exact Ar12.1) (State.isArrayOf_alike hZ.alike Ar12.2.1) Ar12.2.2 (inb_of Sz12 ⟨by decide, by decide⟩) (Hh12.at (inb_of Sz12 ⟨by decide, by decide⟩) rfl) (g := (mkF m 19 #[.val (.ref a9_0), .val (.int (3 : Int32)), .val (.long ((0 : Int64) + t_w_tree_a9_0_2)), .second, .val (.int (2 : Int32))] [(.int (1 : Int32)), (.ref w_tree_a9_0), (.long ((0 : Int64) + t_w_tree_a9_0_2))])) rfl rfl (hb hby d9_19) _ ?_
            refine XS.ladd X11.here hx rfl (hb hby d9_20) rfl ?_
            show Steps p.tables e below (T11.setTop (mkF m 21 #[.val (.ref a9_0), .val (.int (3 : Int32)), .val (.long ((0 : Int64) + t_w_tree_a9_0_2)), .second, .val (.int (2 : Int32))] [(.long (((0 : Int64) + t_w_tree_a9_0_2) + t_w_tree_a9_0_1))])) _
            refine XS.lstoreN X11.here hx rfl (hb hby d9_21) rfl (l' := #[.val (.ref a9_0), .val (.int (3 : Int32)), .val (.long (((0 : Int64) + t_w_tree_a9_0_2) + t_w_tree_a9_0_1)), .second, .val (.int (2 : Int32))]) rfl ?_
            show Steps p.tables e below (T11.setTop (mkF m 22 #[.val (.ref a9_0), .val (.int (3 : Int32)), .val (.long (((0 : Int64) + t_w_tree_a9_0_2) + t_w_tree_a9_0_1)), .second, .val (.int (2 : Int32))] [])) _
            rw [← hx13]
            refine XS.iload X11.here hx rfl (hb hby d9_22) rfl ?_
            refine XS.iload X11.here hx rfl (hb hby d9_24) rfl ?_
            show Steps p.tables e below (T11.setTop (mkF m 26 #[.val (.ref a9_0), .val (.int (3 : Int32)), .val (.long x13), .second, .val (.int (2 : Int32))] [(.int (2 : Int32)), (.int (2 : Int32))])) _
            refine XS.iload X11.here hx rfl (hb hby d9_26) rfl ?_
            refine XS.ineg X11.here hx rfl (hb hby d9_28) rfl ?_
            refine XS.iand X11.here hx rfl (hb hby d9_29) rfl ?_
            show Steps p.tables e below (T11.setTop (mkF m 30 #[.val (.ref a9_0), .val (.int (3 : Int32)), .val (.long x13), .second, .val (.int (2 : Int32))] [(.int (2 : Int32)), (.int (2 : Int32))])) _
            refine XS.isub X11.here hx rfl (hb hby d9_30) rfl ?_
            refine XS.istore X11.here hx rfl (hb hby d9_31) rfl (l' := #[.val (.ref a9_0), .val (.int (3 : Int32)), .val (.long x13), .second, .val (.int (0 : Int32))]) rfl ?_
            refine XS.goto X11.here hx rfl (pc0 := 33) (pc' := 5) rfl (hb hby d9_33) (by decide) (by decide) ?_
            show Steps p.tables e below (T11.setTop (mkF m 5 #[.val (.ref a9_0), .val (.int (3 : Int32)), .val (.long x13), .second, .val (.int (0 : Int32))] [])) _
            refine XS.iload X11.here hx rfl (hb hby d9_5) rfl ?_
            show Steps p.tables e below (T11.setTop (mkF m 7 #[.val (.ref a9_0), .val (.int (3 : Int32)), .val (.long x13), .second, .val (.int (0 : Int32))] [(.int (0 : Int32))])) _
            refine XS.ifYes X11.here hx rfl (pc0 := 7) (pc' := 36) rfl (hb hby d9_7) rfl ((if0 _ _).trans (flt (by decide : ¬ ((0 : Int32) < (0 : Int32)))).2.2.2) (by decide) (by decide) ?_
            refine XS.lloadN X11.here hx rfl (hb hby d9_36) rfl ?_
            show Steps p.tables e below (T11.setTop (mkF m 37 #[.val (.ref a9_0), .val (.int (3 : Int32)), .val (.long x13), .second, .val (.int (0 : Int32))] [(.long x13)])) _
            exact own_retJ X11 hx Bd.returns (hb hby d9_37) hr
          · show Q_rm9_9 Z a9_0 p9_1 w_tree_a9_0 w_total_a9_0 kc_w_tree_a9_0 t_w_tree_a9_0_0 t_w_tree_a9_0_1 t_w_tree_a9_0_2 t_w_tree_a9_0_3 t_w_tree_a9_0_4 t_w_tree_a9_0_5 t_w_tree_a9_0_6 t_w_tree_a9_0_7 h0 n0 _ T11.heap _
            rw [e11]
            subst hx13
            exact ⟨(congrArg (fun z => some (Value.long z)) ((if_neg hb1).trans ((if_neg hb2).trans ((if_neg hb5).trans (if_pos hb8)))).symm), N0, rfl⟩
        · have own_u8 : True := trivial
          by_cases hb14 : p9_1 = (4 : Int32)
          · have own_t14 : True := trivial
            obtain ⟨T15, X15, e15, st15⟩ := getF X0 hx hZ hown (host := "") (Or.inl (ow11 hw)) Via.refl e0 F_tree_a9_0 (g := (mkF m 12 #[.val (.ref a9_0), .val (.int (4 : Int32)), .val (.long (0 : Int64)), .second, .val (.int (4 : Int32))] [(.ref a9_0), (.long (0 : Int64))])) rfl rfl (hb hby d9_12)
            obtain ⟨cl16, Ar16, qk16, Sz16, Nz16, Hh16, Gf16⟩ := id V_w_tree_a9_0
            obtain ⟨fs, hr, hrun, hended, hW, hsame⟩ := X15.leave (v := some (.long ((0 : Int64) + t_w_tree_a9_0_3))) (fun h => by rw [Bd.returns] at h; cases h)
            refine ⟨_, _, pre0 _ ?_, hrun, hended, _, _, rfl, ?_, ⟨_, rfl⟩, hW, hsame.mono (by decide) (by decide)⟩
            · show Steps p.tables e below (s₁.setTop (mkF m 0 #[.val (.ref a9_0), .val (.int p9_1), .unset, .unset, .unset] [])) _
              rw [hb14]
              show Steps p.tables e below (s₁.setTop (mkF m 0 #[.val (.ref a9_0), .val (.int (4 : Int32)), .unset, .unset, .unset] [])) _
              refine XS.lconst X0.here hx rfl (hb hby d9_0) ?_
              refine XS.lstoreN X0.here hx rfl (hb hby d9_1) rfl (l' := #[.val (.ref a9_0), .val (.int (4 : Int32)), .val (.long (0 : Int64)), .second, .unset]) rfl ?_
              refine XS.iloadN X0.here hx rfl (hb hby d9_2) rfl ?_
              show Steps p.tables e below (s₁.setTop (mkF m 3 #[.val (.ref a9_0), .val (.int (4 : Int32)), .val (.long (0 : Int64)), .second, .unset] [(.int (4 : Int32))])) _
              refine XS.istore X0.here hx rfl (hb hby d9_3) rfl (l' := #[.val (.ref a9_0), .val (.int (4 : Int32)), .val (.long (0 : Int64)), .second, .val (.int (4 : Int32))]) rfl ?_
              refine XS.iload X0.here hx rfl (hb hby d9_5) rfl ?_
              show Steps p.tables e below (s₁.setTop (mkF m 7 #[.val (.ref a9_0), .val (.int (4 : Int32)), .val (.long (0 : Int64)), .second, .val (.int (4 : Int32))] [(.int (4 : Int32))])) _
              refine XS.ifNo X0.here hx rfl (hb hby d9_7) rfl ((if0 _ _).trans (tlt (by decide : (0 : Int32) < (4 : Int32))).2.2.2) ?_
              refine XS.lloadN X0.here hx rfl (hb hby d9_10) rfl ?_
              refine XS.aloadN X0.here hx rfl (hb hby d9_11) rfl rfl ?_
              show Steps p.tables e below (s₁.setTop (mkF m 12 #[.val (.ref a9_0), .val (.int (4 : Int32)), .val (.long (0 : Int64)), .second, .val (.int (4 : Int32))] [(.ref a9_0), (.long (0 : Int64))])) _
              refine st15 _ ?_
              refine XS.iload X15.here hx rfl (hb hby d9_15) rfl ?_
              refine XS.iconst X15.here hx rfl (hb hby d9_17) ?_
              show Steps p.tables e below (T15.setTop (mkF m 18 #[.val (.ref a9_0), .val (.int (4 : Int32)), .val (.long (0 : Int64)), .second, .val (.int (4 : Int32))] [(.int (1 : Int32)), (.int (4 : Int32)), (.ref w_tree_a9_0), (.long (0 : Int64))])) _
              refine XS.isub X15.here hx rfl (hb hby d9_18) rfl ?_
              refine X15.laload hx (j := (3 : Int32)) (v := (.long t_w_tree_a9_0_3)) (by rw [e15]; exact Ar16.1) (State.isArrayOf_alike hZ.alike Ar16.2.1) Ar16.2.2 (inb_of Sz16 ⟨by decide, by decide⟩) (Hh16.at (inb_of Sz16 ⟨by decide, by decide⟩) rfl) (g := (mkF m 19 #[.val (.ref a9_0), .val (.int (4 : Int32)), .val (.long (0 : Int64)), .second, .val (.int (4 : Int32))] [(.int (3 : Int32)), (.ref w_tree_a9_0), (.long (0 : Int64))])) rfl rfl (hb hby d9_19) _ ?_
              refine XS.ladd X15.here hx rfl (hb hby d9_20) rfl ?_
              show Steps p.tables e below (T15.setTop (mkF m 21 #[.val (.ref a9_0), .val (.int (4 : Int32)), .val (.long (0 : Int64)), .second, .val (.int (4 : Int32))] [(.long ((0 : Int64) + t_w_tree_a9_0_3))])) _
              refine XS.lstoreN X15.here hx rfl (hb hby d9_21) rfl (l' := #[.val (.ref a9_0), .val (.int (4 : Int32)), .val (.long ((0 : Int64) + t_w_tree_a9_0_3)), .second, .val (.int (4 : Int32))]) rfl ?_
              refine XS.iload X15.here hx rfl (hb hby d9_22) rfl ?_
              refine XS.iload X15.here hx rfl (hb hby d9_24) rfl ?_
              show Steps p.tables e below (T15.setTop (mkF m 26 #[.val (.ref a9_0), .val (.int (4 : Int32)), .val (.long ((0 : Int64) + t_w_tree_a9_0_3)), .second, .val (.int (4 : Int32))] [(.int (4 : Int32)), (.int (4 : Int32))])) _
              refine XS.iload X15.here hx rfl (hb hby d9_26) rfl ?_
              refine XS.ineg X15.here hx rfl (hb hby d9_28) rfl ?_
              refine XS.iand X15.here hx rfl (hb hby d9_29) rfl ?_
              show Steps p.tables e below (T15.setTop (mkF m 30 #[.val (.ref a9_0), .val (.int (4 : Int32)), .val (.long ((0 : Int64) + t_w_tree_a9_0_3)), .second, .val (.int (4 : Int32))] [(.int (4 : Int32)), (.int (4 : Int32))])) _
              refine XS.isub X15.here hx rfl (hb hby d9_30) rfl ?_
              refine XS.istore X15.here hx rfl (hb hby d9_31) rfl (l' := #[.val (.ref a9_0), .val (.int (4 : Int32)), .val (.long ((0 : Int64) + t_w_tree_a9_0_3)), .second, .val (.int (0 : Int32))]) rfl ?_
              refine XS.goto X15.here hx rfl (pc0 := 33) (pc' := 5) rfl (hb hby d9_33) (by decide) (by decide) ?_
              show Steps p.tables e below (T15.setTop (mkF m 5 #[.val (.ref a9_0), .val (.int (4 : Int32)), .val (.long ((0 : Int64) + t_w_tree_a9_0_3)), .second, .val (.int (0 : Int32))] [])) _
              refine XS.iload X15.here hx rfl (hb hby d9_5) rfl ?_
              show Steps p.tables e below (T15.setTop (mkF m 7 #[.val (.ref a9_0), .val (.int (4 : Int32)), .val (.long ((0 : Int64) + t_w_tree_a9_0_3)), .second, .val (.int (0 : Int32))] [(.int (0 : Int32))])) _
              refine XS.ifYes X15.here hx rfl (pc0 := 7) (pc' := 36) rfl (hb hby d9_7) rfl ((if0 _ _).trans (flt (by decide : ¬ ((0 : Int32) < (0 : Int32)))).2.2.2) (by decide) (by decide) ?_
              refine XS.lloadN X15.here hx rfl (hb hby d9_36) rfl ?_
              show Steps p.tables e below (T15.setTop (mkF m 37 #[.val (.ref a9_0), .val (.int (4 : Int32)), .val (.long ((0 : Int64) + t_w_tree_a9_0_3)), .second, .val (.int (0 : Int32))] [(.long ((0 : Int64) + t_w_tree_a9_0_3))])) _
              exact own_retJ X15 hx Bd.returns (hb hby d9_37) hr
            · show Q_rm9_9 Z a9_0 p9_1 w_tree_a9_0 w_total_a9_0 kc_w_tree_a9_0 t_w_tree_a9_0_0 t_w_tree_a9_0_1 t_w_tree_a9_0_2 t_w_tree_a9_0_3 t_w_tree_a9_0_4 t_w_tree_a9_0_5 t_w_tree_a9_0_6 t_w_tree_a9_0_7 h0 n0 _ T15.heap _
              rw [e15]
              exact ⟨(congrArg (fun z => some (Value.long z)) ((if_neg hb1).trans ((if_neg hb2).trans ((if_neg hb5).trans ((if_neg hb8).trans (if_pos hb14))))).symm), N0, rfl⟩
          · have own_u14 : True := trivial
            have hl17 : p9_1 = (5 : Int32) := (((((hq.resolve_left hb1).resolve_left hb2).resolve_left hb5).resolve_left hb8).resolve_left hb14)
            obtain ⟨T18, X18, e18, st18⟩ := getF X0 hx hZ hown (host := "") (Or.inl (ow11 hw)) Via.refl e0 F_tree_a9_0 (g := (mkF m 12 #[.val (.ref a9_0), .val (.int (5 : Int32)), .val (.long (0 : Int64)), .second, .val (.int (5 : Int32))] [(.ref a9_0), (.long (0 : Int64))])) rfl rfl (hb hby d9_12)
            obtain ⟨cl19, Ar19, qk19, Sz19, Nz19, Hh19, Gf19⟩ := id V_w_tree_a9_0
            obtain ⟨T20, X20, e20, st20⟩ := getF X18 hx hZ hown (host := "") (Or.inl (ow11 hw)) Via.refl e18 F_tree_a9_0 (g := (mkF m 12 #[.val (.ref a9_0), .val (.int (5 : Int32)), .val (.long ((0 : Int64) + t_w_tree_a9_0_4)), .second, .val (.int (4 : Int32))] [(.ref a9_0), (.long ((0 : Int64) + t_w_tree_a9_0_4))])) rfl rfl (hb hby d9_12)
            obtain ⟨cl21, Ar21, qk21, Sz21, Nz21, Hh21, Gf21⟩ := id V_w_tree_a9_0
            obtain ⟨x22, hx22⟩ : ∃ z : Int64, z = (((0 : Int64) + t_w_tree_a9_0_4) + t_w_tree_a9_0_3) := ⟨_, rfl⟩
            obtain ⟨fs, hr, hrun, hended, hW, hsame⟩ := X20.leave (v := some (.long x22)) (fun h => by rw [Bd.returns] at h; cases h)
            refine ⟨_, _, pre0 _ ?_, hrun, hended, _, _, rfl, ?_, ⟨_, rfl⟩, hW, hsame.mono (by decide) (by decide)⟩
            · show Steps p.tables e below (s₁.setTop (mkF m 0 #[.val (.ref a9_0), .val (.int p9_1), .unset, .unset, .unset] [])) _
              rw [hl17]
              show Steps p.tables e below (s₁.setTop (mkF m 0 #[.val (.ref a9_0), .val (.int (5 : Int32)), .unset, .unset, .unset] [])) _
              refine XS.lconst X0.here hx rfl (hb hby d9_0) ?_
              refine XS.lstoreN X0.here hx rfl (hb hby d9_1) rfl (l' := #[.val (.ref a9_0), .val (.int (5 : Int32)), .val (.long (0 : Int64)), .second, .unset]) rfl ?_
              refine XS.iloadN X0.here hx rfl (hb hby d9_2) rfl ?_
              show Steps p.tables e below (s₁.setTop (mkF m 3 #[.val (.ref a9_0), .val (.int (5 : Int32)), .val (.long (0 : Int64)), .second, .unset] [(.int (5 : Int32))])) _
              refine XS.istore X0.here hx rfl (hb hby d9_3) rfl (l' := #[.val (.ref a9_0), .val (.int (5 : Int32)), .val (.long (0 : Int64)), .second, .val (.int (5 : Int32))]) rfl ?_
              refine XS.iload X0.here hx rfl (hb hby d9_5) rfl ?_
              show Steps p.tables e below (s₁.setTop (mkF m 7 #[.val (.ref a9_0), .val (.int (5 : Int32)), .val (.long (0 : Int64)), .second, .val (.int (5 : Int32))] [(.int (5 : Int32))])) _
              refine XS.ifNo X0.here hx rfl (hb hby d9_7) rfl ((if0 _ _).trans (tlt (by decide : (0 : Int32) < (5 : Int32))).2.2.2) ?_
              refine XS.lloadN X0.here hx rfl (hb hby d9_10) rfl ?_
              refine XS.aloadN X0.here hx rfl (hb hby d9_11) rfl rfl ?_
              show Steps p.tables e below (s₁.setTop (mkF m 12 #[.val (.ref a9_0), .val (.int (5 : Int32)), .val (.long (0 : Int64)), .second, .val (.int (5 : Int32))] [(.ref a9_0), (.long (0 : Int64))])) _
              refine st18 _ ?_
              refine XS.iload X18.here hx rfl (hb hby d9_15) rfl ?_
              refine XS.iconst X18.here hx rfl (hb hby d9_17) ?_
              show Steps p.tables e below (T18.setTop (mkF m 18 #[.val (.ref a9_0), .val (.int (5 : Int32)), .val (.long (0 : Int64)), .second, .val (.int (5 : Int32))] [(.int (1 : Int32)), (.int (5 : Int32)), (.ref w_tree_a9_0), (.long (0 : Int64))])) _
              refine XS.isub X18.here hx rfl (hb hby d9_18) rfl ?_
              refine X18.laload hx (j := (4 : Int32)) (v := (.long t_w_tree_a9_0_4)) (by rw [e18]; exact Ar19.1) (State.isArrayOf_alike hZ.alike Ar19.2.1) Ar19.2.2 (inb_of Sz19 ⟨by decide, by decide⟩) (Hh19.at (inb_of Sz19 ⟨by decide, by decide⟩) rfl) (g := (mkF m 19 #[.val (.ref a9_0), .val (.int (5 : Int32)), .val (.long (0 : Int64)), .second, .val (.int (5 : Int32))] [(.int (4 : Int32)), (.ref w_tree_a9_0), (.long (0 : Int64))])) rfl rfl (hb hby d9_19) _ ?_
              refine XS.ladd X18.here hx rfl (hb hby d9_20) rfl ?_
              show Steps p.tables e below (T18.setTop (mkF m 21 #[.val (.ref a9_0), .val (.int (5 : Int32)), .val (.long (0 : Int64)), .second, .val (.int (5 : Int32))] [(.long ((0 : Int64) + t_w_tree_a9_0_4))])) _
              refine XS.lstoreN X18.here hx rfl (hb hby d9_21) rfl (l' := #[.val (.ref a9_0), .val (.int (5 : Int32)), .val (.long ((0 : Int64) + t_w_tree_a9_0_4)), .second, .val (.int (5 : Int32))]) rfl ?_
              refine XS.iload X18.here hx rfl (hb hby d9_22) rfl ?_
              refine XS.iload X18.here hx rfl (hb hby d9_24) rfl ?_
              show Steps p.tables e below (T18.setTop (mkF m 26 #[.val (.ref a9_0), .val (.int (5 : Int32)), .val (.long ((0 : Int64) + t_w_tree_a9_0_4)), .second, .val (.int (5 : Int32))] [(.int (5 : Int32)), (.int (5 : Int32))])) _
              refine XS.iload X18.here hx rfl (hb hby d9_26) rfl ?_
              refine XS.ineg X18.here hx rfl (hb hby d9_28) rfl ?_
              refine XS.iand X18.here hx rfl (hb hby d9_29) rfl ?_
              show Steps p.tables e below (T18.setTop (mkF m 30 #[.val (.ref a9_0), .val (.int (5 : Int32)), .val (.long ((0 : Int64) + t_w_tree_a9_0_4)), .second, .val (.int (5 : Int32))] [(.int (1 : Int32)), (.int (5 : Int32))])) _
              refine XS.isub X18.here hx rfl (hb hby d9_30) rfl ?_
              refine XS.istore X18.here hx rfl (hb hby d9_31) rfl (l' := #[.val (.ref a9_0), .val (.int (5 : Int32)), .val (.long ((0 : Int64) + t_w_tree_a9_0_4)), .second, .val (.int (4 : Int32))]) rfl ?_
              refine XS.goto X18.here hx rfl (pc0 := 33) (pc' := 5) rfl (hb hby d9_33) (by decide) (by decide) ?_
              show Steps p.tables e below (T18.setTop (mkF m 5 #[.val (.ref a9_0), .val (.int (5 : Int32)), .val (.long ((0 : Int64) + t_w_tree_a9_0_4)), .second, .val (.int (4 : Int32))] [])) _
              refine XS.iload X18.here hx rfl (hb hby d9_5) rfl ?_
              show Steps p.tables e below (T18.setTop (mkF m 7 #[.val (.ref a9_0), .val (.int (5 : Int32)), .val (.long ((0 : Int64) + t_w_tree_a9_0_4)), .second, .val (.int (4 : Int32))] [(.int (4 : Int32))])) _
              refine XS.ifNo X18.here hx rfl (hb hby d9_7) rfl ((if0 _ _).trans (tlt (by decide : (0 : Int32) < (4 : Int32))).2.2.2) ?_
              refine XS.lloadN X18.here hx rfl (hb hby d9_10) rfl ?_
              refine XS.aloadN X18.here hx rfl (hb hby d9_11) rfl rfl ?_
              show Steps p.tables e below (T18.setTop (mkF m 12 #[.val (.ref a9_0), .val (.int (5 : Int32)), .val (.long ((0 : Int64) + t_w_tree_a9_0_4)), .second, .val (.int (4 : Int32))] [(.ref a9_0), (.long ((0 : Int64) + t_w_tree_a9_0_4))])) _
              refine st20 _ ?_
              refine XS.iload X20.here hx rfl (hb hby d9_15) rfl ?_
              refine XS.iconst X20.here hx rfl (hb hby d9_17) ?_
              show Steps p.tables e below (T20.setTop (mkF m 18 #[.val (.ref a9_0), .val (.int (5 : Int32)), .val (.long ((0 : Int64) + t_w_tree_a9_0_4)), .second, .val (.int (4 : Int32))] [(.int (1 : Int32)), (.int (4 : Int32)), (.ref w_tree_a9_0), (.long ((0 : Int64) + t_w_tree_a9_0_4))])) _
              refine XS.isub X20.here hx rfl (hb hby d9_18) rfl ?_
              refine X20.laload hx (j := (3 : Int32)) (v := (.long t_w_tree_a9_0_3)) (by rw [e20]; exact Ar21.1) (State.isArrayOf_alike hZ.alike Ar21.2.1) Ar21.2.2 (inb_of Sz21 ⟨by decide, by decide⟩) (Hh21.at (inb_of Sz21 ⟨by decide, by decide⟩) rfl) (g := (mkF m 19 #[.val (.ref a9_0), .val (.int (5 : Int32)), .val (.long ((0 : Int64) + t_w_tree_a9_0_4)), .second, .val (.int (4 : Int32))] [(.int (3 : Int32)), (.ref w_tree_a9_0), (.long ((0 : Int64) + t_w_tree_a9_0_4))])) rfl rfl (hb hby d9_19) _ ?_
              refine XS.ladd X20.here hx rfl (hb hby d9_20) rfl ?_
              show Steps p.tables e below (T20.setTop (mkF m 21 #[.val (.ref a9_0), .val (.int (5 : Int32)), .val (.long ((0 : Int64) + t_w_tree_a9_0_4)), .second, .val (.int (4 : Int32))] [(.long (((0 : Int64) + t_w_tree_a9_0_4) + t_w_tree_a9_0_3))])) _
              refine XS.lstoreN X20.here hx rfl (hb hby d9_21) rfl (l' := #[.val (.ref a9_0), .val (.int (5 : Int32)), .val (.long (((0 : Int64) + t_w_tree_a9_0_4) + t_w_tree_a9_0_3)), .second, .val (.int (4 : Int32))]) rfl ?_
              show Steps p.tables e below (T20.setTop (mkF m 22 #[.val (.ref a9_0), .val (.int (5 : Int32)), .val (.long (((0 : Int64) + t_w_tree_a9_0_4) + t_w_tree_a9_0_3)), .second, .val (.int (4 : Int32))] [])) _
              rw [← hx22]
              refine XS.iload X20.here hx rfl (hb hby d9_22) rfl ?_
              refine XS.iload X20.here hx rfl (hb hby d9_24) rfl ?_
              show Steps p.tables e below (T20.setTop (mkF m 26 #[.val (.ref a9_0), .val (.int (5 : Int32)), .val (.long x22), .second, .val (.int (4 : Int32))] [(.int (4 : Int32)), (.int (4 : Int32))])) _
              refine XS.iload X20.here hx rfl (hb hby d9_26) rfl ?_
              refine XS.ineg X20.here hx rfl (hb hby d9_28) rfl ?_
              refine XS.iand X20.here hx rfl (hb hby d9_29) rfl ?_
              show Steps p.tables e below (T20.setTop (mkF m 30 #[.val (.ref a9_0), .val (.int (5 : Int32)), .val (.long x22), .second, .val (.int (4 : Int32))] [(.int (4 : Int32)), (.int (4 : Int32))])) _
              refine XS.isub X20.here hx rfl (hb hby d9_30) rfl ?_
              refine XS.istore X20.here hx rfl (hb hby d9_31) rfl (l' := #[.val (.ref a9_0), .val (.int (5 : Int32)), .val (.long x22), .second, .val (.int (0 : Int32))]) rfl ?_
              refine XS.goto X20.here hx rfl (pc0 := 33) (pc' := 5) rfl (hb hby d9_33) (by decide) (by decide) ?_
              show Steps p.tables e below (T20.setTop (mkF m 5 #[.val (.ref a9_0), .val (.int (5 : Int32)), .val (.long x22), .second, .val (.int (0 : Int32))] [])) _
              refine XS.iload X20.here hx rfl (hb hby d9_5) rfl ?_
              show Steps p.tables e below (T20.setTop (mkF m 7 #[.val (.ref a9_0), .val (.int (5 : Int32)), .val (.long x22), .second, .val (.int (0 : Int32))] [(.int (0 : Int32))])) _
              refine XS.ifYes X20.here hx rfl (pc0 := 7) (pc' := 36) rfl (hb hby d9_7) rfl ((if0 _ _).trans (flt (by decide : ¬ ((0 : Int32) < (0 : Int32)))).2.2.2) (by decide) (by decide) ?_
              refine XS.lloadN X20.here hx rfl (hb hby d9_36) rfl ?_
              show Steps p.tables e below (T20.setTop (mkF m 37 #[.val (.ref a9_0), .val (.int (5 : Int32)), .val (.long x22), .second, .val (.int (0 : Int32))] [(.long x22)])) _
              exact own_retJ X20 hx Bd.returns (hb hby d9_37) hr
            · show Q_rm9_9 Z a9_0 p9_1 w_tree_a9_0 w_total_a9_0 kc_w_tree_a9_0 t_w_tree_a9_0_0 t_w_tree_a9_0_1 t_w_tree_a9_0_2 t_w_tree_a9_0_3 t_w_tree_a9_0_4 t_w_tree_a9_0_5 t_w_tree_a9_0_6 t_w_tree_a9_0_7 h0 n0 _ T20.heap _
              rw [e20]
              subst hx22
              exact ⟨(congrArg (fun z => some (Value.long z)) ((if_neg hb1).trans ((if_neg hb2).trans ((if_neg hb5).trans ((if_neg hb8).trans (if_neg hb14))))).symm), N0, rfl⟩
theorem own_fin6 (q0_0 : Int64) (q0_1 : Int64) (q0_2 : Int64) (q0_3 : Int64) (q0_4 : Int64) (p0_5 : Int32) (x2 : Int64) (hx2 : x2 = (q0_0 &&& (9223372036854775807 : Int64))) (x4 : Int64) (hx4 : x4 = (q0_1 &&& (9223372036854775807 : Int64))) (x6 : Int64) (hx6 : x6 = (q0_2 &&& (9223372036854775807 : Int64))) (x8 : Int64) (hx8 : x8 = (q0_3 &&& (9223372036854775807 : Int64))) (x10 : Int64) (hx10 : x10 = (q0_4 &&& (9223372036854775807 : Int64))) (x12 : Int32) (hx12 : x12 = ((p0_5 &&& (7 : Int32)) % (6 : Int32))) (x268 : Int32) (hx268 : x268 = ((((p0_5.toUInt32 >>> ((3 : Int32) &&& 31).toUInt32).toInt32) &&& (7 : Int32)) % (6 : Int32))) (y274 : Int64) (hy274 : y274 = ((0 : Int64) + x2)) (y277 : Int64) (hy277 : y277 = (((0 : Int64) + x2) + x4)) (y278 : Int64) (hy278 : y278 = ((((0 : Int64) + x2) - (0 : Int64)) + x4)) (y282 : Int64) (hy282 : y282 = ((0 : Int64) + x6)) (y283 : Int64) (hy283 : y283 = ((y277 - (0 : Int64)) + x6)) (y285 : Int64) (hy285 : y285 = (y283 + x8)) (y290 : Int64) (hy290 : y290 = (((y277 + x6) + x8) + x10)) (y291 : Int64) (hy291 : y291 = ((0 : Int64) + x10)) (y292 : Int64) (hy292 : y292 = ((((y277 + x6) + x8) - (0 : Int64)) + x10)) (v297 : Int64) (hv297 : v297 = (if (0 : Int32) < x268 then ((0 : Int64) + x2) else (0 : Int64))) (v303 : Int64) (hv303 : v303 = (if (1 : Int32) < x268 then (v297 + x4) else v297)) (v309 : Int64) (hv309 : v309 = (if (2 : Int32) < x268 then (v303 + x6) else v303)) (v315 : Int64) (hv315 : v315 = (if (3 : Int32) < x268 then (v309 + x8) else v309)) (v321 : Int64) (hv321 : v321 = (if (4 : Int32) < x268 then (v315 + x10) else v315)) (x325 : Int64) (hx325 : x325 = (if x268 = (0 : Int32) then (0 : Int64) else (if x268 = (1 : Int32) then ((0 : Int64) + y274) else (if x268 = (2 : Int32) then ((0 : Int64) + y278) else (if x268 = (3 : Int32) then (((0 : Int64) + y282) + y278) else (if x268 = (4 : Int32) then ((0 : Int64) + y285) else (((0 : Int64) + y291) + y285))))))) (v328 : Int32) (hv328 : v328 = (if x325 = v321 then (1 : Int32) else (0 : Int32))) (hc20 : x12 = (5 : Int32)) : v328 = (1 : Int32) := by
  have hp := own_p6 ((p0_5.toUInt32 >>> ((3 : Int32) &&& 31).toUInt32).toInt32) x268 hx268
  clear hx268
  have e : x325 = v321 := by
    clear hv328
    simp only [hy274, hy277, hy278, hy282, hy283, hy285, hy290, hy291, hy292, hv297, hv303, hv309, hv315, hv321, hx325]
    rcases hp with rfl | rfl | rfl | rfl | rfl | rfl <;> first | (simp +decide only [↓reduceIte] <;> first | rfl | grind) | (simp +decide <;> grind) | grind
  rw [hv328, if_pos e]
theorem pn_0 : plainName "com/example/motley/motley/CountTreeSumBeforePinLaw" = true := by first | (simp [plainName, overriddenIn]; done) | decide +kernel
theorem ef_rm0 (m : MethodId) (y0 : Int64) (y1 : Int64) (y2 : Int64) (y3 : Int64) (y4 : Int64) (y5 : Int32) : entryFrame m #[(.long y0), (.long y1), (.long y2), (.long y3), (.long y4), (.int y5)] maxLocals = mkF m 0 #[.val (.long y0), .second, .val (.long y1), .second, .val (.long y2), .second, .val (.long y3), .second, .val (.long y4), .second, .val (.int y5), .unset, .unset, .unset, .unset, .unset, .unset, .unset, .unset, .unset, .unset, .unset, .unset, .unset, .unset, .unset] [] := by first | (simp [entryFrame, mkF, argsToLocals, Value.category, maxLocals]; done) | rfl
def Q_rm0 (Z : State) (q0_0 : Int64) (q0_1 : Int64) (q0_2 : Int64) (q0_3 : Int64) (q0_4 : Int64) (p0_5 : Int32) (h0 : Heap) (n0 : Nat) (v : Option Value) (h : Heap) (L : List Loc) : Prop := v = some (.int (1 : Int32)) ∧ Fr n0 L
set_option maxRecDepth 65536 in
set_option maxHeartbeats 40000000 in
theorem rm0 (l : Launch) (Z : State) (a0 : Array Value) (hw : ∀ d ∈ tables_1, d.before a0 Z = true) (ws : List Jvm.Cond) (q0_0 : Int64) (q0_1 : Int64) (q0_2 : Int64) (q0_3 : Int64) (q0_4 : Int64) (p0_5 : Int32) (h0 : Heap) (n0 : Nat) (Z0 : n0 ≤ h0.size) :
    MetFree l x (head1 (Jvm.Cond.code x code maxLocals ret :: ws) room_1) (fun a U => a = #[(.long q0_0), (.long q0_1), (.long q0_2), (.long q0_3), (.long q0_4), (.int p0_5)] ∧ Z.Warmed39 U.vm ∧ U.heap = h0) (fun _ _ _ _ _ => True) (fun _ U o U' => ∃ v L, o = .returned v ∧ Q_rm0 Z q0_0 q0_1 q0_2 q0_3 q0_4 p0_5 h0 n0 v U'.heap L ∧ FrameEnd U o U' L 24 128) := by
  refine MetFree.of_bodySF (plainFor_of_name pn_0) hisR ?_
  intro p e s m args below meth c s₁ Bd hml0 hP hK
  obtain ⟨rfl, hZ, hh⟩ := hP
  have hx := Bd.exec
  have hby := Bd.bytes
  have hml : c.maxLocals = 26 := hml0
  have hown : s.vm.findClass "com/example/motley/motley/CountTreeSumBeforePinLaw" = some m.cls := findClass_of_methodNamed Bd.named
  have hnm := (name_of_methodNamed Bd.named Bd.method).1
  have X0 : Stand p l e room_1 s m #[(.long q0_0), (.long q0_1), (.long q0_2), (.long q0_3), (.long q0_4), (.int p0_5)] below meth c s₁ [] 0 0 := Stand.of_body Bd
  have e0 : s₁.heap = h0 := by rw [← hh, Bd.state]; rfl
  have N0 := Fr.nil n0
  have pre0 : ∀ t, Steps p.tables e below (s₁.setTop (mkF m 0 #[.val (.long q0_0), .second, .val (.long q0_1), .second, .val (.long q0_2), .second, .val (.long q0_3), .second, .val (.long q0_4), .second, .val (.int p0_5), .unset, .unset, .unset, .unset, .unset, .unset, .unset, .unset, .unset, .unset, .unset, .unset, .unset, .unset, .unset] [])) t → Steps p.tables e below (s₁.setTop (entryFrame m #[(.long q0_0), (.long q0_1), (.long q0_2), (.long q0_3), (.long q0_4), (.int p0_5)] maxLocals)) t := fun t k => castTop (ef_rm0 m q0_0 q0_1 q0_2 q0_3 q0_4 p0_5) k
  let A1 : Array Slot := #[.val (.long q0_0), .second, .val (.long q0_1), .second, .val (.long q0_2), .second, .val (.long q0_3), .second, .val (.long q0_4), .second, .val (.int p0_5), .unset, .unset, .unset, .unset, .unset, .unset, .unset, .unset, .unset, .unset, .unset, .unset, .unset, .unset, .unset]
  obtain ⟨x2, hx2⟩ : ∃ z : Int64, z = (q0_0 &&& (9223372036854775807 : Int64)) := ⟨_, rfl⟩
  let A3 : Array Slot := #[.val (.long q0_0), .second, .val (.long q0_1), .second, .val (.long q0_2), .second, .val (.long q0_3), .second, .val (.long q0_4), .second, .val (.int p0_5), .val (.long x2), .second, .unset, .unset, .unset, .unset, .unset, .unset, .unset, .unset, .unset, .unset, .unset, .unset, .unset]
  obtain ⟨x4, hx4⟩ : ∃ z : Int64, z = (q0_1 &&& (9223372036854775807 : Int64)) := ⟨_, rfl⟩
  let A5 : Array Slot := #[.val (.long q0_0), .second, .val (.long q0_1), .second, .val (.long q0_2), .second, .val (.long q0_3), .second, .val (.long q0_4), .second, .val (.int p0_5), .val (.long x2), .second, .val (.long x4), .second, .unset, .unset, .unset, .unset, .unset, .unset, .unset, .unset, .unset, .unset, .unset]
  obtain ⟨x6, hx6⟩ : ∃ z : Int64, z = (q0_2 &&& (9223372036854775807 : Int64)) := ⟨_, rfl⟩
  let A7 : Array Slot := #[.val (.long q0_0), .second, .val (.long q0_1), .second, .val (.long q0_2), .second, .val (.long q0_3), .second, .val (.long q0_4), .second, .val (.int p0_5), .val (.long x2), .second, .val (.long x4), .second, .val (.long x6), .second, .unset, .unset, .unset, .unset, .unset, .unset, .unset, .unset, .unset]
  obtain ⟨x8, hx8⟩ : ∃ z : Int64, z = (q0_3 &&& (9223372036854775807 : Int64)) := ⟨_, rfl⟩
  let A9 : Array Slot := #[.val (.long q0_0), .second, .val (.long q0_1), .second, .val (.long q0_2), .second, .val (.long q0_3), .second, .val (.long q0_4), .second, .val (.int p0_5), .val (.long x2), .second, .val (.long x4), .second, .val (.long x6), .second, .val (.long x8), .second, .unset, .unset, .unset, .unset, .unset, .unset, .unset]
  obtain ⟨x10, hx10⟩ : ∃ z : Int64, z = (q0_4 &&& (9223372036854775807 : Int64)) := ⟨_, rfl⟩
  let A11 : Array Slot := #[.val (.long q0_0), .second, .val (.long q0_1), .second, .val (.long q0_2), .second, .val (.long q0_3), .second, .val (.long q0_4), .second, .val (.int p0_5), .val (.long x2), .second, .val (.long x4), .second, .val (.long x6), .second, .val (.long x8), .second, .val (.long x10), .second, .unset, .unset, .unset, .unset, .unset]
  obtain ⟨x12, hx12⟩ : ∃ z : Int32, z = ((p0_5 &&& (7 : Int32)) % (6 : Int32)) := ⟨_, rfl⟩
  let A13 : Array Slot := #[.val (.long q0_0), .second, .val (.long q0_1), .second, .val (.long q0_2), .second, .val (.long q0_3), .second, .val (.long q0_4), .second, .val (.int p0_5), .val (.long x2), .second, .val (.long x4), .second, .val (.long x6), .second, .val (.long x8), .second, .val (.long x10), .second, .val (.int x12), .unset, .unset, .unset, .unset]
  have G14 : ∀ t, Steps p.tables e below (s₁.setTop (mkF m 48 A13 [])) t → Steps p.tables e below (s₁.setTop (mkF m 0 A1 [])) t := by
    intro t k
    show Steps p.tables e below (s₁.setTop (mkF m 0 A1 [])) _
    refine XS.lloadN X0.here hx rfl (hb hby at_0) rfl ?_
    refine X0.ldc2Long hx hown (mvT hZ (ow0 hw)) (g := (mkF m 1 A1 [(.long q0_0)])) rfl (hb hby at_1) _ ?_
    refine XS.land X0.here hx rfl (hb hby at_4) rfl ?_
    show Steps p.tables e below (s₁.setTop (mkF m 5 A1 [(.long (q0_0 &&& (9223372036854775807 : Int64)))])) _
    refine XS.lstore X0.here hx rfl (hb hby at_5) rfl (l' := #[.val (.long q0_0), .second, .val (.long q0_1), .second, .val (.long q0_2), .second, .val (.long q0_3), .second, .val (.long q0_4), .second, .val (.int p0_5), .val (.long (q0_0 &&& (9223372036854775807 : Int64))), .second, .unset, .unset, .unset, .unset, .unset, .unset, .unset, .unset, .unset, .unset, .unset, .unset, .unset]) rfl ?_
    show Steps p.tables e below (s₁.setTop (mkF m 7 #[.val (.long q0_0), .second, .val (.long q0_1), .second, .val (.long q0_2), .second, .val (.long q0_3), .second, .val (.long q0_4), .second, .val (.int p0_5), .val (.long (q0_0 &&& (9223372036854775807 : Int64))), .second, .unset, .unset, .unset, .unset, .unset, .unset, .unset, .unset, .unset, .unset, .unset, .unset, .unset] [])) _
    rw [← hx2]
    refine XS.lloadN X0.here hx rfl (hb hby at_7) rfl ?_
    refine X0.ldc2Long hx hown (mvT hZ (ow0 hw)) (g := (mkF m 8 A3 [(.long q0_1)])) rfl (hb hby at_8) _ ?_
    show Steps p.tables e below (s₁.setTop (mkF m 11 A3 [(.long (9223372036854775807 : Int64)), (.long q0_1)])) _
    refine XS.land X0.here hx rfl (hb hby at_11) rfl ?_
    refine XS.lstore X0.here hx rfl (hb hby at_12) rfl (l' := #[.val (.long q0_0), .second, .val (.long q0_1), .second, .val (.long q0_2), .second, .val (.long q0_3), .second, .val (.long q0_4), .second, .val (.int p0_5), .val (.long x2), .second, .val (.long (q0_1 &&& (9223372036854775807 : Int64))), .second, .unset, .unset, .unset, .unset, .unset, .unset, .unset, .unset, .unset, .unset, .unset]) rfl ?_
    show Steps p.tables e below (s₁.setTop (mkF m 14 #[.val (.long q0_0), .second, .val (.long q0_1), .second, .val (.long q0_2), .second, .val (.long q0_3), .second, .val (.long q0_4), .second, .val (.int p0_5), .val (.long x2), .second, .val (.long (q0_1 &&& (9223372036854775807 : Int64))), .second, .unset, .unset, .unset, .unset, .unset, .unset, .unset, .unset, .unset, .unset, .unset] [])) _
    rw [← hx4]
    refine XS.lload X0.here hx rfl (hb hby at_14) rfl ?_
    refine X0.ldc2Long hx hown (mvT hZ (ow0 hw)) (g := (mkF m 16 A5 [(.long q0_2)])) rfl (hb hby at_16) _ ?_
    show Steps p.tables e below (s₁.setTop (mkF m 19 A5 [(.long (9223372036854775807 : Int64)), (.long q0_2)])) _
    refine XS.land X0.here hx rfl (hb hby at_19) rfl ?_
    refine XS.lstore X0.here hx rfl (hb hby at_20) rfl (l' := #[.val (.long q0_0), .second, .val (.long q0_1), .second, .val (.long q0_2), .second, .val (.long q0_3), .second, .val (.long q0_4), .second, .val (.int p0_5), .val (.long x2), .second, .val (.long x4), .second, .val (.long (q0_2 &&& (9223372036854775807 : Int64))), .second, .unset, .unset, .unset, .unset, .unset, .unset, .unset, .unset, .unset]) rfl ?_
    show Steps p.tables e below (s₁.setTop (mkF m 22 #[.val (.long q0_0), .second, .val (.long q0_1), .second, .val (.long q0_2), .second, .val (.long q0_3), .second, .val (.long q0_4), .second, .val (.int p0_5), .val (.long x2), .second, .val (.long x4), .second, .val (.long (q0_2 &&& (9223372036854775807 : Int64))), .second, .unset, .unset, .unset, .unset, .unset, .unset, .unset, .unset, .unset] [])) _
    rw [← hx6]
    refine XS.lload X0.here hx rfl (hb hby at_22) rfl ?_
    refine X0.ldc2Long hx hown (mvT hZ (ow0 hw)) (g := (mkF m 24 A7 [(.long q0_3)])) rfl (hb hby at_24) _ ?_
    show Steps p.tables e below (s₁.setTop (mkF m 27 A7 [(.long (9223372036854775807 : Int64)), (.long q0_3)])) _
    refine XS.land X0.here hx rfl (hb hby at_27) rfl ?_
    refine XS.lstore X0.here hx rfl (hb hby at_28) rfl (l' := #[.val (.long q0_0), .second, .val (.long q0_1), .second, .val (.long q0_2), .second, .val (.long q0_3), .second, .val (.long q0_4), .second, .val (.int p0_5), .val (.long x2), .second, .val (.long x4), .second, .val (.long x6), .second, .val (.long (q0_3 &&& (9223372036854775807 : Int64))), .second, .unset, .unset, .unset, .unset, .unset, .unset, .unset]) rfl ?_
    show Steps p.tables e below (s₁.setTop (mkF m 30 #[.val (.long q0_0), .second, .val (.long q0_1), .second, .val (.long q0_2), .second, .val (.long q0_3), .second, .val (.long q0_4), .second, .val (.int p0_5), .val (.long x2), .second, .val (.long x4), .second, .val (.long x6), .second, .val (.long (q0_3 &&& (9223372036854775807 : Int64))), .second, .unset, .unset, .unset, .unset, .unset, .unset, .unset] [])) _
    rw [← hx8]
    refine XS.lload X0.here hx rfl (hb hby at_30) rfl ?_
    refine X0.ldc2Long hx hown (mvT hZ (ow0 hw)) (g := (mkF m 32 A9 [(.long q0_4)])) rfl (hb hby at_32) _ ?_
    show Steps p.tables e below (s₁.setTop (mkF m 35 A9 [(.long (9223372036854775807 : Int64)), (.long q0_4)])) _
    refine XS.land X0.here hx rfl (hb hby at_35) rfl ?_
    refine XS.lstore X0.here hx rfl (hb hby at_36) rfl (l' := #[.val (.long q0_0), .second, .val (.long q0_1), .second, .val (.long q0_2), .second, .val (.long q0_3), .second, .val (.long q0_4), .second, .val (.int p0_5), .val (.long x2), .second, .val (.long x4), .second, .val (.long x6), .second, .val (.long x8), .second, .val (.long (q0_4 &&& (9223372036854775807 : Int64))), .second, .unset, .unset, .unset, .unset, .unset]) rfl ?_
    show Steps p.tables e below (s₁.setTop (mkF m 38 #[.val (.long q0_0), .second, .val (.long q0_1), .second, .val (.long q0_2), .second, .val (.long q0_3), .second, .val (.long q0_4), .second, .val (.int p0_5), .val (.long x2), .second, .val (.long x4), .second, .val (.long x6), .second, .val (.long x8), .second, .val (.long (q0_4 &&& (9223372036854775807 : Int64))), .second, .unset, .unset, .unset, .unset, .unset] [])) _
    rw [← hx10]
    refine XS.iload X0.here hx rfl (hb hby at_38) rfl ?_
    refine XS.bipush X0.here hx rfl (hb hby at_40) ?_
    show Steps p.tables e below (s₁.setTop (mkF m 42 A11 [(.int (7 : Int32)), (.int p0_5)])) _
    refine XS.iand X0.here hx rfl (hb hby at_42) rfl ?_
    refine XS.bipush X0.here hx rfl (hb hby at_43) ?_
    refine iremM X0 hx rfl (hb hby at_45) rfl (by decide : ¬ ((6 : Int32) = (0 : Int32))) ?_
    show Steps p.tables e below (s₁.setTop (mkF m 46 A11 [(.int ((p0_5 &&& (7 : Int32)) % (6 : Int32)))])) _
    refine XS.istore X0.here hx rfl (hb hby at_46) rfl (l' := #[.val (.long q0_0), .second, .val (.long q0_1), .second, .val (.long q0_2), .second, .val (.long q0_3), .second, .val (.long q0_4), .second, .val (.int p0_5), .val (.long x2), .second, .val (.long x4), .second, .val (.long x6), .second, .val (.long x8), .second, .val (.long x10), .second, .val (.int ((p0_5 &&& (7 : Int32)) % (6 : Int32))), .unset, .unset, .unset, .unset]) rfl ?_
    show Steps p.tables e below (s₁.setTop (mkF m 48 #[.val (.long q0_0), .second, .val (.long q0_1), .second, .val (.long q0_2), .second, .val (.long q0_3), .second, .val (.long q0_4), .second, .val (.int p0_5), .val (.long x2), .second, .val (.long x4), .second, .val (.long x6), .second, .val (.long x8), .second, .val (.long x10), .second, .val (.int ((p0_5 &&& (7 : Int32)) % (6 : Int32))), .unset, .unset, .unset, .unset] [])) _
    rw [← hx12]
    exact k
  rcases own_p6 p0_5 x12 hx12 with hc15 | hc16 | hc17 | hc18 | hc19 | hc20
  · let A21 : Array Slot := #[.val (.long q0_0), .second, .val (.long q0_1), .second, .val (.long q0_2), .second, .val (.long q0_3), .second, .val (.long q0_4), .second, .val (.int p0_5), .val (.long x2), .second, .val (.long x4), .second, .val (.long x6), .second, .val (.long x8), .second, .val (.long x10), .second, .val (.int (0 : Int32)), .unset, .unset, .unset, .unset]
    have own_t15 : True := trivial
    obtain ⟨x22, hx22⟩ : ∃ z : Int32, z = ((((p0_5.toUInt32 >>> ((3 : Int32) &&& 31).toUInt32).toInt32) &&& (7 : Int32)) % (1 : Int32)) := ⟨_, rfl⟩
    let A23 : Array Slot := #[.val (.long q0_0), .second, .val (.long q0_1), .second, .val (.long q0_2), .second, .val (.long q0_3), .second, .val (.long q0_4), .second, .val (.int p0_5), .val (.long x2), .second, .val (.long x4), .second, .val (.long x6), .second, .val (.long x8), .second, .val (.long x10), .second, .val (.int (0 : Int32)), .val (.int x22), .unset, .unset, .unset]
    obtain ⟨T24, h24, X24, e24, E24, A24, D24, -, st24⟩ := newO X0 hx hZ hown (ow1 hw) (ow2 hw) (ow3 hw) e0 (g := (mkF m 62 A23 [])) rfl (hb hby at_62) (by decide) (by decide)
    obtain ⟨b24, g24⟩ : ∃ z, z = h0.size := ⟨_, rfl⟩
    rw [← g24] at A24 D24 st24
    have F_tree_b24 : Fld Z h24 b24 "com/example/motley/motley/CountTree" "tree" "[J" .null := D24 (Or.inl (ow12 hw)) (ty := (.array .long)) (by decide)
    have F_size_b24 : Fld Z h24 b24 "com/example/motley/motley/CountTree" "size" "I" (.int (0 : Int32)) := D24 (Or.inl (ow24 hw)) (ty := .int) (by decide)
    have F_total_b24 : Fld Z h24 b24 "com/example/motley/motley/CountTree" "total" "J" (.long (0 : Int64)) := D24 (Or.inl (ow46 hw)) (ty := .long) (by decide)
    have g_b24 : n0 ≤ b24 := Nat.le_trans Z0 (Nat.le_of_eq g24.symm)
    have sz_b24 : h0.size ≤ b24 := Nat.le_trans (Nat.le_refl _) (Nat.le_of_eq g24.symm)
    have K24 : Keep h0 h24 [] := (Keep.refl h0 []).ext E24
    have Z24 : n0 ≤ h24.size := Nat.le_trans Z0 K24.1
    obtain ⟨_, _, ⟨T25, L25, k25, n25⟩, -, X25, ⟨Lc25, hQ25, l25, y25, z25⟩, st25⟩ := X24.specialBack hx (y := (⟨"com/example/motley/motley/CountTree", "<init>", "()V"⟩ : MethodName)) rfl hown (mvT hZ (ow4 hw)) (mvT hZ (ow5 hw)) (mvT hZ (ow6 hw)) (by decide) (backOf (W := 1) (rm1_1 l Z a0 hw [] b24 h24 n0 Z24 A24 F_tree_b24 F_size_b24 F_total_b24 g_b24) hZ (ow6 hw) (ow3 hw) (by decide) (by decide)) (g := (mkF m 66 A23 [(.ref b24), (.ref b24)])) rfl (by rw [hml]; rfl) (Steps.refl _) (a := b24) (argsL := []) (rest := [(.ref b24)]) (lenOf pd___V rfl) rfl (by show 2 * 0 + _ ≤ _; exact Nat.le_of_eq rfl) (hb hby at_66) (fun _ _ => ⟨rfl, e24, (by decide : 1 + 1 ≤ _), (by decide : 3 + 0 ≤ _)⟩)
    dsimp only [Pt.U, Pt.locs, Pt.cells, Pt.slots] at X25 l25 y25 z25 st25 hQ25
    subst l25 y25 z25
    obtain ⟨bx1_0_25, kx1_0_25, rfl, Nq25, Kc25, P25_0, P25_1, P25_2, P25_3, P25_4, P25_5⟩ := hQ25
    have K25 : Keep h0 T25.heap [] := Keep.trans K24 Kc25 (allS (P := fun x => x ∈ ([] : List Addr) ∨ h0.size ≤ x) (Or.inr sz_b24) all0)
    have Z25 : n0 ≤ T25.heap.size := Nat.le_trans Z0 K25.1
    have g_bx1_0_25 : n0 ≤ bx1_0_25 := Nat.le_trans Z24 P25_0
    have sz_bx1_0_25 : h0.size ≤ bx1_0_25 := Nat.le_trans K24.1 P25_0
    have ne_b24_bx1_0_25 : b24 ≠ bx1_0_25 := Nat.ne_of_lt (Nat.lt_of_lt_of_le A24.lt P25_0)
    have N25 := Fr.app N0 Nq25
    let A26 : Array Slot := #[.val (.long q0_0), .second, .val (.long q0_1), .second, .val (.long q0_2), .second, .val (.long q0_3), .second, .val (.long q0_4), .second, .val (.int p0_5), .val (.long x2), .second, .val (.long x4), .second, .val (.long x6), .second, .val (.long x8), .second, .val (.long x10), .second, .val (.int (0 : Int32)), .val (.int x22), .val (.ref b24), .unset, .unset]
    let A27 : Array Slot := #[.val (.long q0_0), .second, .val (.long q0_1), .second, .val (.long q0_2), .second, .val (.long q0_3), .second, .val (.long q0_4), .second, .val (.int p0_5), .val (.long x2), .second, .val (.long x4), .second, .val (.long x6), .second, .val (.long x8), .second, .val (.long x10), .second, .val (.int (0 : Int32)), .val (.int x22), .val (.ref b24), .val (.long (0 : Int64)), .second]
    have G28 : ∀ t, Steps p.tables e below (T25.setTop (mkF m 140 A27 [(.int x22)])) t → Steps p.tables e below (s₁.setTop (mkF m 48 A13 [])) t := by
      intro t k
      show Steps p.tables e below (s₁.setTop (mkF m 48 #[.val (.long q0_0), .second, .val (.long q0_1), .second, .val (.long q0_2), .second, .val (.long q0_3), .second, .val (.long q0_4), .second, .val (.int p0_5), .val (.long x2), .second, .val (.long x4), .second, .val (.long x6), .second, .val (.long x8), .second, .val (.long x10), .second, .val (.int x12), .unset, .unset, .unset, .unset] [])) _
      rw [hc15]
      show Steps p.tables e below (s₁.setTop (mkF m 48 A21 [])) _
      refine XS.iload X0.here hx rfl (hb hby at_48) rfl ?_
      refine XS.iconst X0.here hx rfl (hb hby at_50) ?_
      refine XS.iushr X0.here hx rfl (hb hby at_51) rfl ?_
      show Steps p.tables e below (s₁.setTop (mkF m 52 A21 [(.int ((p0_5.toUInt32 >>> ((3 : Int32) &&& 31).toUInt32).toInt32))])) _
      refine XS.bipush X0.here hx rfl (hb hby at_52) ?_
      refine XS.iand X0.here hx rfl (hb hby at_54) rfl ?_
      refine XS.iload X0.here hx rfl (hb hby at_55) rfl ?_
      show Steps p.tables e below (s₁.setTop (mkF m 57 A21 [(.int (0 : Int32)), (.int (((p0_5.toUInt32 >>> ((3 : Int32) &&& 31).toUInt32).toInt32) &&& (7 : Int32)))])) _
      refine XS.iconst X0.here hx rfl (hb hby at_57) ?_
      refine XS.iadd X0.here hx rfl (hb hby at_58) rfl ?_
      refine iremM X0 hx rfl (hb hby at_59) rfl (by decide : ¬ ((1 : Int32) = (0 : Int32))) ?_
      show Steps p.tables e below (s₁.setTop (mkF m 60 A21 [(.int ((((p0_5.toUInt32 >>> ((3 : Int32) &&& 31).toUInt32).toInt32) &&& (7 : Int32)) % (1 : Int32)))])) _
      refine XS.istore X0.here hx rfl (hb hby at_60) rfl (l' := #[.val (.long q0_0), .second, .val (.long q0_1), .second, .val (.long q0_2), .second, .val (.long q0_3), .second, .val (.long q0_4), .second, .val (.int p0_5), .val (.long x2), .second, .val (.long x4), .second, .val (.long x6), .second, .val (.long x8), .second, .val (.long x10), .second, .val (.int (0 : Int32)), .val (.int ((((p0_5.toUInt32 >>> ((3 : Int32) &&& 31).toUInt32).toInt32) &&& (7 : Int32)) % (1 : Int32))), .unset, .unset, .unset]) rfl ?_
      show Steps p.tables e below (s₁.setTop (mkF m 62 #[.val (.long q0_0), .second, .val (.long q0_1), .second, .val (.long q0_2), .second, .val (.long q0_3), .second, .val (.long q0_4), .second, .val (.int p0_5), .val (.long x2), .second, .val (.long x4), .second, .val (.long x6), .second, .val (.long x8), .second, .val (.long x10), .second, .val (.int (0 : Int32)), .val (.int ((((p0_5.toUInt32 >>> ((3 : Int32) &&& 31).toUInt32).toInt32) &&& (7 : Int32)) % (1 : Int32))), .unset, .unset, .unset] [])) _
      rw [← hx22]
      refine st24 _ ?_
      refine XS.dup X24.here hx rfl (hb hby at_65) rfl rfl ?_
      show Steps p.tables e below (T24.setTop (mkF m 66 A23 [(.ref b24), (.ref b24)])) _
      refine st25.trans ?_
      refine XS.astore X25.here hx rfl (hb hby at_69) rfl rfl (l' := A26) rfl ?_
      refine XS.iload X25.here hx rfl (hb hby at_71) rfl ?_
      show Steps p.tables e below (T25.setTop (mkF m 73 A26 [(.int (0 : Int32))])) _
      refine XS.ifYes X25.here hx rfl (pc0 := 73) (pc' := 83) rfl (hb hby at_73) rfl ((if0 _ _).trans (flt (by decide : ¬ ((0 : Int32) < (0 : Int32)))).2.2.2) (by decide) (by decide) ?_
      refine XS.iload X25.here hx rfl (hb hby at_83) rfl ?_
      refine XS.iconst X25.here hx rfl (hb hby at_85) ?_
      show Steps p.tables e below (T25.setTop (mkF m 86 A26 [(.int (1 : Int32)), (.int (0 : Int32))])) _
      refine XS.icmpYes X25.here hx rfl (pc0 := 86) (pc' := 96) rfl (hb hby at_86) rfl (flt (by decide : ¬ ((1 : Int32) < (0 : Int32)))).2.2.2 (by decide) (by decide) ?_
      refine XS.iload X25.here hx rfl (hb hby at_96) rfl ?_
      refine XS.iconst X25.here hx rfl (hb hby at_98) ?_
      show Steps p.tables e below (T25.setTop (mkF m 99 A26 [(.int (2 : Int32)), (.int (0 : Int32))])) _
      refine XS.icmpYes X25.here hx rfl (pc0 := 99) (pc' := 109) rfl (hb hby at_99) rfl (flt (by decide : ¬ ((2 : Int32) < (0 : Int32)))).2.2.2 (by decide) (by decide) ?_
      refine XS.iload X25.here hx rfl (hb hby at_109) rfl ?_
      refine XS.iconst X25.here hx rfl (hb hby at_111) ?_
      show Steps p.tables e below (T25.setTop (mkF m 112 A26 [(.int (3 : Int32)), (.int (0 : Int32))])) _
      refine XS.icmpYes X25.here hx rfl (pc0 := 112) (pc' := 122) rfl (hb hby at_112) rfl (flt (by decide : ¬ ((3 : Int32) < (0 : Int32)))).2.2.2 (by decide) (by decide) ?_
      refine XS.iload X25.here hx rfl (hb hby at_122) rfl ?_
      refine XS.iconst X25.here hx rfl (hb hby at_124) ?_
      show Steps p.tables e below (T25.setTop (mkF m 125 A26 [(.int (4 : Int32)), (.int (0 : Int32))])) _
      refine XS.icmpYes X25.here hx rfl (pc0 := 125) (pc' := 135) rfl (hb hby at_125) rfl (flt (by decide : ¬ ((4 : Int32) < (0 : Int32)))).2.2.2 (by decide) (by decide) ?_
      refine XS.lconst X25.here hx rfl (hb hby at_135) ?_
      refine XS.lstore X25.here hx rfl (hb hby at_136) rfl (l' := A27) rfl ?_
      show Steps p.tables e below (T25.setTop (mkF m 138 A27 [])) _
      refine XS.iload X25.here hx rfl (hb hby at_138) rfl ?_
      exact k
    obtain ⟨v31, hv31⟩ : ∃ z : Int64, z = (if (0 : Int32) < x22 then ((0 : Int64) + x2) else (0 : Int64)) := ⟨_, rfl⟩
    obtain ⟨T32, Lo32, X32, N32, e32, G32⟩ := own_join X25 N25 (h := T25.heap) (mkF m 140 A27 [(.int x22)]) (mkF m 150 #[.val (.long q0_0), .second, .val (.long q0_1), .second, .val (.long q0_2), .second, .val (.long q0_3), .second, .val (.long q0_4), .second, .val (.int p0_5), .val (.long x2), .second, .val (.long x4), .second, .val (.long x6), .second, .val (.long x8), .second, .val (.long x10), .second, .val (.int (0 : Int32)), .val (.int x22), .val (.ref b24), .val (.long v31), .second] []) (by
      by_cases h140_29 : (0 : Int32) < x22
      · let A30 : Array Slot := #[.val (.long q0_0), .second, .val (.long q0_1), .second, .val (.long q0_2), .second, .val (.long q0_3), .second, .val (.long q0_4), .second, .val (.int p0_5), .val (.long x2), .second, .val (.long x4), .second, .val (.long x6), .second, .val (.long x8), .second, .val (.long x10), .second, .val (.int (0 : Int32)), .val (.int x22), .val (.ref b24), .val (.long ((0 : Int64) + x2)), .second]
        refine ⟨T25, _, X25, N25, rfl, fun t k => ?_⟩
        rw [show v31 = ((0 : Int64) + x2) from hv31.trans (if_pos h140_29)] at k
        show Steps p.tables e below (T25.setTop (mkF m 140 A27 [(.int x22)])) _
        refine XS.ifNo X25.here hx rfl (hb hby at_140) rfl ((if0 _ _).trans (tlt h140_29).2.2.2) ?_
        refine XS.lload X25.here hx rfl (hb hby at_143) rfl ?_
        refine XS.lload X25.here hx rfl (hb hby at_145) rfl ?_
        show Steps p.tables e below (T25.setTop (mkF m 147 A27 [(.long x2), (.long (0 : Int64))])) _
        refine XS.ladd X25.here hx rfl (hb hby at_147) rfl ?_
        refine XS.lstore X25.here hx rfl (hb hby at_148) rfl (l' := A30) rfl ?_
        exact k
      · refine ⟨T25, _, X25, N25, rfl, fun t k => ?_⟩
        rw [show v31 = (0 : Int64) from hv31.trans (if_neg h140_29)] at k
        show Steps p.tables e below (T25.setTop (mkF m 140 A27 [(.int x22)])) _
        refine XS.ifYes X25.here hx rfl (pc0 := 140) (pc' := 150) rfl (hb hby at_140) rfl ((if0 _ _).trans (flt h140_29).2.2.2) (by decide) (by decide) ?_
        exact k)
    let A33 : Array Slot := #[.val (.long q0_0), .second, .val (.long q0_1), .second, .val (.long q0_2), .second, .val (.long q0_3), .second, .val (.long q0_4), .second, .val (.int p0_5), .val (.long x2), .second, .val (.long x4), .second, .val (.long x6), .second, .val (.long x8), .second, .val (.long x10), .second, .val (.int (0 : Int32)), .val (.int x22), .val (.ref b24), .val (.long v31), .second]
    have G34 : ∀ t, Steps p.tables e below (T32.setTop (mkF m 153 A33 [(.int (1 : Int32)), (.int x22)])) t → Steps p.tables e below (T32.setTop (mkF m 150 A33 [])) t := by
      intro t k
      show Steps p.tables e below (T32.setTop (mkF m 150 A33 [])) _
      refine XS.iload X32.here hx rfl (hb hby at_150) rfl ?_
      refine XS.iconst X32.here hx rfl (hb hby at_152) ?_
      exact k
    obtain ⟨v37, hv37⟩ : ∃ z : Int64, z = (if (1 : Int32) < x22 then (v31 + x4) else v31) := ⟨_, rfl⟩
    obtain ⟨T38, Lo38, X38, N38, e38, G38⟩ := own_join X32 N32 (h := T25.heap) (mkF m 153 A33 [(.int (1 : Int32)), (.int x22)]) (mkF m 163 #[.val (.long q0_0), .second, .val (.long q0_1), .second, .val (.long q0_2), .second, .val (.long q0_3), .second, .val (.long q0_4), .second, .val (.int p0_5), .val (.long x2), .second, .val (.long x4), .second, .val (.long x6), .second, .val (.long x8), .second, .val (.long x10), .second, .val (.int (0 : Int32)), .val (.int x22), .val (.ref b24), .val (.long v37), .second] []) (by
      by_cases h153_35 : (1 : Int32) < x22
      · let A36 : Array Slot := #[.val (.long q0_0), .second, .val (.long q0_1), .second, .val (.long q0_2), .second, .val (.long q0_3), .second, .val (.long q0_4), .second, .val (.int p0_5), .val (.long x2), .second, .val (.long x4), .second, .val (.long x6), .second, .val (.long x8), .second, .val (.long x10), .second, .val (.int (0 : Int32)), .val (.int x22), .val (.ref b24), .val (.long (v31 + x4)), .second]
        refine ⟨T32, _, X32, N32, e32, fun t k => ?_⟩
        rw [show v37 = (v31 + x4) from hv37.trans (if_pos h153_35)] at k
        show Steps p.tables e below (T32.setTop (mkF m 153 A33 [(.int (1 : Int32)), (.int x22)])) _
        refine XS.icmpNo X32.here hx rfl (hb hby at_153) rfl (tlt h153_35).2.2.2 ?_
        refine XS.lload X32.here hx rfl (hb hby at_156) rfl ?_
        refine XS.lload X32.here hx rfl (hb hby at_158) rfl ?_
        show Steps p.tables e below (T32.setTop (mkF m 160 A33 [(.long x4), (.long v31)])) _
        refine XS.ladd X32.here hx rfl (hb hby at_160) rfl ?_
        refine XS.lstore X32.here hx rfl (hb hby at_161) rfl (l' := A36) rfl ?_
        exact k
      · refine ⟨T32, _, X32, N32, e32, fun t k => ?_⟩
        rw [show v37 = v31 from hv37.trans (if_neg h153_35)] at k
        show Steps p.tables e below (T32.setTop (mkF m 153 A33 [(.int (1 : Int32)), (.int x22)])) _
        refine XS.icmpYes X32.here hx rfl (pc0 := 153) (pc' := 163) rfl (hb hby at_153) rfl (flt h153_35).2.2.2 (by decide) (by decide) ?_
        exact k)
    let A39 : Array Slot := #[.val (.long q0_0), .second, .val (.long q0_1), .second, .val (.long q0_2), .second, .val (.long q0_3), .second, .val (.long q0_4), .second, .val (.int p0_5), .val (.long x2), .second, .val (.long x4), .second, .val (.long x6), .second, .val (.long x8), .second, .val (.long x10), .second, .val (.int (0 : Int32)), .val (.int x22), .val (.ref b24), .val (.long v37), .second]
    have G40 : ∀ t, Steps p.tables e below (T38.setTop (mkF m 166 A39 [(.int (2 : Int32)), (.int x22)])) t → Steps p.tables e below (T38.setTop (mkF m 163 A39 [])) t := by
      intro t k
      show Steps p.tables e below (T38.setTop (mkF m 163 A39 [])) _
      refine XS.iload X38.here hx rfl (hb hby at_163) rfl ?_
      refine XS.iconst X38.here hx rfl (hb hby at_165) ?_
      exact k
    obtain ⟨v43, hv43⟩ : ∃ z : Int64, z = (if (2 : Int32) < x22 then (v37 + x6) else v37) := ⟨_, rfl⟩
    obtain ⟨T44, Lo44, X44, N44, e44, G44⟩ := own_join X38 N38 (h := T25.heap) (mkF m 166 A39 [(.int (2 : Int32)), (.int x22)]) (mkF m 176 #[.val (.long q0_0), .second, .val (.long q0_1), .second, .val (.long q0_2), .second, .val (.long q0_3), .second, .val (.long q0_4), .second, .val (.int p0_5), .val (.long x2), .second, .val (.long x4), .second, .val (.long x6), .second, .val (.long x8), .second, .val (.long x10), .second, .val (.int (0 : Int32)), .val (.int x22), .val (.ref b24), .val (.long v43), .second] []) (by
      by_cases h166_41 : (2 : Int32) < x22
      · let A42 : Array Slot := #[.val (.long q0_0), .second, .val (.long q0_1), .second, .val (.long q0_2), .second, .val (.long q0_3), .second, .val (.long q0_4), .second, .val (.int p0_5), .val (.long x2), .second, .val (.long x4), .second, .val (.long x6), .second, .val (.long x8), .second, .val (.long x10), .second, .val (.int (0 : Int32)), .val (.int x22), .val (.ref b24), .val (.long (v37 + x6)), .second]
        refine ⟨T38, _, X38, N38, e38, fun t k => ?_⟩
        rw [show v43 = (v37 + x6) from hv43.trans (if_pos h166_41)] at k
        show Steps p.tables e below (T38.setTop (mkF m 166 A39 [(.int (2 : Int32)), (.int x22)])) _
        refine XS.icmpNo X38.here hx rfl (hb hby at_166) rfl (tlt h166_41).2.2.2 ?_
        refine XS.lload X38.here hx rfl (hb hby at_169) rfl ?_
        refine XS.lload X38.here hx rfl (hb hby at_171) rfl ?_
        show Steps p.tables e below (T38.setTop (mkF m 173 A39 [(.long x6), (.long v37)])) _
        refine XS.ladd X38.here hx rfl (hb hby at_173) rfl ?_
        refine XS.lstore X38.here hx rfl (hb hby at_174) rfl (l' := A42) rfl ?_
        exact k
      · refine ⟨T38, _, X38, N38, e38, fun t k => ?_⟩
        rw [show v43 = v37 from hv43.trans (if_neg h166_41)] at k
        show Steps p.tables e below (T38.setTop (mkF m 166 A39 [(.int (2 : Int32)), (.int x22)])) _
        refine XS.icmpYes X38.here hx rfl (pc0 := 166) (pc' := 176) rfl (hb hby at_166) rfl (flt h166_41).2.2.2 (by decide) (by decide) ?_
        exact k)
    let A45 : Array Slot := #[.val (.long q0_0), .second, .val (.long q0_1), .second, .val (.long q0_2), .second, .val (.long q0_3), .second, .val (.long q0_4), .second, .val (.int p0_5), .val (.long x2), .second, .val (.long x4), .second, .val (.long x6), .second, .val (.long x8), .second, .val (.long x10), .second, .val (.int (0 : Int32)), .val (.int x22), .val (.ref b24), .val (.long v43), .second]
    have G46 : ∀ t, Steps p.tables e below (T44.setTop (mkF m 179 A45 [(.int (3 : Int32)), (.int x22)])) t → Steps p.tables e below (T44.setTop (mkF m 176 A45 [])) t := by
      intro t k
      show Steps p.tables e below (T44.setTop (mkF m 176 A45 [])) _
      refine XS.iload X44.here hx rfl (hb hby at_176) rfl ?_
      refine XS.iconst X44.here hx rfl (hb hby at_178) ?_
      exact k
    obtain ⟨v49, hv49⟩ : ∃ z : Int64, z = (if (3 : Int32) < x22 then (v43 + x8) else v43) := ⟨_, rfl⟩
    obtain ⟨T50, Lo50, X50, N50, e50, G50⟩ := own_join X44 N44 (h := T25.heap) (mkF m 179 A45 [(.int (3 : Int32)), (.int x22)]) (mkF m 189 #[.val (.long q0_0), .second, .val (.long q0_1), .second, .val (.long q0_2), .second, .val (.long q0_3), .second, .val (.long q0_4), .second, .val (.int p0_5), .val (.long x2), .second, .val (.long x4), .second, .val (.long x6), .second, .val (.long x8), .second, .val (.long x10), .second, .val (.int (0 : Int32)), .val (.int x22), .val (.ref b24), .val (.long v49), .second] []) (by
      by_cases h179_47 : (3 : Int32) < x22
      · let A48 : Array Slot := #[.val (.long q0_0), .second, .val (.long q0_1), .second, .val (.long q0_2), .second, .val (.long q0_3), .second, .val (.long q0_4), .second, .val (.int p0_5), .val (.long x2), .second, .val (.long x4), .second, .val (.long x6), .second, .val (.long x8), .second, .val (.long x10), .second, .val (.int (0 : Int32)), .val (.int x22), .val (.ref b24), .val (.long (v43 + x8)), .second]
        refine ⟨T44, _, X44, N44, e44, fun t k => ?_⟩
        rw [show v49 = (v43 + x8) from hv49.trans (if_pos h179_47)] at k
        show Steps p.tables e below (T44.setTop (mkF m 179 A45 [(.int (3 : Int32)), (.int x22)])) _
        refine XS.icmpNo X44.here hx rfl (hb hby at_179) rfl (tlt h179_47).2.2.2 ?_
        refine XS.lload X44.here hx rfl (hb hby at_182) rfl ?_
        refine XS.lload X44.here hx rfl (hb hby at_184) rfl ?_
        show Steps p.tables e below (T44.setTop (mkF m 186 A45 [(.long x8), (.long v43)])) _
        refine XS.ladd X44.here hx rfl (hb hby at_186) rfl ?_
        refine XS.lstore X44.here hx rfl (hb hby at_187) rfl (l' := A48) rfl ?_
        exact k
      · refine ⟨T44, _, X44, N44, e44, fun t k => ?_⟩
        rw [show v49 = v43 from hv49.trans (if_neg h179_47)] at k
        show Steps p.tables e below (T44.setTop (mkF m 179 A45 [(.int (3 : Int32)), (.int x22)])) _
        refine XS.icmpYes X44.here hx rfl (pc0 := 179) (pc' := 189) rfl (hb hby at_179) rfl (flt h179_47).2.2.2 (by decide) (by decide) ?_
        exact k)
    let A51 : Array Slot := #[.val (.long q0_0), .second, .val (.long q0_1), .second, .val (.long q0_2), .second, .val (.long q0_3), .second, .val (.long q0_4), .second, .val (.int p0_5), .val (.long x2), .second, .val (.long x4), .second, .val (.long x6), .second, .val (.long x8), .second, .val (.long x10), .second, .val (.int (0 : Int32)), .val (.int x22), .val (.ref b24), .val (.long v49), .second]
    have G52 : ∀ t, Steps p.tables e below (T50.setTop (mkF m 192 A51 [(.int (4 : Int32)), (.int x22)])) t → Steps p.tables e below (T50.setTop (mkF m 189 A51 [])) t := by
      intro t k
      show Steps p.tables e below (T50.setTop (mkF m 189 A51 [])) _
      refine XS.iload X50.here hx rfl (hb hby at_189) rfl ?_
      refine XS.iconst X50.here hx rfl (hb hby at_191) ?_
      exact k
    obtain ⟨v55, hv55⟩ : ∃ z : Int64, z = (if (4 : Int32) < x22 then (v49 + x10) else v49) := ⟨_, rfl⟩
    obtain ⟨T56, Lo56, X56, N56, e56, G56⟩ := own_join X50 N50 (h := T25.heap) (mkF m 192 A51 [(.int (4 : Int32)), (.int x22)]) (mkF m 202 #[.val (.long q0_0), .second, .val (.long q0_1), .second, .val (.long q0_2), .second, .val (.long q0_3), .second, .val (.long q0_4), .second, .val (.int p0_5), .val (.long x2), .second, .val (.long x4), .second, .val (.long x6), .second, .val (.long x8), .second, .val (.long x10), .second, .val (.int (0 : Int32)), .val (.int x22), .val (.ref b24), .val (.long v55), .second] []) (by
      by_cases h192_53 : (4 : Int32) < x22
      · let A54 : Array Slot := #[.val (.long q0_0), .second, .val (.long q0_1), .second, .val (.long q0_2), .second, .val (.long q0_3), .second, .val (.long q0_4), .second, .val (.int p0_5), .val (.long x2), .second, .val (.long x4), .second, .val (.long x6), .second, .val (.long x8), .second, .val (.long x10), .second, .val (.int (0 : Int32)), .val (.int x22), .val (.ref b24), .val (.long (v49 + x10)), .second]
        refine ⟨T50, _, X50, N50, e50, fun t k => ?_⟩
        rw [show v55 = (v49 + x10) from hv55.trans (if_pos h192_53)] at k
        show Steps p.tables e below (T50.setTop (mkF m 192 A51 [(.int (4 : Int32)), (.int x22)])) _
        refine XS.icmpNo X50.here hx rfl (hb hby at_192) rfl (tlt h192_53).2.2.2 ?_
        refine XS.lload X50.here hx rfl (hb hby at_195) rfl ?_
        refine XS.lload X50.here hx rfl (hb hby at_197) rfl ?_
        show Steps p.tables e below (T50.setTop (mkF m 199 A51 [(.long x10), (.long v49)])) _
        refine XS.ladd X50.here hx rfl (hb hby at_199) rfl ?_
        refine XS.lstore X50.here hx rfl (hb hby at_200) rfl (l' := A54) rfl ?_
        exact k
      · refine ⟨T50, _, X50, N50, e50, fun t k => ?_⟩
        rw [show v55 = v49 from hv55.trans (if_neg h192_53)] at k
        show Steps p.tables e below (T50.setTop (mkF m 192 A51 [(.int (4 : Int32)), (.int x22)])) _
        refine XS.icmpYes X50.here hx rfl (pc0 := 192) (pc' := 202) rfl (hb hby at_192) rfl (flt h192_53).2.2.2 (by decide) (by decide) ?_
        exact k)
    let A57 : Array Slot := #[.val (.long q0_0), .second, .val (.long q0_1), .second, .val (.long q0_2), .second, .val (.long q0_3), .second, .val (.long q0_4), .second, .val (.int p0_5), .val (.long x2), .second, .val (.long x4), .second, .val (.long x6), .second, .val (.long x8), .second, .val (.long x10), .second, .val (.int (0 : Int32)), .val (.int x22), .val (.ref b24), .val (.long v55), .second]
    obtain ⟨cq58, kq58, q58a, q58b, q58c⟩ := isOf hZ e56 P25_1
    obtain ⟨_, _, ⟨T58, L58, k58, n58⟩, -, X58, ⟨Lc58, hQ58, l58, y58, z58⟩, st58⟩ := X56.virtualBack hx (y := (⟨"com/example/motley/motley/CountTree", "sumBefore", "(I)J"⟩ : MethodName)) (z := (⟨"com/example/motley/motley/CountTree", "sumBefore", "(I)J"⟩ : MethodName)) hown (mvT hZ (ow52 hw)) (mvT hZ (ow48 hw)) (notFace_of_selects (args := #[]) (mvT hZ (ow50 hw))) (mvT hZ (ow50 hw)) (mvT hZ (ow49 hw)) (by decide) (backOf (W := 0) (rm9_1 l Z a0 hw [] b24 x22 bx1_0_25 kx1_0_25 T25.heap n0 Z25 (own_p1 ((p0_5.toUInt32 >>> ((3 : Int32) &&& 31).toUInt32).toInt32) x22 hx22) P25_1 P25_2 P25_3 P25_4 P25_5) hZ (ow51 hw) (ow3 hw) (by decide) (by decide)) q58a q58c (g := (mkF m 206 A57 [(.int x22), (.ref b24)])) rfl (by rw [hml]; rfl) (Steps.refl _) (argsL := [(.int x22)]) (rest := []) (lenOf pd__I_J rfl) rfl (by show 2 * 0 + _ ≤ _; exact Nat.le_of_eq rfl) (hb hby at_206) (fun _ _ => ⟨rfl, e56, (by decide : 2 + 0 ≤ _), (by decide : 3 + 0 ≤ _)⟩)
    dsimp only [Pt.U, Pt.locs, Pt.cells, Pt.slots] at X58 l58 y58 z58 st58 hQ58
    subst l58 y58 z58
    obtain ⟨rfl, Nq58, e58⟩ := hQ58
    have N58 := Fr.app N56 Nq58
    have G59 : ∀ t, Steps p.tables e below (T58.setTop (mkF m 212 A57 [(.int (lcmpW (0 : Int64) v55))])) t → Steps p.tables e below (T56.setTop (mkF m 202 A57 [])) t := by
      intro t k
      show Steps p.tables e below (T56.setTop (mkF m 202 A57 [])) _
      refine XS.aload X56.here hx rfl (hb hby at_202) rfl rfl ?_
      refine XS.iload X56.here hx rfl (hb hby at_204) rfl ?_
      refine st58.trans ?_
      show Steps p.tables e below (T58.setTop (mkF m 209 A57 [(.long (0 : Int64))])) _
      refine XS.lload X58.here hx rfl (hb hby at_209) rfl ?_
      refine XS.lcmp X58.here hx rfl (hb hby at_211) rfl ?_
      exact k
    obtain ⟨v61, hv61⟩ : ∃ z : Int32, z = (if (0 : Int64) = v55 then (1 : Int32) else (0 : Int32)) := ⟨_, rfl⟩
    obtain ⟨T62, Lo62, X62, N62, e62, G62⟩ := own_join X58 N58 (h := T25.heap) (mkF m 212 A57 [(.int (lcmpW (0 : Int64) v55))]) (mkF m 220 A57 [(.int v61)]) (by
      by_cases h212_60 : (0 : Int64) = v55
      · refine ⟨T58, _, X58, N58, e58, fun t k => ?_⟩
        rw [show v61 = (1 : Int32) from hv61.trans (if_pos h212_60)] at k
        show Steps p.tables e below (T58.setTop (mkF m 212 A57 [(.int (lcmpW (0 : Int64) v55))])) _
        refine XS.ifNo X58.here hx rfl (hb hby at_212) rfl ((if0 _ _).trans (teq ((lw_eq _ _).mpr h212_60)).2) ?_
        refine XS.iconst X58.here hx rfl (hb hby at_215) ?_
        refine XS.goto X58.here hx rfl (pc0 := 216) (pc' := 220) rfl (hb hby at_216) (by decide) (by decide) ?_
        exact k
      · refine ⟨T58, _, X58, N58, e58, fun t k => ?_⟩
        rw [show v61 = (0 : Int32) from hv61.trans (if_neg h212_60)] at k
        show Steps p.tables e below (T58.setTop (mkF m 212 A57 [(.int (lcmpW (0 : Int64) v55))])) _
        refine XS.ifYes X58.here hx rfl (pc0 := 212) (pc' := 219) rfl (hb hby at_212) rfl ((if0 _ _).trans (feq (fun q => h212_60 ((lw_eq _ _).mp q))).2) (by decide) (by decide) ?_
        refine XS.iconst X58.here hx rfl (hb hby at_219) ?_
        exact k)
    have fin : v61 = (1 : Int32) := by
      exact own_fin1 q0_0 q0_1 q0_2 q0_3 q0_4 p0_5 x2 hx2 x4 hx4 x6 hx6 x8 hx8 x10 hx10 x12 hx12 x22 hx22 v31 hv31 v37 hv37 v43 hv43 v49 hv49 v55 hv55 v61 hv61 hc15
    obtain ⟨fs, hr, hrun, hended, hW, hsame⟩ := X62.leave (v := some (.int (1 : Int32))) (fun h => by rw [Bd.returns] at h; cases h)
    refine ⟨_, _, pre0 _ ?_, hrun, hended, _, _, rfl, ?_, ⟨_, rfl⟩, hW, hsame.mono (by decide) (by decide)⟩
    · refine G14 _ ?_
      refine G28 _ ?_
      refine G32 _ ?_
      refine G34 _ ?_
      refine G38 _ ?_
      refine G40 _ ?_
      refine G44 _ ?_
      refine G46 _ ?_
      refine G50 _ ?_
      refine G52 _ ?_
      refine G56 _ ?_
      refine G59 _ ?_
      refine G62 _ ?_
      show Steps p.tables e below (T62.setTop (mkF m 220 A57 [(.int v61)])) _
      rw [fin]
      exact retN X62 hx (t := .boolean) Bd.returns (by simp) (hb hby at_220) hr
    · exact ⟨rfl, N62⟩
  · let A63 : Array Slot := #[.val (.long q0_0), .second, .val (.long q0_1), .second, .val (.long q0_2), .second, .val (.long q0_3), .second, .val (.long q0_4), .second, .val (.int p0_5), .val (.long x2), .second, .val (.long x4), .second, .val (.long x6), .second, .val (.long x8), .second, .val (.long x10), .second, .val (.int (1 : Int32)), .unset, .unset, .unset, .unset]
    have own_t16 : True := trivial
    obtain ⟨x64, hx64⟩ : ∃ z : Int32, z = ((((p0_5.toUInt32 >>> ((3 : Int32) &&& 31).toUInt32).toInt32) &&& (7 : Int32)) % (2 : Int32)) := ⟨_, rfl⟩
    let A65 : Array Slot := #[.val (.long q0_0), .second, .val (.long q0_1), .second, .val (.long q0_2), .second, .val (.long q0_3), .second, .val (.long q0_4), .second, .val (.int p0_5), .val (.long x2), .second, .val (.long x4), .second, .val (.long x6), .second, .val (.long x8), .second, .val (.long x10), .second, .val (.int (1 : Int32)), .val (.int x64), .unset, .unset, .unset]
    obtain ⟨T66, h66, X66, e66, E66, A66, D66, -, st66⟩ := newO X0 hx hZ hown (ow1 hw) (ow2 hw) (ow3 hw) e0 (g := (mkF m 62 A65 [])) rfl (hb hby at_62) (by decide) (by decide)
    obtain ⟨b66, g66⟩ : ∃ z, z = h0.size := ⟨_, rfl⟩
    rw [← g66] at A66 D66 st66
    have F_tree_b66 : Fld Z h66 b66 "com/example/motley/motley/CountTree" "tree" "[J" .null := D66 (Or.inl (ow12 hw)) (ty := (.array .long)) (by decide)
    have F_size_b66 : Fld Z h66 b66 "com/example/motley/motley/CountTree" "size" "I" (.int (0 : Int32)) := D66 (Or.inl (ow24 hw)) (ty := .int) (by decide)
    have F_total_b66 : Fld Z h66 b66 "com/example/motley/motley/CountTree" "total" "J" (.long (0 : Int64)) := D66 (Or.inl (ow46 hw)) (ty := .long) (by decide)
    have g_b66 : n0 ≤ b66 := Nat.le_trans Z0 (Nat.le_of_eq g66.symm)
    have sz_b66 : h0.size ≤ b66 := Nat.le_trans (Nat.le_refl _) (Nat.le_of_eq g66.symm)
    have K66 : Keep h0 h66 [] := (Keep.refl h0 []).ext E66
    have Z66 : n0 ≤ h66.size := Nat.le_trans Z0 K66.1
    obtain ⟨_, _, ⟨T67, L67, k67, n67⟩, -, X67, ⟨Lc67, hQ67, l67, y67, z67⟩, st67⟩ := X66.specialBack hx (y := (⟨"com/example/motley/motley/CountTree", "<init>", "()V"⟩ : MethodName)) rfl hown (mvT hZ (ow4 hw)) (mvT hZ (ow5 hw)) (mvT hZ (ow6 hw)) (by decide) (backOf (W := 1) (rm1_1 l Z a0 hw [] b66 h66 n0 Z66 A66 F_tree_b66 F_size_b66 F_total_b66 g_b66) hZ (ow6 hw) (ow3 hw) (by decide) (by decide)) (g := (mkF m 66 A65 [(.ref b66), (.ref b66)])) rfl (by rw [hml]; rfl) (Steps.refl _) (a := b66) (argsL := []) (rest := [(.ref b66)]) (lenOf pd___V rfl) rfl (by show 2 * 0 + _ ≤ _; exact Nat.le_of_eq rfl) (hb hby at_66) (fun _ _ => ⟨rfl, e66, (by decide : 1 + 1 ≤ _), (by decide : 3 + 0 ≤ _)⟩)
    dsimp only [Pt.U, Pt.locs, Pt.cells, Pt.slots] at X67 l67 y67 z67 st67 hQ67
    subst l67 y67 z67
    obtain ⟨bx1_0_67, kx1_0_67, rfl, Nq67, Kc67, P67_0, P67_1, P67_2, P67_3, P67_4, P67_5⟩ := hQ67
    have K67 : Keep h0 T67.heap [] := Keep.trans K66 Kc67 (allS (P := fun x => x ∈ ([] : List Addr) ∨ h0.size ≤ x) (Or.inr sz_b66) all0)
    have Z67 : n0 ≤ T67.heap.size := Nat.le_trans Z0 K67.1
    have g_bx1_0_67 : n0 ≤ bx1_0_67 := Nat.le_trans Z66 P67_0
    have sz_bx1_0_67 : h0.size ≤ bx1_0_67 := Nat.le_trans K66.1 P67_0
    have ne_b66_bx1_0_67 : b66 ≠ bx1_0_67 := Nat.ne_of_lt (Nat.lt_of_lt_of_le A66.lt P67_0)
    have N67 := Fr.app N0 Nq67
    let A68 : Array Slot := #[.val (.long q0_0), .second, .val (.long q0_1), .second, .val (.long q0_2), .second, .val (.long q0_3), .second, .val (.long q0_4), .second, .val (.int p0_5), .val (.long x2), .second, .val (.long x4), .second, .val (.long x6), .second, .val (.long x8), .second, .val (.long x10), .second, .val (.int (1 : Int32)), .val (.int x64), .val (.ref b66), .unset, .unset]
    obtain ⟨cq69, kq69, q69a, q69b, q69c⟩ := isOf hZ rfl P67_1
    obtain ⟨_, _, ⟨T69, L69, k69, n69⟩, -, X69, ⟨Lc69, hQ69, l69, y69, z69⟩, st69⟩ := X67.virtualBack hx (y := (⟨"com/example/motley/motley/CountTree", "append", "(J)V"⟩ : MethodName)) (z := (⟨"com/example/motley/motley/CountTree", "append", "(J)V"⟩ : MethodName)) hown (mvT hZ (ow13 hw)) (mvT hZ (ow14 hw)) (notFace_of_selects (args := #[]) (mvT hZ (ow16 hw))) (mvT hZ (ow16 hw)) (mvT hZ (ow15 hw)) (by decide) (backOf (W := 0) (rm3_1 l Z a0 hw [] b66 x2 bx1_0_67 kx1_0_67 T67.heap n0 Z67 P67_1 P67_2 P67_3 P67_4 P67_5 g_b66) hZ (ow17 hw) (ow3 hw) (by decide) (by decide)) q69a q69c (g := (mkF m 80 A68 [(.long x2), (.ref b66)])) rfl (by rw [hml]; rfl) (Steps.refl _) (argsL := [(.long x2)]) (rest := []) (lenOf pd__J_V rfl) rfl (by show 2 * 0 + _ ≤ _; exact Nat.le_of_eq rfl) (hb hby at_80) (fun _ _ => ⟨rfl, rfl, (by decide : 2 + 1 ≤ _), (by decide : 3 + 1 ≤ _)⟩)
    dsimp only [Pt.U, Pt.locs, Pt.cells, Pt.slots] at X69 l69 y69 z69 st69 hQ69
    subst l69 y69 z69
    obtain ⟨bx3_0_69, kx3_0_69, rfl, Nq69, Kc69, P69_0, P69_1, P69_2, P69_3, P69_4, P69_5⟩ := hQ69
    have K69 : Keep h0 T69.heap [] := Keep.trans K67 Kc69 (allS (P := fun x => x ∈ ([] : List Addr) ∨ h0.size ≤ x) (Or.inr sz_b66) all0)
    have Z69 : n0 ≤ T69.heap.size := Nat.le_trans Z0 K69.1
    have g_bx3_0_69 : n0 ≤ bx3_0_69 := Nat.le_trans Z67 P69_0
    have sz_bx3_0_69 : h0.size ≤ bx3_0_69 := Nat.le_trans K67.1 P69_0
    have ne_b66_bx3_0_69 : b66 ≠ bx3_0_69 := Nat.ne_of_lt (Nat.lt_of_lt_of_le P67_1.lt P69_0)
    have ne_bx1_0_67_bx3_0_69 : bx1_0_67 ≠ bx3_0_69 := Nat.ne_of_lt (Nat.lt_of_lt_of_le P67_5.lt P69_0)
    obtain ⟨y70, hy70⟩ : ∃ z : Int64, z = ((0 : Int64) + x2) := ⟨_, rfl⟩
    rw [← hy70] at P69_5
    have N69 := Fr.app N67 Nq69
    let A71 : Array Slot := #[.val (.long q0_0), .second, .val (.long q0_1), .second, .val (.long q0_2), .second, .val (.long q0_3), .second, .val (.long q0_4), .second, .val (.int p0_5), .val (.long x2), .second, .val (.long x4), .second, .val (.long x6), .second, .val (.long x8), .second, .val (.long x10), .second, .val (.int (1 : Int32)), .val (.int x64), .val (.ref b66), .val (.long (0 : Int64)), .second]
    have G72 : ∀ t, Steps p.tables e below (T69.setTop (mkF m 140 A71 [(.int x64)])) t → Steps p.tables e below (s₁.setTop (mkF m 48 A13 [])) t := by
      intro t k
      show Steps p.tables e below (s₁.setTop (mkF m 48 #[.val (.long q0_0), .second, .val (.long q0_1), .second, .val (.long q0_2), .second, .val (.long q0_3), .second, .val (.long q0_4), .second, .val (.int p0_5), .val (.long x2), .second, .val (.long x4), .second, .val (.long x6), .second, .val (.long x8), .second, .val (.long x10), .second, .val (.int x12), .unset, .unset, .unset, .unset] [])) _
      rw [hc16]
      show Steps p.tables e below (s₁.setTop (mkF m 48 A63 [])) _
      refine XS.iload X0.here hx rfl (hb hby at_48) rfl ?_
      refine XS.iconst X0.here hx rfl (hb hby at_50) ?_
      refine XS.iushr X0.here hx rfl (hb hby at_51) rfl ?_
      show Steps p.tables e below (s₁.setTop (mkF m 52 A63 [(.int ((p0_5.toUInt32 >>> ((3 : Int32) &&& 31).toUInt32).toInt32))])) _
      refine XS.bipush X0.here hx rfl (hb hby at_52) ?_
      refine XS.iand X0.here hx rfl (hb hby at_54) rfl ?_
      refine XS.iload X0.here hx rfl (hb hby at_55) rfl ?_
      show Steps p.tables e below (s₁.setTop (mkF m 57 A63 [(.int (1 : Int32)), (.int (((p0_5.toUInt32 >>> ((3 : Int32) &&& 31).toUInt32).toInt32) &&& (7 : Int32)))])) _
      refine XS.iconst X0.here hx rfl (hb hby at_57) ?_
      refine XS.iadd X0.here hx rfl (hb hby at_58) rfl ?_
      refine iremM X0 hx rfl (hb hby at_59) rfl (by decide : ¬ ((2 : Int32) = (0 : Int32))) ?_
      show Steps p.tables e below (s₁.setTop (mkF m 60 A63 [(.int ((((p0_5.toUInt32 >>> ((3 : Int32) &&& 31).toUInt32).toInt32) &&& (7 : Int32)) % (2 : Int32)))])) _
      refine XS.istore X0.here hx rfl (hb hby at_60) rfl (l' := #[.val (.long q0_0), .second, .val (.long q0_1), .second, .val (.long q0_2), .second, .val (.long q0_3), .second, .val (.long q0_4), .second, .val (.int p0_5), .val (.long x2), .second, .val (.long x4), .second, .val (.long x6), .second, .val (.long x8), .second, .val (.long x10), .second, .val (.int (1 : Int32)), .val (.int ((((p0_5.toUInt32 >>> ((3 : Int32) &&& 31).toUInt32).toInt32) &&& (7 : Int32)) % (2 : Int32))), .unset, .unset, .unset]) rfl ?_
      show Steps p.tables e below (s₁.setTop (mkF m 62 #[.val (.long q0_0), .second, .val (.long q0_1), .second, .val (.long q0_2), .second, .val (.long q0_3), .second, .val (.long q0_4), .second, .val (.int p0_5), .val (.long x2), .second, .val (.long x4), .second, .val (.long x6), .second, .val (.long x8), .second, .val (.long x10), .second, .val (.int (1 : Int32)), .val (.int ((((p0_5.toUInt32 >>> ((3 : Int32) &&& 31).toUInt32).toInt32) &&& (7 : Int32)) % (2 : Int32))), .unset, .unset, .unset] [])) _
      rw [← hx64]
      refine st66 _ ?_
      refine XS.dup X66.here hx rfl (hb hby at_65) rfl rfl ?_
      show Steps p.tables e below (T66.setTop (mkF m 66 A65 [(.ref b66), (.ref b66)])) _
      refine st67.trans ?_
      refine XS.astore X67.here hx rfl (hb hby at_69) rfl rfl (l' := A68) rfl ?_
      refine XS.iload X67.here hx rfl (hb hby at_71) rfl ?_
      show Steps p.tables e below (T67.setTop (mkF m 73 A68 [(.int (1 : Int32))])) _
      refine XS.ifNo X67.here hx rfl (hb hby at_73) rfl ((if0 _ _).trans (tlt (by decide : (0 : Int32) < (1 : Int32))).2.2.2) ?_
      refine XS.aload X67.here hx rfl (hb hby at_76) rfl rfl ?_
      refine XS.lload X67.here hx rfl (hb hby at_78) rfl ?_
      show Steps p.tables e below (T67.setTop (mkF m 80 A68 [(.long x2), (.ref b66)])) _
      refine st69.trans ?_
      refine XS.iload X69.here hx rfl (hb hby at_83) rfl ?_
      refine XS.iconst X69.here hx rfl (hb hby at_85) ?_
      show Steps p.tables e below (T69.setTop (mkF m 86 A68 [(.int (1 : Int32)), (.int (1 : Int32))])) _
      refine XS.icmpYes X69.here hx rfl (pc0 := 86) (pc' := 96) rfl (hb hby at_86) rfl (flt (by decide : ¬ ((1 : Int32) < (1 : Int32)))).2.2.2 (by decide) (by decide) ?_
      refine XS.iload X69.here hx rfl (hb hby at_96) rfl ?_
      refine XS.iconst X69.here hx rfl (hb hby at_98) ?_
      show Steps p.tables e below (T69.setTop (mkF m 99 A68 [(.int (2 : Int32)), (.int (1 : Int32))])) _
      refine XS.icmpYes X69.here hx rfl (pc0 := 99) (pc' := 109) rfl (hb hby at_99) rfl (flt (by decide : ¬ ((2 : Int32) < (1 : Int32)))).2.2.2 (by decide) (by decide) ?_
      refine XS.iload X69.here hx rfl (hb hby at_109) rfl ?_
      refine XS.iconst X69.here hx rfl (hb hby at_111) ?_
      show Steps p.tables e below (T69.setTop (mkF m 112 A68 [(.int (3 : Int32)), (.int (1 : Int32))])) _
      refine XS.icmpYes X69.here hx rfl (pc0 := 112) (pc' := 122) rfl (hb hby at_112) rfl (flt (by decide : ¬ ((3 : Int32) < (1 : Int32)))).2.2.2 (by decide) (by decide) ?_
      refine XS.iload X69.here hx rfl (hb hby at_122) rfl ?_
      refine XS.iconst X69.here hx rfl (hb hby at_124) ?_
      show Steps p.tables e below (T69.setTop (mkF m 125 A68 [(.int (4 : Int32)), (.int (1 : Int32))])) _
      refine XS.icmpYes X69.here hx rfl (pc0 := 125) (pc' := 135) rfl (hb hby at_125) rfl (flt (by decide : ¬ ((4 : Int32) < (1 : Int32)))).2.2.2 (by decide) (by decide) ?_
      refine XS.lconst X69.here hx rfl (hb hby at_135) ?_
      refine XS.lstore X69.here hx rfl (hb hby at_136) rfl (l' := A71) rfl ?_
      show Steps p.tables e below (T69.setTop (mkF m 138 A71 [])) _
      refine XS.iload X69.here hx rfl (hb hby at_138) rfl ?_
      exact k
    obtain ⟨v75, hv75⟩ : ∃ z : Int64, z = (if (0 : Int32) < x64 then ((0 : Int64) + x2) else (0 : Int64)) := ⟨_, rfl⟩
    obtain ⟨T76, Lo76, X76, N76, e76, G76⟩ := own_join X69 N69 (h := T69.heap) (mkF m 140 A71 [(.int x64)]) (mkF m 150 #[.val (.long q0_0), .second, .val (.long q0_1), .second, .val (.long q0_2), .second, .val (.long q0_3), .second, .val (.long q0_4), .second, .val (.int p0_5), .val (.long x2), .second, .val (.long x4), .second, .val (.long x6), .second, .val (.long x8), .second, .val (.long x10), .second, .val (.int (1 : Int32)), .val (.int x64), .val (.ref b66), .val (.long v75), .second] []) (by
      by_cases h140_73 : (0 : Int32) < x64
      · let A74 : Array Slot := #[.val (.long q0_0), .second, .val (.long q0_1), .second, .val (.long q0_2), .second, .val (.long q0_3), .second, .val (.long q0_4), .second, .val (.int p0_5), .val (.long x2), .second, .val (.long x4), .second, .val (.long x6), .second, .val (.long x8), .second, .val (.long x10), .second, .val (.int (1 : Int32)), .val (.int x64), .val (.ref b66), .val (.long ((0 : Int64) + x2)), .second]
        refine ⟨T69, _, X69, N69, rfl, fun t k => ?_⟩
        rw [show v75 = ((0 : Int64) + x2) from hv75.trans (if_pos h140_73)] at k
        show Steps p.tables e below (T69.setTop (mkF m 140 A71 [(.int x64)])) _
        refine XS.ifNo X69.here hx rfl (hb hby at_140) rfl ((if0 _ _).trans (tlt h140_73).2.2.2) ?_
        refine XS.lload X69.here hx rfl (hb hby at_143) rfl ?_
        refine XS.lload X69.here hx rfl (hb hby at_145) rfl ?_
        show Steps p.tables e below (T69.setTop (mkF m 147 A71 [(.long x2), (.long (0 : Int64))])) _
        refine XS.ladd X69.here hx rfl (hb hby at_147) rfl ?_
        refine XS.lstore X69.here hx rfl (hb hby at_148) rfl (l' := A74) rfl ?_
        exact k
      · refine ⟨T69, _, X69, N69, rfl, fun t k => ?_⟩
        rw [show v75 = (0 : Int64) from hv75.trans (if_neg h140_73)] at k
        show Steps p.tables e below (T69.setTop (mkF m 140 A71 [(.int x64)])) _
        refine XS.ifYes X69.here hx rfl (pc0 := 140) (pc' := 150) rfl (hb hby at_140) rfl ((if0 _ _).trans (flt h140_73).2.2.2) (by decide) (by decide) ?_
        exact k)
    let A77 : Array Slot := #[.val (.long q0_0), .second, .val (.long q0_1), .second, .val (.long q0_2), .second, .val (.long q0_3), .second, .val (.long q0_4), .second, .val (.int p0_5), .val (.long x2), .second, .val (.long x4), .second, .val (.long x6), .second, .val (.long x8), .second, .val (.long x10), .second, .val (.int (1 : Int32)), .val (.int x64), .val (.ref b66), .val (.long v75), .second]
    have G78 : ∀ t, Steps p.tables e below (T76.setTop (mkF m 153 A77 [(.int (1 : Int32)), (.int x64)])) t → Steps p.tables e below (T76.setTop (mkF m 150 A77 [])) t := by
      intro t k
      show Steps p.tables e below (T76.setTop (mkF m 150 A77 [])) _
      refine XS.iload X76.here hx rfl (hb hby at_150) rfl ?_
      refine XS.iconst X76.here hx rfl (hb hby at_152) ?_
      exact k
    obtain ⟨v81, hv81⟩ : ∃ z : Int64, z = (if (1 : Int32) < x64 then (v75 + x4) else v75) := ⟨_, rfl⟩
    obtain ⟨T82, Lo82, X82, N82, e82, G82⟩ := own_join X76 N76 (h := T69.heap) (mkF m 153 A77 [(.int (1 : Int32)), (.int x64)]) (mkF m 163 #[.val (.long q0_0), .second, .val (.long q0_1), .second, .val (.long q0_2), .second, .val (.long q0_3), .second, .val (.long q0_4), .second, .val (.int p0_5), .val (.long x2), .second, .val (.long x4), .second, .val (.long x6), .second, .val (.long x8), .second, .val (.long x10), .second, .val (.int (1 : Int32)), .val (.int x64), .val (.ref b66), .val (.long v81), .second] []) (by
      by_cases h153_79 : (1 : Int32) < x64
      · let A80 : Array Slot := #[.val (.long q0_0), .second, .val (.long q0_1), .second, .val (.long q0_2), .second, .val (.long q0_3), .second, .val (.long q0_4), .second, .val (.int p0_5), .val (.long x2), .second, .val (.long x4), .second, .val (.long x6), .second, .val (.long x8), .second, .val (.long x10), .second, .val (.int (1 : Int32)), .val (.int x64), .val (.ref b66), .val (.long (v75 + x4)), .second]
        refine ⟨T76, _, X76, N76, e76, fun t k => ?_⟩
        rw [show v81 = (v75 + x4) from hv81.trans (if_pos h153_79)] at k
        show Steps p.tables e below (T76.setTop (mkF m 153 A77 [(.int (1 : Int32)), (.int x64)])) _
        refine XS.icmpNo X76.here hx rfl (hb hby at_153) rfl (tlt h153_79).2.2.2 ?_
        refine XS.lload X76.here hx rfl (hb hby at_156) rfl ?_
        refine XS.lload X76.here hx rfl (hb hby at_158) rfl ?_
        show Steps p.tables e below (T76.setTop (mkF m 160 A77 [(.long x4), (.long v75)])) _
        refine XS.ladd X76.here hx rfl (hb hby at_160) rfl ?_
        refine XS.lstore X76.here hx rfl (hb hby at_161) rfl (l' := A80) rfl ?_
        exact k
      · refine ⟨T76, _, X76, N76, e76, fun t k => ?_⟩
        rw [show v81 = v75 from hv81.trans (if_neg h153_79)] at k
        show Steps p.tables e below (T76.setTop (mkF m 153 A77 [(.int (1 : Int32)), (.int x64)])) _
        refine XS.icmpYes X76.here hx rfl (pc0 := 153) (pc' := 163) rfl (hb hby at_153) rfl (flt h153_79).2.2.2 (by decide) (by decide) ?_
        exact k)
    let A83 : Array Slot := #[.val (.long q0_0), .second, .val (.long q0_1), .second, .val (.long q0_2), .second, .val (.long q0_3), .second, .val (.long q0_4), .second, .val (.int p0_5), .val (.long x2), .second, .val (.long x4), .second, .val (.long x6), .second, .val (.long x8), .second, .val (.long x10), .second, .val (.int (1 : Int32)), .val (.int x64), .val (.ref b66), .val (.long v81), .second]
    have G84 : ∀ t, Steps p.tables e below (T82.setTop (mkF m 166 A83 [(.int (2 : Int32)), (.int x64)])) t → Steps p.tables e below (T82.setTop (mkF m 163 A83 [])) t := by
      intro t k
      show Steps p.tables e below (T82.setTop (mkF m 163 A83 [])) _
      refine XS.iload X82.here hx rfl (hb hby at_163) rfl ?_
      refine XS.iconst X82.here hx rfl (hb hby at_165) ?_
      exact k
    obtain ⟨v87, hv87⟩ : ∃ z : Int64, z = (if (2 : Int32) < x64 then (v81 + x6) else v81) := ⟨_, rfl⟩
    obtain ⟨T88, Lo88, X88, N88, e88, G88⟩ := own_join X82 N82 (h := T69.heap) (mkF m 166 A83 [(.int (2 : Int32)), (.int x64)]) (mkF m 176 #[.val (.long q0_0), .second, .val (.long q0_1), .second, .val (.long q0_2), .second, .val (.long q0_3), .second, .val (.long q0_4), .second, .val (.int p0_5), .val (.long x2), .second, .val (.long x4), .second, .val (.long x6), .second, .val (.long x8), .second, .val (.long x10), .second, .val (.int (1 : Int32)), .val (.int x64), .val (.ref b66), .val (.long v87), .second] []) (by
      by_cases h166_85 : (2 : Int32) < x64
      · let A86 : Array Slot := #[.val (.long q0_0), .second, .val (.long q0_1), .second, .val (.long q0_2), .second, .val (.long q0_3), .second, .val (.long q0_4), .second, .val (.int p0_5), .val (.long x2), .second, .val (.long x4), .second, .val (.long x6), .second, .val (.long x8), .second, .val (.long x10), .second, .val (.int (1 : Int32)), .val (.int x64), .val (.ref b66), .val (.long (v81 + x6)), .second]
        refine ⟨T82, _, X82, N82, e82, fun t k => ?_⟩
        rw [show v87 = (v81 + x6) from hv87.trans (if_pos h166_85)] at k
        show Steps p.tables e below (T82.setTop (mkF m 166 A83 [(.int (2 : Int32)), (.int x64)])) _
        refine XS.icmpNo X82.here hx rfl (hb hby at_166) rfl (tlt h166_85).2.2.2 ?_
        refine XS.lload X82.here hx rfl (hb hby at_169) rfl ?_
        refine XS.lload X82.here hx rfl (hb hby at_171) rfl ?_
        show Steps p.tables e below (T82.setTop (mkF m 173 A83 [(.long x6), (.long v81)])) _
        refine XS.ladd X82.here hx rfl (hb hby at_173) rfl ?_
        refine XS.lstore X82.here hx rfl (hb hby at_174) rfl (l' := A86) rfl ?_
        exact k
      · refine ⟨T82, _, X82, N82, e82, fun t k => ?_⟩
        rw [show v87 = v81 from hv87.trans (if_neg h166_85)] at k
        show Steps p.tables e below (T82.setTop (mkF m 166 A83 [(.int (2 : Int32)), (.int x64)])) _
        refine XS.icmpYes X82.here hx rfl (pc0 := 166) (pc' := 176) rfl (hb hby at_166) rfl (flt h166_85).2.2.2 (by decide) (by decide) ?_
        exact k)
    let A89 : Array Slot := #[.val (.long q0_0), .second, .val (.long q0_1), .second, .val (.long q0_2), .second, .val (.long q0_3), .second, .val (.long q0_4), .second, .val (.int p0_5), .val (.long x2), .second, .val (.long x4), .second, .val (.long x6), .second, .val (.long x8), .second, .val (.long x10), .second, .val (.int (1 : Int32)), .val (.int x64), .val (.ref b66), .val (.long v87), .second]
    have G90 : ∀ t, Steps p.tables e below (T88.setTop (mkF m 179 A89 [(.int (3 : Int32)), (.int x64)])) t → Steps p.tables e below (T88.setTop (mkF m 176 A89 [])) t := by
      intro t k
      show Steps p.tables e below (T88.setTop (mkF m 176 A89 [])) _
      refine XS.iload X88.here hx rfl (hb hby at_176) rfl ?_
      refine XS.iconst X88.here hx rfl (hb hby at_178) ?_
      exact k
    obtain ⟨v93, hv93⟩ : ∃ z : Int64, z = (if (3 : Int32) < x64 then (v87 + x8) else v87) := ⟨_, rfl⟩
    obtain ⟨T94, Lo94, X94, N94, e94, G94⟩ := own_join X88 N88 (h := T69.heap) (mkF m 179 A89 [(.int (3 : Int32)), (.int x64)]) (mkF m 189 #[.val (.long q0_0), .second, .val (.long q0_1), .second, .val (.long q0_2), .second, .val (.long q0_3), .second, .val (.long q0_4), .second, .val (.int p0_5), .val (.long x2), .second, .val (.long x4), .second, .val (.long x6), .second, .val (.long x8), .second, .val (.long x10), .second, .val (.int (1 : Int32)), .val (.int x64), .val (.ref b66), .val (.long v93), .second] []) (by
      by_cases h179_91 : (3 : Int32) < x64
      · let A92 : Array Slot := #[.val (.long q0_0), .second, .val (.long q0_1), .second, .val (.long q0_2), .second, .val (.long q0_3), .second, .val (.long q0_4), .second, .val (.int p0_5), .val (.long x2), .second, .val (.long x4), .second, .val (.long x6), .second, .val (.long x8), .second, .val (.long x10), .second, .val (.int (1 : Int32)), .val (.int x64), .val (.ref b66), .val (.long (v87 + x8)), .second]
        refine ⟨T88, _, X88, N88, e88, fun t k => ?_⟩
        rw [show v93 = (v87 + x8) from hv93.trans (if_pos h179_91)] at k
        show Steps p.tables e below (T88.setTop (mkF m 179 A89 [(.int (3 : Int32)), (.int x64)])) _
        refine XS.icmpNo X88.here hx rfl (hb hby at_179) rfl (tlt h179_91).2.2.2 ?_
        refine XS.lload X88.here hx rfl (hb hby at_182) rfl ?_
        refine XS.lload X88.here hx rfl (hb hby at_184) rfl ?_
        show Steps p.tables e below (T88.setTop (mkF m 186 A89 [(.long x8), (.long v87)])) _
        refine XS.ladd X88.here hx rfl (hb hby at_186) rfl ?_
        refine XS.lstore X88.here hx rfl (hb hby at_187) rfl (l' := A92) rfl ?_
        exact k
      · refine ⟨T88, _, X88, N88, e88, fun t k => ?_⟩
        rw [show v93 = v87 from hv93.trans (if_neg h179_91)] at k
        show Steps p.tables e below (T88.setTop (mkF m 179 A89 [(.int (3 : Int32)), (.int x64)])) _
        refine XS.icmpYes X88.here hx rfl (pc0 := 179) (pc' := 189) rfl (hb hby at_179) rfl (flt h179_91).2.2.2 (by decide) (by decide) ?_
        exact k)
    let A95 : Array Slot := #[.val (.long q0_0), .second, .val (.long q0_1), .second, .val (.long q0_2), .second, .val (.long q0_3), .second, .val (.long q0_4), .second, .val (.int p0_5), .val (.long x2), .second, .val (.long x4), .second, .val (.long x6), .second, .val (.long x8), .second, .val (.long x10), .second, .val (.int (1 : Int32)), .val (.int x64), .val (.ref b66), .val (.long v93), .second]
    have G96 : ∀ t, Steps p.tables e below (T94.setTop (mkF m 192 A95 [(.int (4 : Int32)), (.int x64)])) t → Steps p.tables e below (T94.setTop (mkF m 189 A95 [])) t := by
      intro t k
      show Steps p.tables e below (T94.setTop (mkF m 189 A95 [])) _
      refine XS.iload X94.here hx rfl (hb hby at_189) rfl ?_
      refine XS.iconst X94.here hx rfl (hb hby at_191) ?_
      exact k
    obtain ⟨v99, hv99⟩ : ∃ z : Int64, z = (if (4 : Int32) < x64 then (v93 + x10) else v93) := ⟨_, rfl⟩
    obtain ⟨T100, Lo100, X100, N100, e100, G100⟩ := own_join X94 N94 (h := T69.heap) (mkF m 192 A95 [(.int (4 : Int32)), (.int x64)]) (mkF m 202 #[.val (.long q0_0), .second, .val (.long q0_1), .second, .val (.long q0_2), .second, .val (.long q0_3), .second, .val (.long q0_4), .second, .val (.int p0_5), .val (.long x2), .second, .val (.long x4), .second, .val (.long x6), .second, .val (.long x8), .second, .val (.long x10), .second, .val (.int (1 : Int32)), .val (.int x64), .val (.ref b66), .val (.long v99), .second] []) (by
      by_cases h192_97 : (4 : Int32) < x64
      · let A98 : Array Slot := #[.val (.long q0_0), .second, .val (.long q0_1), .second, .val (.long q0_2), .second, .val (.long q0_3), .second, .val (.long q0_4), .second, .val (.int p0_5), .val (.long x2), .second, .val (.long x4), .second, .val (.long x6), .second, .val (.long x8), .second, .val (.long x10), .second, .val (.int (1 : Int32)), .val (.int x64), .val (.ref b66), .val (.long (v93 + x10)), .second]
        refine ⟨T94, _, X94, N94, e94, fun t k => ?_⟩
        rw [show v99 = (v93 + x10) from hv99.trans (if_pos h192_97)] at k
        show Steps p.tables e below (T94.setTop (mkF m 192 A95 [(.int (4 : Int32)), (.int x64)])) _
        refine XS.icmpNo X94.here hx rfl (hb hby at_192) rfl (tlt h192_97).2.2.2 ?_
        refine XS.lload X94.here hx rfl (hb hby at_195) rfl ?_
        refine XS.lload X94.here hx rfl (hb hby at_197) rfl ?_
        show Steps p.tables e below (T94.setTop (mkF m 199 A95 [(.long x10), (.long v93)])) _
        refine XS.ladd X94.here hx rfl (hb hby at_199) rfl ?_
        refine XS.lstore X94.here hx rfl (hb hby at_200) rfl (l' := A98) rfl ?_
        exact k
      · refine ⟨T94, _, X94, N94, e94, fun t k => ?_⟩
        rw [show v99 = v93 from hv99.trans (if_neg h192_97)] at k
        show Steps p.tables e below (T94.setTop (mkF m 192 A95 [(.int (4 : Int32)), (.int x64)])) _
        refine XS.icmpYes X94.here hx rfl (pc0 := 192) (pc' := 202) rfl (hb hby at_192) rfl (flt h192_97).2.2.2 (by decide) (by decide) ?_
        exact k)
    let A101 : Array Slot := #[.val (.long q0_0), .second, .val (.long q0_1), .second, .val (.long q0_2), .second, .val (.long q0_3), .second, .val (.long q0_4), .second, .val (.int p0_5), .val (.long x2), .second, .val (.long x4), .second, .val (.long x6), .second, .val (.long x8), .second, .val (.long x10), .second, .val (.int (1 : Int32)), .val (.int x64), .val (.ref b66), .val (.long v99), .second]
    obtain ⟨cq102, kq102, q102a, q102b, q102c⟩ := isOf hZ e100 P69_1
    obtain ⟨_, _, ⟨T102, L102, k102, n102⟩, -, X102, ⟨Lc102, hQ102, l102, y102, z102⟩, st102⟩ := X100.virtualBack hx (y := (⟨"com/example/motley/motley/CountTree", "sumBefore", "(I)J"⟩ : MethodName)) (z := (⟨"com/example/motley/motley/CountTree", "sumBefore", "(I)J"⟩ : MethodName)) hown (mvT hZ (ow52 hw)) (mvT hZ (ow48 hw)) (notFace_of_selects (args := #[]) (mvT hZ (ow50 hw))) (mvT hZ (ow50 hw)) (mvT hZ (ow49 hw)) (by decide) (backOf (W := 0) (rm9_2 l Z a0 hw [] b66 x64 bx3_0_69 ((0 : Int64) + x2) kx3_0_69 y70 T69.heap n0 Z69 (own_p2 ((p0_5.toUInt32 >>> ((3 : Int32) &&& 31).toUInt32).toInt32) x64 hx64) P69_1 P69_2 P69_3 P69_4 P69_5) hZ (ow51 hw) (ow3 hw) (by decide) (by decide)) q102a q102c (g := (mkF m 206 A101 [(.int x64), (.ref b66)])) rfl (by rw [hml]; rfl) (Steps.refl _) (argsL := [(.int x64)]) (rest := []) (lenOf pd__I_J rfl) rfl (by show 2 * 0 + _ ≤ _; exact Nat.le_of_eq rfl) (hb hby at_206) (fun _ _ => ⟨rfl, e100, (by decide : 3 + 0 ≤ _), (by decide : 4 + 0 ≤ _)⟩)
    dsimp only [Pt.U, Pt.locs, Pt.cells, Pt.slots] at X102 l102 y102 z102 st102 hQ102
    subst l102 y102 z102
    obtain ⟨rfl, Nq102, e102⟩ := hQ102
    have N102 := Fr.app N100 Nq102
    obtain ⟨x103, hx103⟩ : ∃ z : Int64, z = (if x64 = (0 : Int32) then (0 : Int64) else ((0 : Int64) + y70)) := ⟨_, rfl⟩
    have G104 : ∀ t, Steps p.tables e below (T102.setTop (mkF m 212 A101 [(.int (lcmpW x103 v99))])) t → Steps p.tables e below (T100.setTop (mkF m 202 A101 [])) t := by
      intro t k
      show Steps p.tables e below (T100.setTop (mkF m 202 A101 [])) _
      refine XS.aload X100.here hx rfl (hb hby at_202) rfl rfl ?_
      refine XS.iload X100.here hx rfl (hb hby at_204) rfl ?_
      refine st102.trans ?_
      show Steps p.tables e below (T102.setTop (mkF m 209 #[.val (.long q0_0), .second, .val (.long q0_1), .second, .val (.long q0_2), .second, .val (.long q0_3), .second, .val (.long q0_4), .second, .val (.int p0_5), .val (.long x2), .second, .val (.long x4), .second, .val (.long x6), .second, .val (.long x8), .second, .val (.long x10), .second, .val (.int (1 : Int32)), .val (.int x64), .val (.ref b66), .val (.long v99), .second] [(.long (if x64 = (0 : Int32) then (0 : Int64) else ((0 : Int64) + y70)))])) _
      rw [← hx103]
      refine XS.lload X102.here hx rfl (hb hby at_209) rfl ?_
      refine XS.lcmp X102.here hx rfl (hb hby at_211) rfl ?_
      exact k
    obtain ⟨v106, hv106⟩ : ∃ z : Int32, z = (if x103 = v99 then (1 : Int32) else (0 : Int32)) := ⟨_, rfl⟩
    obtain ⟨T107, Lo107, X107, N107, e107, G107⟩ := own_join X102 N102 (h := T69.heap) (mkF m 212 A101 [(.int (lcmpW x103 v99))]) (mkF m 220 A101 [(.int v106)]) (by
      by_cases h212_105 : x103 = v99
      · refine ⟨T102, _, X102, N102, e102, fun t k => ?_⟩
        rw [show v106 = (1 : Int32) from hv106.trans (if_pos h212_105)] at k
        show Steps p.tables e below (T102.setTop (mkF m 212 A101 [(.int (lcmpW x103 v99))])) _
        refine XS.ifNo X102.here hx rfl (hb hby at_212) rfl ((if0 _ _).trans (teq ((lw_eq _ _).mpr h212_105)).2) ?_
        refine XS.iconst X102.here hx rfl (hb hby at_215) ?_
        refine XS.goto X102.here hx rfl (pc0 := 216) (pc' := 220) rfl (hb hby at_216) (by decide) (by decide) ?_
        exact k
      · refine ⟨T102, _, X102, N102, e102, fun t k => ?_⟩
        rw [show v106 = (0 : Int32) from hv106.trans (if_neg h212_105)] at k
        show Steps p.tables e below (T102.setTop (mkF m 212 A101 [(.int (lcmpW x103 v99))])) _
        refine XS.ifYes X102.here hx rfl (pc0 := 212) (pc' := 219) rfl (hb hby at_212) rfl ((if0 _ _).trans (feq (fun q => h212_105 ((lw_eq _ _).mp q))).2) (by decide) (by decide) ?_
        refine XS.iconst X102.here hx rfl (hb hby at_219) ?_
        exact k)
    have fin : v106 = (1 : Int32) := by
      exact own_fin2 q0_0 q0_1 q0_2 q0_3 q0_4 p0_5 x2 hx2 x4 hx4 x6 hx6 x8 hx8 x10 hx10 x12 hx12 x64 hx64 y70 hy70 v75 hv75 v81 hv81 v87 hv87 v93 hv93 v99 hv99 x103 hx103 v106 hv106 hc16
    obtain ⟨fs, hr, hrun, hended, hW, hsame⟩ := X107.leave (v := some (.int (1 : Int32))) (fun h => by rw [Bd.returns] at h; cases h)
    refine ⟨_, _, pre0 _ ?_, hrun, hended, _, _, rfl, ?_, ⟨_, rfl⟩, hW, hsame.mono (by decide) (by decide)⟩
    · refine G14 _ ?_
      refine G72 _ ?_
      refine G76 _ ?_
      refine G78 _ ?_
      refine G82 _ ?_
      refine G84 _ ?_
      refine G88 _ ?_
      refine G90 _ ?_
      refine G94 _ ?_
      refine G96 _ ?_
      refine G100 _ ?_
      refine G104 _ ?_
      refine G107 _ ?_
      show Steps p.tables e below (T107.setTop (mkF m 220 A101 [(.int v106)])) _
      rw [fin]
      exact retN X107 hx (t := .boolean) Bd.returns (by simp) (hb hby at_220) hr
    · exact ⟨rfl, N107⟩
  · let A108 : Array Slot := #[.val (.long q0_0), .second, .val (.long q0_1), .second, .val (.long q0_2), .second, .val (.long q0_3), .second, .val (.long q0_4), .second, .val (.int p0_5), .val (.long x2), .second, .val (.long x4), .second, .val (.long x6), .second, .val (.long x8), .second, .val (.long x10), .second, .val (.int (2 : Int32)), .unset, .unset, .unset, .unset]
    have own_t17 : True := trivial
    obtain ⟨x109, hx109⟩ : ∃ z : Int32, z = ((((p0_5.toUInt32 >>> ((3 : Int32) &&& 31).toUInt32).toInt32) &&& (7 : Int32)) % (3 : Int32)) := ⟨_, rfl⟩
    let A110 : Array Slot := #[.val (.long q0_0), .second, .val (.long q0_1), .second, .val (.long q0_2), .second, .val (.long q0_3), .second, .val (.long q0_4), .second, .val (.int p0_5), .val (.long x2), .second, .val (.long x4), .second, .val (.long x6), .second, .val (.long x8), .second, .val (.long x10), .second, .val (.int (2 : Int32)), .val (.int x109), .unset, .unset, .unset]
    obtain ⟨T111, h111, X111, e111, E111, A111, D111, -, st111⟩ := newO X0 hx hZ hown (ow1 hw) (ow2 hw) (ow3 hw) e0 (g := (mkF m 62 A110 [])) rfl (hb hby at_62) (by decide) (by decide)
    obtain ⟨b111, g111⟩ : ∃ z, z = h0.size := ⟨_, rfl⟩
    rw [← g111] at A111 D111 st111
    have F_tree_b111 : Fld Z h111 b111 "com/example/motley/motley/CountTree" "tree" "[J" .null := D111 (Or.inl (ow12 hw)) (ty := (.array .long)) (by decide)
    have F_size_b111 : Fld Z h111 b111 "com/example/motley/motley/CountTree" "size" "I" (.int (0 : Int32)) := D111 (Or.inl (ow24 hw)) (ty := .int) (by decide)
    have F_total_b111 : Fld Z h111 b111 "com/example/motley/motley/CountTree" "total" "J" (.long (0 : Int64)) := D111 (Or.inl (ow46 hw)) (ty := .long) (by decide)
    have g_b111 : n0 ≤ b111 := Nat.le_trans Z0 (Nat.le_of_eq g111.symm)
    have sz_b111 : h0.size ≤ b111 := Nat.le_trans (Nat.le_refl _) (Nat.le_of_eq g111.symm)
    have K111 : Keep h0 h111 [] := (Keep.refl h0 []).ext E111
    have Z111 : n0 ≤ h111.size := Nat.le_trans Z0 K111.1
    obtain ⟨_, _, ⟨T112, L112, k112, n112⟩, -, X112, ⟨Lc112, hQ112, l112, y112, z112⟩, st112⟩ := X111.specialBack hx (y := (⟨"com/example/motley/motley/CountTree", "<init>", "()V"⟩ : MethodName)) rfl hown (mvT hZ (ow4 hw)) (mvT hZ (ow5 hw)) (mvT hZ (ow6 hw)) (by decide) (backOf (W := 1) (rm1_1 l Z a0 hw [] b111 h111 n0 Z111 A111 F_tree_b111 F_size_b111 F_total_b111 g_b111) hZ (ow6 hw) (ow3 hw) (by decide) (by decide)) (g := (mkF m 66 A110 [(.ref b111), (.ref b111)])) rfl (by rw [hml]; rfl) (Steps.refl _) (a := b111) (argsL := []) (rest := [(.ref b111)]) (lenOf pd___V rfl) rfl (by show 2 * 0 + _ ≤ _; exact Nat.le_of_eq rfl) (hb hby at_66) (fun _ _ => ⟨rfl, e111, (by decide : 1 + 1 ≤ _), (by decide : 3 + 0 ≤ _)⟩)
    dsimp only [Pt.U, Pt.locs, Pt.cells, Pt.slots] at X112 l112 y112 z112 st112 hQ112
    subst l112 y112 z112
    obtain ⟨bx1_0_112, kx1_0_112, rfl, Nq112, Kc112, P112_0, P112_1, P112_2, P112_3, P112_4, P112_5⟩ := hQ112
    have K112 : Keep h0 T112.heap [] := Keep.trans K111 Kc112 (allS (P := fun x => x ∈ ([] : List Addr) ∨ h0.size ≤ x) (Or.inr sz_b111) all0)
    have Z112 : n0 ≤ T112.heap.size := Nat.le_trans Z0 K112.1
    have g_bx1_0_112 : n0 ≤ bx1_0_112 := Nat.le_trans Z111 P112_0
    have sz_bx1_0_112 : h0.size ≤ bx1_0_112 := Nat.le_trans K111.1 P112_0
    have ne_b111_bx1_0_112 : b111 ≠ bx1_0_112 := Nat.ne_of_lt (Nat.lt_of_lt_of_le A111.lt P112_0)
    have N112 := Fr.app N0 Nq112
    let A113 : Array Slot := #[.val (.long q0_0), .second, .val (.long q0_1), .second, .val (.long q0_2), .second, .val (.long q0_3), .second, .val (.long q0_4), .second, .val (.int p0_5), .val (.long x2), .second, .val (.long x4), .second, .val (.long x6), .second, .val (.long x8), .second, .val (.long x10), .second, .val (.int (2 : Int32)), .val (.int x109), .val (.ref b111), .unset, .unset]
    obtain ⟨cq114, kq114, q114a, q114b, q114c⟩ := isOf hZ rfl P112_1
    obtain ⟨_, _, ⟨T114, L114, k114, n114⟩, -, X114, ⟨Lc114, hQ114, l114, y114, z114⟩, st114⟩ := X112.virtualBack hx (y := (⟨"com/example/motley/motley/CountTree", "append", "(J)V"⟩ : MethodName)) (z := (⟨"com/example/motley/motley/CountTree", "append", "(J)V"⟩ : MethodName)) hown (mvT hZ (ow13 hw)) (mvT hZ (ow14 hw)) (notFace_of_selects (args := #[]) (mvT hZ (ow16 hw))) (mvT hZ (ow16 hw)) (mvT hZ (ow15 hw)) (by decide) (backOf (W := 0) (rm3_1 l Z a0 hw [] b111 x2 bx1_0_112 kx1_0_112 T112.heap n0 Z112 P112_1 P112_2 P112_3 P112_4 P112_5 g_b111) hZ (ow17 hw) (ow3 hw) (by decide) (by decide)) q114a q114c (g := (mkF m 80 A113 [(.long x2), (.ref b111)])) rfl (by rw [hml]; rfl) (Steps.refl _) (argsL := [(.long x2)]) (rest := []) (lenOf pd__J_V rfl) rfl (by show 2 * 0 + _ ≤ _; exact Nat.le_of_eq rfl) (hb hby at_80) (fun _ _ => ⟨rfl, rfl, (by decide : 2 + 1 ≤ _), (by decide : 3 + 1 ≤ _)⟩)
    dsimp only [Pt.U, Pt.locs, Pt.cells, Pt.slots] at X114 l114 y114 z114 st114 hQ114
    subst l114 y114 z114
    obtain ⟨bx3_0_114, kx3_0_114, rfl, Nq114, Kc114, P114_0, P114_1, P114_2, P114_3, P114_4, P114_5⟩ := hQ114
    have K114 : Keep h0 T114.heap [] := Keep.trans K112 Kc114 (allS (P := fun x => x ∈ ([] : List Addr) ∨ h0.size ≤ x) (Or.inr sz_b111) all0)
    have Z114 : n0 ≤ T114.heap.size := Nat.le_trans Z0 K114.1
    have g_bx3_0_114 : n0 ≤ bx3_0_114 := Nat.le_trans Z112 P114_0
    have sz_bx3_0_114 : h0.size ≤ bx3_0_114 := Nat.le_trans K112.1 P114_0
    have ne_b111_bx3_0_114 : b111 ≠ bx3_0_114 := Nat.ne_of_lt (Nat.lt_of_lt_of_le P112_1.lt P114_0)
    have ne_bx1_0_112_bx3_0_114 : bx1_0_112 ≠ bx3_0_114 := Nat.ne_of_lt (Nat.lt_of_lt_of_le P112_5.lt P114_0)
    obtain ⟨y115, hy115⟩ : ∃ z : Int64, z = ((0 : Int64) + x2) := ⟨_, rfl⟩
    rw [← hy115] at P114_5
    have N114 := Fr.app N112 Nq114
    have f117 := (P112_5.keep Kc114 (ninS (Ne.symm ne_b111_bx1_0_112) nin0))
    obtain ⟨cq116, kq116, q116a, q116b, q116c⟩ := isOf hZ rfl P114_1
    obtain ⟨_, _, ⟨T116, L116, k116, n116⟩, -, X116, ⟨Lc116, hQ116, l116, y116, z116⟩, st116⟩ := X114.virtualBack hx (y := (⟨"com/example/motley/motley/CountTree", "append", "(J)V"⟩ : MethodName)) (z := (⟨"com/example/motley/motley/CountTree", "append", "(J)V"⟩ : MethodName)) hown (mvT hZ (ow13 hw)) (mvT hZ (ow14 hw)) (notFace_of_selects (args := #[]) (mvT hZ (ow16 hw))) (mvT hZ (ow16 hw)) (mvT hZ (ow15 hw)) (by decide) (backOf (W := 0) (rm3_2 l Z a0 hw [] b111 x4 bx3_0_114 ((0 : Int64) + x2) kx3_0_114 y115 T114.heap n0 Z114 P114_1 P114_2 P114_3 P114_4 P114_5 g_b111) hZ (ow17 hw) (ow3 hw) (by decide) (by decide)) q116a q116c (g := (mkF m 93 A113 [(.long x4), (.ref b111)])) rfl (by rw [hml]; rfl) (Steps.refl _) (argsL := [(.long x4)]) (rest := []) (lenOf pd__J_V rfl) rfl (by show 2 * 0 + _ ≤ _; exact Nat.le_of_eq rfl) (hb hby at_93) (fun _ _ => ⟨rfl, rfl, (by decide : 3 + 1 ≤ _), (by decide : 4 + 2 ≤ _)⟩)
    dsimp only [Pt.U, Pt.locs, Pt.cells, Pt.slots] at X116 l116 y116 z116 st116 hQ116
    subst l116 y116 z116
    obtain ⟨bx3_0_116, kx3_0_116, rfl, Nq116, Kc116, P116_0, P116_1, P116_2, P116_3, P116_4, P116_5⟩ := hQ116
    have K116 : Keep h0 T116.heap [] := Keep.trans K114 Kc116 (allS (P := fun x => x ∈ ([] : List Addr) ∨ h0.size ≤ x) (Or.inr sz_b111) all0)
    have Z116 : n0 ≤ T116.heap.size := Nat.le_trans Z0 K116.1
    have g_bx3_0_116 : n0 ≤ bx3_0_116 := Nat.le_trans Z114 P116_0
    have sz_bx3_0_116 : h0.size ≤ bx3_0_116 := Nat.le_trans K114.1 P116_0
    have ne_b111_bx3_0_116 : b111 ≠ bx3_0_116 := Nat.ne_of_lt (Nat.lt_of_lt_of_le P114_1.lt P116_0)
    have ne_bx1_0_112_bx3_0_116 : bx1_0_112 ≠ bx3_0_116 := Nat.ne_of_lt (Nat.lt_of_lt_of_le f117.lt P116_0)
    have ne_bx3_0_114_bx3_0_116 : bx3_0_114 ≠ bx3_0_116 := Nat.ne_of_lt (Nat.lt_of_lt_of_le P114_5.lt P116_0)
    obtain ⟨y118, hy118⟩ : ∃ z : Int64, z = (((0 : Int64) + x2) + x4) := ⟨_, rfl⟩
    rw [← hy118] at P116_4
    obtain ⟨y119, hy119⟩ : ∃ z : Int64, z = ((((0 : Int64) + x2) - (0 : Int64)) + x4) := ⟨_, rfl⟩
    rw [← hy119] at P116_5
    have N116 := Fr.app N114 Nq116
    let A120 : Array Slot := #[.val (.long q0_0), .second, .val (.long q0_1), .second, .val (.long q0_2), .second, .val (.long q0_3), .second, .val (.long q0_4), .second, .val (.int p0_5), .val (.long x2), .second, .val (.long x4), .second, .val (.long x6), .second, .val (.long x8), .second, .val (.long x10), .second, .val (.int (2 : Int32)), .val (.int x109), .val (.ref b111), .val (.long (0 : Int64)), .second]
    have G121 : ∀ t, Steps p.tables e below (T116.setTop (mkF m 140 A120 [(.int x109)])) t → Steps p.tables e below (s₁.setTop (mkF m 48 A13 [])) t := by
      intro t k
      show Steps p.tables e below (s₁.setTop (mkF m 48 #[.val (.long q0_0), .second, .val (.long q0_1), .second, .val (.long q0_2), .second, .val (.long q0_3), .second, .val (.long q0_4), .second, .val (.int p0_5), .val (.long x2), .second, .val (.long x4), .second, .val (.long x6), .second, .val (.long x8), .second, .val (.long x10), .second, .val (.int x12), .unset, .unset, .unset, .unset] [])) _
      rw [hc17]
      show Steps p.tables e below (s₁.setTop (mkF m 48 A108 [])) _
      refine XS.iload X0.here hx rfl (hb hby at_48) rfl ?_
      refine XS.iconst X0.here hx rfl (hb hby at_50) ?_
      refine XS.iushr X0.here hx rfl (hb hby at_51) rfl ?_
      show Steps p.tables e below (s₁.setTop (mkF m 52 A108 [(.int ((p0_5.toUInt32 >>> ((3 : Int32) &&& 31).toUInt32).toInt32))])) _
      refine XS.bipush X0.here hx rfl (hb hby at_52) ?_
      refine XS.iand X0.here hx rfl (hb hby at_54) rfl ?_
      refine XS.iload X0.here hx rfl (hb hby at_55) rfl ?_
      show Steps p.tables e below (s₁.setTop (mkF m 57 A108 [(.int (2 : Int32)), (.int (((p0_5.toUInt32 >>> ((3 : Int32) &&& 31).toUInt32).toInt32) &&& (7 : Int32)))])) _
      refine XS.iconst X0.here hx rfl (hb hby at_57) ?_
      refine XS.iadd X0.here hx rfl (hb hby at_58) rfl ?_
      refine iremM X0 hx rfl (hb hby at_59) rfl (by decide : ¬ ((3 : Int32) = (0 : Int32))) ?_
      show Steps p.tables e below (s₁.setTop (mkF m 60 A108 [(.int ((((p0_5.toUInt32 >>> ((3 : Int32) &&& 31).toUInt32).toInt32) &&& (7 : Int32)) % (3 : Int32)))])) _
      refine XS.istore X0.here hx rfl (hb hby at_60) rfl (l' := #[.val (.long q0_0), .second, .val (.long q0_1), .second, .val (.long q0_2), .second, .val (.long q0_3), .second, .val (.long q0_4), .second, .val (.int p0_5), .val (.long x2), .second, .val (.long x4), .second, .val (.long x6), .second, .val (.long x8), .second, .val (.long x10), .second, .val (.int (2 : Int32)), .val (.int ((((p0_5.toUInt32 >>> ((3 : Int32) &&& 31).toUInt32).toInt32) &&& (7 : Int32)) % (3 : Int32))), .unset, .unset, .unset]) rfl ?_
      show Steps p.tables e below (s₁.setTop (mkF m 62 #[.val (.long q0_0), .second, .val (.long q0_1), .second, .val (.long q0_2), .second, .val (.long q0_3), .second, .val (.long q0_4), .second, .val (.int p0_5), .val (.long x2), .second, .val (.long x4), .second, .val (.long x6), .second, .val (.long x8), .second, .val (.long x10), .second, .val (.int (2 : Int32)), .val (.int ((((p0_5.toUInt32 >>> ((3 : Int32) &&& 31).toUInt32).toInt32) &&& (7 : Int32)) % (3 : Int32))), .unset, .unset, .unset] [])) _
      rw [← hx109]
      refine st111 _ ?_
      refine XS.dup X111.here hx rfl (hb hby at_65) rfl rfl ?_
      show Steps p.tables e below (T111.setTop (mkF m 66 A110 [(.ref b111), (.ref b111)])) _
      refine st112.trans ?_
      refine XS.astore X112.here hx rfl (hb hby at_69) rfl rfl (l' := A113) rfl ?_
      refine XS.iload X112.here hx rfl (hb hby at_71) rfl ?_
      show Steps p.tables e below (T112.setTop (mkF m 73 A113 [(.int (2 : Int32))])) _
      refine XS.ifNo X112.here hx rfl (hb hby at_73) rfl ((if0 _ _).trans (tlt (by decide : (0 : Int32) < (2 : Int32))).2.2.2) ?_
      refine XS.aload X112.here hx rfl (hb hby at_76) rfl rfl ?_
      refine XS.lload X112.here hx rfl (hb hby at_78) rfl ?_
      show Steps p.tables e below (T112.setTop (mkF m 80 A113 [(.long x2), (.ref b111)])) _
      refine st114.trans ?_
      refine XS.iload X114.here hx rfl (hb hby at_83) rfl ?_
      refine XS.iconst X114.here hx rfl (hb hby at_85) ?_
      show Steps p.tables e below (T114.setTop (mkF m 86 A113 [(.int (1 : Int32)), (.int (2 : Int32))])) _
      refine XS.icmpNo X114.here hx rfl (hb hby at_86) rfl (tlt (by decide : (1 : Int32) < (2 : Int32))).2.2.2 ?_
      refine XS.aload X114.here hx rfl (hb hby at_89) rfl rfl ?_
      refine XS.lload X114.here hx rfl (hb hby at_91) rfl ?_
      show Steps p.tables e below (T114.setTop (mkF m 93 A113 [(.long x4), (.ref b111)])) _
      refine st116.trans ?_
      refine XS.iload X116.here hx rfl (hb hby at_96) rfl ?_
      refine XS.iconst X116.here hx rfl (hb hby at_98) ?_
      show Steps p.tables e below (T116.setTop (mkF m 99 A113 [(.int (2 : Int32)), (.int (2 : Int32))])) _
      refine XS.icmpYes X116.here hx rfl (pc0 := 99) (pc' := 109) rfl (hb hby at_99) rfl (flt (by decide : ¬ ((2 : Int32) < (2 : Int32)))).2.2.2 (by decide) (by decide) ?_
      refine XS.iload X116.here hx rfl (hb hby at_109) rfl ?_
      refine XS.iconst X116.here hx rfl (hb hby at_111) ?_
      show Steps p.tables e below (T116.setTop (mkF m 112 A113 [(.int (3 : Int32)), (.int (2 : Int32))])) _
      refine XS.icmpYes X116.here hx rfl (pc0 := 112) (pc' := 122) rfl (hb hby at_112) rfl (flt (by decide : ¬ ((3 : Int32) < (2 : Int32)))).2.2.2 (by decide) (by decide) ?_
      refine XS.iload X116.here hx rfl (hb hby at_122) rfl ?_
      refine XS.iconst X116.here hx rfl (hb hby at_124) ?_
      show Steps p.tables e below (T116.setTop (mkF m 125 A113 [(.int (4 : Int32)), (.int (2 : Int32))])) _
      refine XS.icmpYes X116.here hx rfl (pc0 := 125) (pc' := 135) rfl (hb hby at_125) rfl (flt (by decide : ¬ ((4 : Int32) < (2 : Int32)))).2.2.2 (by decide) (by decide) ?_
      refine XS.lconst X116.here hx rfl (hb hby at_135) ?_
      refine XS.lstore X116.here hx rfl (hb hby at_136) rfl (l' := A120) rfl ?_
      show Steps p.tables e below (T116.setTop (mkF m 138 A120 [])) _
      refine XS.iload X116.here hx rfl (hb hby at_138) rfl ?_
      exact k
    obtain ⟨v124, hv124⟩ : ∃ z : Int64, z = (if (0 : Int32) < x109 then ((0 : Int64) + x2) else (0 : Int64)) := ⟨_, rfl⟩
    obtain ⟨T125, Lo125, X125, N125, e125, G125⟩ := own_join X116 N116 (h := T116.heap) (mkF m 140 A120 [(.int x109)]) (mkF m 150 #[.val (.long q0_0), .second, .val (.long q0_1), .second, .val (.long q0_2), .second, .val (.long q0_3), .second, .val (.long q0_4), .second, .val (.int p0_5), .val (.long x2), .second, .val (.long x4), .second, .val (.long x6), .second, .val (.long x8), .second, .val (.long x10), .second, .val (.int (2 : Int32)), .val (.int x109), .val (.ref b111), .val (.long v124), .second] []) (by
      by_cases h140_122 : (0 : Int32) < x109
      · let A123 : Array Slot := #[.val (.long q0_0), .second, .val (.long q0_1), .second, .val (.long q0_2), .second, .val (.long q0_3), .second, .val (.long q0_4), .second, .val (.int p0_5), .val (.long x2), .second, .val (.long x4), .second, .val (.long x6), .second, .val (.long x8), .second, .val (.long x10), .second, .val (.int (2 : Int32)), .val (.int x109), .val (.ref b111), .val (.long ((0 : Int64) + x2)), .second]
        refine ⟨T116, _, X116, N116, rfl, fun t k => ?_⟩
        rw [show v124 = ((0 : Int64) + x2) from hv124.trans (if_pos h140_122)] at k
        show Steps p.tables e below (T116.setTop (mkF m 140 A120 [(.int x109)])) _
        refine XS.ifNo X116.here hx rfl (hb hby at_140) rfl ((if0 _ _).trans (tlt h140_122).2.2.2) ?_
        refine XS.lload X116.here hx rfl (hb hby at_143) rfl ?_
        refine XS.lload X116.here hx rfl (hb hby at_145) rfl ?_
        show Steps p.tables e below (T116.setTop (mkF m 147 A120 [(.long x2), (.long (0 : Int64))])) _
        refine XS.ladd X116.here hx rfl (hb hby at_147) rfl ?_
        refine XS.lstore X116.here hx rfl (hb hby at_148) rfl (l' := A123) rfl ?_
        exact k
      · refine ⟨T116, _, X116, N116, rfl, fun t k => ?_⟩
        rw [show v124 = (0 : Int64) from hv124.trans (if_neg h140_122)] at k
        show Steps p.tables e below (T116.setTop (mkF m 140 A120 [(.int x109)])) _
        refine XS.ifYes X116.here hx rfl (pc0 := 140) (pc' := 150) rfl (hb hby at_140) rfl ((if0 _ _).trans (flt h140_122).2.2.2) (by decide) (by decide) ?_
        exact k)
    let A126 : Array Slot := #[.val (.long q0_0), .second, .val (.long q0_1), .second, .val (.long q0_2), .second, .val (.long q0_3), .second, .val (.long q0_4), .second, .val (.int p0_5), .val (.long x2), .second, .val (.long x4), .second, .val (.long x6), .second, .val (.long x8), .second, .val (.long x10), .second, .val (.int (2 : Int32)), .val (.int x109), .val (.ref b111), .val (.long v124), .second]
    have G127 : ∀ t, Steps p.tables e below (T125.setTop (mkF m 153 A126 [(.int (1 : Int32)), (.int x109)])) t → Steps p.tables e below (T125.setTop (mkF m 150 A126 [])) t := by
      intro t k
      show Steps p.tables e below (T125.setTop (mkF m 150 A126 [])) _
      refine XS.iload X125.here hx rfl (hb hby at_150) rfl ?_
      refine XS.iconst X125.here hx rfl (hb hby at_152) ?_
      exact k
    obtain ⟨v130, hv130⟩ : ∃ z : Int64, z = (if (1 : Int32) < x109 then (v124 + x4) else v124) := ⟨_, rfl⟩
    obtain ⟨T131, Lo131, X131, N131, e131, G131⟩ := own_join X125 N125 (h := T116.heap) (mkF m 153 A126 [(.int (1 : Int32)), (.int x109)]) (mkF m 163 #[.val (.long q0_0), .second, .val (.long q0_1), .second, .val (.long q0_2), .second, .val (.long q0_3), .second, .val (.long q0_4), .second, .val (.int p0_5), .val (.long x2), .second, .val (.long x4), .second, .val (.long x6), .second, .val (.long x8), .second, .val (.long x10), .second, .val (.int (2 : Int32)), .val (.int x109), .val (.ref b111), .val (.long v130), .second] []) (by
      by_cases h153_128 : (1 : Int32) < x109
      · let A129 : Array Slot := #[.val (.long q0_0), .second, .val (.long q0_1), .second, .val (.long q0_2), .second, .val (.long q0_3), .second, .val (.long q0_4), .second, .val (.int p0_5), .val (.long x2), .second, .val (.long x4), .second, .val (.long x6), .second, .val (.long x8), .second, .val (.long x10), .second, .val (.int (2 : Int32)), .val (.int x109), .val (.ref b111), .val (.long (v124 + x4)), .second]
        refine ⟨T125, _, X125, N125, e125, fun t k => ?_⟩
        rw [show v130 = (v124 + x4) from hv130.trans (if_pos h153_128)] at k
        show Steps p.tables e below (T125.setTop (mkF m 153 A126 [(.int (1 : Int32)), (.int x109)])) _
        refine XS.icmpNo X125.here hx rfl (hb hby at_153) rfl (tlt h153_128).2.2.2 ?_
        refine XS.lload X125.here hx rfl (hb hby at_156) rfl ?_
        refine XS.lload X125.here hx rfl (hb hby at_158) rfl ?_
        show Steps p.tables e below (T125.setTop (mkF m 160 A126 [(.long x4), (.long v124)])) _
        refine XS.ladd X125.here hx rfl (hb hby at_160) rfl ?_
        refine XS.lstore X125.here hx rfl (hb hby at_161) rfl (l' := A129) rfl ?_
        exact k
      · refine ⟨T125, _, X125, N125, e125, fun t k => ?_⟩
        rw [show v130 = v124 from hv130.trans (if_neg h153_128)] at k
        show Steps p.tables e below (T125.setTop (mkF m 153 A126 [(.int (1 : Int32)), (.int x109)])) _
        refine XS.icmpYes X125.here hx rfl (pc0 := 153) (pc' := 163) rfl (hb hby at_153) rfl (flt h153_128).2.2.2 (by decide) (by decide) ?_
        exact k)
    let A132 : Array Slot := #[.val (.long q0_0), .second, .val (.long q0_1), .second, .val (.long q0_2), .second, .val (.long q0_3), .second, .val (.long q0_4), .second, .val (.int p0_5), .val (.long x2), .second, .val (.long x4), .second, .val (.long x6), .second, .val (.long x8), .second, .val (.long x10), .second, .val (.int (2 : Int32)), .val (.int x109), .val (.ref b111), .val (.long v130), .second]
    have G133 : ∀ t, Steps p.tables e below (T131.setTop (mkF m 166 A132 [(.int (2 : Int32)), (.int x109)])) t → Steps p.tables e below (T131.setTop (mkF m 163 A132 [])) t := by
      intro t k
      show Steps p.tables e below (T131.setTop (mkF m 163 A132 [])) _
      refine XS.iload X131.here hx rfl (hb hby at_163) rfl ?_
      refine XS.iconst X131.here hx rfl (hb hby at_165) ?_
      exact k
    obtain ⟨v136, hv136⟩ : ∃ z : Int64, z = (if (2 : Int32) < x109 then (v130 + x6) else v130) := ⟨_, rfl⟩
    obtain ⟨T137, Lo137, X137, N137, e137, G137⟩ := own_join X131 N131 (h := T116.heap) (mkF m 166 A132 [(.int (2 : Int32)), (.int x109)]) (mkF m 176 #[.val (.long q0_0), .second, .val (.long q0_1), .second, .val (.long q0_2), .second, .val (.long q0_3), .second, .val (.long q0_4), .second, .val (.int p0_5), .val (.long x2), .second, .val (.long x4), .second, .val (.long x6), .second, .val (.long x8), .second, .val (.long x10), .second, .val (.int (2 : Int32)), .val (.int x109), .val (.ref b111), .val (.long v136), .second] []) (by
      by_cases h166_134 : (2 : Int32) < x109
      · let A135 : Array Slot := #[.val (.long q0_0), .second, .val (.long q0_1), .second, .val (.long q0_2), .second, .val (.long q0_3), .second, .val (.long q0_4), .second, .val (.int p0_5), .val (.long x2), .second, .val (.long x4), .second, .val (.long x6), .second, .val (.long x8), .second, .val (.long x10), .second, .val (.int (2 : Int32)), .val (.int x109), .val (.ref b111), .val (.long (v130 + x6)), .second]
        refine ⟨T131, _, X131, N131, e131, fun t k => ?_⟩
        rw [show v136 = (v130 + x6) from hv136.trans (if_pos h166_134)] at k
        show Steps p.tables e below (T131.setTop (mkF m 166 A132 [(.int (2 : Int32)), (.int x109)])) _
        refine XS.icmpNo X131.here hx rfl (hb hby at_166) rfl (tlt h166_134).2.2.2 ?_
        refine XS.lload X131.here hx rfl (hb hby at_169) rfl ?_
        refine XS.lload X131.here hx rfl (hb hby at_171) rfl ?_
        show Steps p.tables e below (T131.setTop (mkF m 173 A132 [(.long x6), (.long v130)])) _
        refine XS.ladd X131.here hx rfl (hb hby at_173) rfl ?_
        refine XS.lstore X131.here hx rfl (hb hby at_174) rfl (l' := A135) rfl ?_
        exact k
      · refine ⟨T131, _, X131, N131, e131, fun t k => ?_⟩
        rw [show v136 = v130 from hv136.trans (if_neg h166_134)] at k
        show Steps p.tables e below (T131.setTop (mkF m 166 A132 [(.int (2 : Int32)), (.int x109)])) _
        refine XS.icmpYes X131.here hx rfl (pc0 := 166) (pc' := 176) rfl (hb hby at_166) rfl (flt h166_134).2.2.2 (by decide) (by decide) ?_
        exact k)
    let A138 : Array Slot := #[.val (.long q0_0), .second, .val (.long q0_1), .second, .val (.long q0_2), .second, .val (.long q0_3), .second, .val (.long q0_4), .second, .val (.int p0_5), .val (.long x2), .second, .val (.long x4), .second, .val (.long x6), .second, .val (.long x8), .second, .val (.long x10), .second, .val (.int (2 : Int32)), .val (.int x109), .val (.ref b111), .val (.long v136), .second]
    have G139 : ∀ t, Steps p.tables e below (T137.setTop (mkF m 179 A138 [(.int (3 : Int32)), (.int x109)])) t → Steps p.tables e below (T137.setTop (mkF m 176 A138 [])) t := by
      intro t k
      show Steps p.tables e below (T137.setTop (mkF m 176 A138 [])) _
      refine XS.iload X137.here hx rfl (hb hby at_176) rfl ?_
      refine XS.iconst X137.here hx rfl (hb hby at_178) ?_
      exact k
    obtain ⟨v142, hv142⟩ : ∃ z : Int64, z = (if (3 : Int32) < x109 then (v136 + x8) else v136) := ⟨_, rfl⟩
    obtain ⟨T143, Lo143, X143, N143, e143, G143⟩ := own_join X137 N137 (h := T116.heap) (mkF m 179 A138 [(.int (3 : Int32)), (.int x109)]) (mkF m 189 #[.val (.long q0_0), .second, .val (.long q0_1), .second, .val (.long q0_2), .second, .val (.long q0_3), .second, .val (.long q0_4), .second, .val (.int p0_5), .val (.long x2), .second, .val (.long x4), .second, .val (.long x6), .second, .val (.long x8), .second, .val (.long x10), .second, .val (.int (2 : Int32)), .val (.int x109), .val (.ref b111), .val (.long v142), .second] []) (by
      by_cases h179_140 : (3 : Int32) < x109
      · let A141 : Array Slot := #[.val (.long q0_0), .second, .val (.long q0_1), .second, .val (.long q0_2), .second, .val (.long q0_3), .second, .val (.long q0_4), .second, .val (.int p0_5), .val (.long x2), .second, .val (.long x4), .second, .val (.long x6), .second, .val (.long x8), .second, .val (.long x10), .second, .val (.int (2 : Int32)), .val (.int x109), .val (.ref b111), .val (.long (v136 + x8)), .second]
        refine ⟨T137, _, X137, N137, e137, fun t k => ?_⟩
        rw [show v142 = (v136 + x8) from hv142.trans (if_pos h179_140)] at k
        show Steps p.tables e below (T137.setTop (mkF m 179 A138 [(.int (3 : Int32)), (.int x109)])) _
        refine XS.icmpNo X137.here hx rfl (hb hby at_179) rfl (tlt h179_140).2.2.2 ?_
        refine XS.lload X137.here hx rfl (hb hby at_182) rfl ?_
        refine XS.lload X137.here hx rfl (hb hby at_184) rfl ?_
        show Steps p.tables e below (T137.setTop (mkF m 186 A138 [(.long x8), (.long v136)])) _
        refine XS.ladd X137.here hx rfl (hb hby at_186) rfl ?_
        refine XS.lstore X137.here hx rfl (hb hby at_187) rfl (l' := A141) rfl ?_
        exact k
      · refine ⟨T137, _, X137, N137, e137, fun t k => ?_⟩
        rw [show v142 = v136 from hv142.trans (if_neg h179_140)] at k
        show Steps p.tables e below (T137.setTop (mkF m 179 A138 [(.int (3 : Int32)), (.int x109)])) _
        refine XS.icmpYes X137.here hx rfl (pc0 := 179) (pc' := 189) rfl (hb hby at_179) rfl (flt h179_140).2.2.2 (by decide) (by decide) ?_
        exact k)
    let A144 : Array Slot := #[.val (.long q0_0), .second, .val (.long q0_1), .second, .val (.long q0_2), .second, .val (.long q0_3), .second, .val (.long q0_4), .second, .val (.int p0_5), .val (.long x2), .second, .val (.long x4), .second, .val (.long x6), .second, .val (.long x8), .second, .val (.long x10), .second, .val (.int (2 : Int32)), .val (.int x109), .val (.ref b111), .val (.long v142), .second]
    have G145 : ∀ t, Steps p.tables e below (T143.setTop (mkF m 192 A144 [(.int (4 : Int32)), (.int x109)])) t → Steps p.tables e below (T143.setTop (mkF m 189 A144 [])) t := by
      intro t k
      show Steps p.tables e below (T143.setTop (mkF m 189 A144 [])) _
      refine XS.iload X143.here hx rfl (hb hby at_189) rfl ?_
      refine XS.iconst X143.here hx rfl (hb hby at_191) ?_
      exact k
    obtain ⟨v148, hv148⟩ : ∃ z : Int64, z = (if (4 : Int32) < x109 then (v142 + x10) else v142) := ⟨_, rfl⟩
    obtain ⟨T149, Lo149, X149, N149, e149, G149⟩ := own_join X143 N143 (h := T116.heap) (mkF m 192 A144 [(.int (4 : Int32)), (.int x109)]) (mkF m 202 #[.val (.long q0_0), .second, .val (.long q0_1), .second, .val (.long q0_2), .second, .val (.long q0_3), .second, .val (.long q0_4), .second, .val (.int p0_5), .val (.long x2), .second, .val (.long x4), .second, .val (.long x6), .second, .val (.long x8), .second, .val (.long x10), .second, .val (.int (2 : Int32)), .val (.int x109), .val (.ref b111), .val (.long v148), .second] []) (by
      by_cases h192_146 : (4 : Int32) < x109
      · let A147 : Array Slot := #[.val (.long q0_0), .second, .val (.long q0_1), .second, .val (.long q0_2), .second, .val (.long q0_3), .second, .val (.long q0_4), .second, .val (.int p0_5), .val (.long x2), .second, .val (.long x4), .second, .val (.long x6), .second, .val (.long x8), .second, .val (.long x10), .second, .val (.int (2 : Int32)), .val (.int x109), .val (.ref b111), .val (.long (v142 + x10)), .second]
        refine ⟨T143, _, X143, N143, e143, fun t k => ?_⟩
        rw [show v148 = (v142 + x10) from hv148.trans (if_pos h192_146)] at k
        show Steps p.tables e below (T143.setTop (mkF m 192 A144 [(.int (4 : Int32)), (.int x109)])) _
        refine XS.icmpNo X143.here hx rfl (hb hby at_192) rfl (tlt h192_146).2.2.2 ?_
        refine XS.lload X143.here hx rfl (hb hby at_195) rfl ?_
        refine XS.lload X143.here hx rfl (hb hby at_197) rfl ?_
        show Steps p.tables e below (T143.setTop (mkF m 199 A144 [(.long x10), (.long v142)])) _
        refine XS.ladd X143.here hx rfl (hb hby at_199) rfl ?_
        refine XS.lstore X143.here hx rfl (hb hby at_200) rfl (l' := A147) rfl ?_
        exact k
      · refine ⟨T143, _, X143, N143, e143, fun t k => ?_⟩
        rw [show v148 = v142 from hv148.trans (if_neg h192_146)] at k
        show Steps p.tables e below (T143.setTop (mkF m 192 A144 [(.int (4 : Int32)), (.int x109)])) _
        refine XS.icmpYes X143.here hx rfl (pc0 := 192) (pc' := 202) rfl (hb hby at_192) rfl (flt h192_146).2.2.2 (by decide) (by decide) ?_
        exact k)
    let A150 : Array Slot := #[.val (.long q0_0), .second, .val (.long q0_1), .second, .val (.long q0_2), .second, .val (.long q0_3), .second, .val (.long q0_4), .second, .val (.int p0_5), .val (.long x2), .second, .val (.long x4), .second, .val (.long x6), .second, .val (.long x8), .second, .val (.long x10), .second, .val (.int (2 : Int32)), .val (.int x109), .val (.ref b111), .val (.long v148), .second]
    obtain ⟨cq151, kq151, q151a, q151b, q151c⟩ := isOf hZ e149 P116_1
    obtain ⟨_, _, ⟨T151, L151, k151, n151⟩, -, X151, ⟨Lc151, hQ151, l151, y151, z151⟩, st151⟩ := X149.virtualBack hx (y := (⟨"com/example/motley/motley/CountTree", "sumBefore", "(I)J"⟩ : MethodName)) (z := (⟨"com/example/motley/motley/CountTree", "sumBefore", "(I)J"⟩ : MethodName)) hown (mvT hZ (ow52 hw)) (mvT hZ (ow48 hw)) (notFace_of_selects (args := #[]) (mvT hZ (ow50 hw))) (mvT hZ (ow50 hw)) (mvT hZ (ow49 hw)) (by decide) (backOf (W := 0) (rm9_4 l Z a0 hw [] b111 x109 bx3_0_116 y118 kx3_0_116 y115 y119 T116.heap n0 Z116 (own_p3 ((p0_5.toUInt32 >>> ((3 : Int32) &&& 31).toUInt32).toInt32) x109 hx109) P116_1 P116_2 P116_3 P116_4 P116_5) hZ (ow51 hw) (ow3 hw) (by decide) (by decide)) q151a q151c (g := (mkF m 206 A150 [(.int x109), (.ref b111)])) rfl (by rw [hml]; rfl) (Steps.refl _) (argsL := [(.int x109)]) (rest := []) (lenOf pd__I_J rfl) rfl (by show 2 * 0 + _ ≤ _; exact Nat.le_of_eq rfl) (hb hby at_206) (fun _ _ => ⟨rfl, e149, (by decide : 4 + 0 ≤ _), (by decide : 6 + 0 ≤ _)⟩)
    dsimp only [Pt.U, Pt.locs, Pt.cells, Pt.slots] at X151 l151 y151 z151 st151 hQ151
    subst l151 y151 z151
    obtain ⟨rfl, Nq151, e151⟩ := hQ151
    have N151 := Fr.app N149 Nq151
    obtain ⟨x152, hx152⟩ : ∃ z : Int64, z = (if x109 = (0 : Int32) then (0 : Int64) else (if x109 = (1 : Int32) then ((0 : Int64) + y115) else ((0 : Int64) + y119))) := ⟨_, rfl⟩
    have G153 : ∀ t, Steps p.tables e below (T151.setTop (mkF m 212 A150 [(.int (lcmpW x152 v148))])) t → Steps p.tables e below (T149.setTop (mkF m 202 A150 [])) t := by
      intro t k
      show Steps p.tables e below (T149.setTop (mkF m 202 A150 [])) _
      refine XS.aload X149.here hx rfl (hb hby at_202) rfl rfl ?_
      refine XS.iload X149.here hx rfl (hb hby at_204) rfl ?_
      refine st151.trans ?_
      show Steps p.tables e below (T151.setTop (mkF m 209 #[.val (.long q0_0), .second, .val (.long q0_1), .second, .val (.long q0_2), .second, .val (.long q0_3), .second, .val (.long q0_4), .second, .val (.int p0_5), .val (.long x2), .second, .val (.long x4), .second, .val (.long x6), .second, .val (.long x8), .second, .val (.long x10), .second, .val (.int (2 : Int32)), .val (.int x109), .val (.ref b111), .val (.long v148), .second] [(.long (if x109 = (0 : Int32) then (0 : Int64) else (if x109 = (1 : Int32) then ((0 : Int64) + y115) else ((0 : Int64) + y119))))])) _
      rw [← hx152]
      refine XS.lload X151.here hx rfl (hb hby at_209) rfl ?_
      refine XS.lcmp X151.here hx rfl (hb hby at_211) rfl ?_
      exact k
    obtain ⟨v155, hv155⟩ : ∃ z : Int32, z = (if x152 = v148 then (1 : Int32) else (0 : Int32)) := ⟨_, rfl⟩
    obtain ⟨T156, Lo156, X156, N156, e156, G156⟩ := own_join X151 N151 (h := T116.heap) (mkF m 212 A150 [(.int (lcmpW x152 v148))]) (mkF m 220 A150 [(.int v155)]) (by
      by_cases h212_154 : x152 = v148
      · refine ⟨T151, _, X151, N151, e151, fun t k => ?_⟩
        rw [show v155 = (1 : Int32) from hv155.trans (if_pos h212_154)] at k
        show Steps p.tables e below (T151.setTop (mkF m 212 A150 [(.int (lcmpW x152 v148))])) _
        refine XS.ifNo X151.here hx rfl (hb hby at_212) rfl ((if0 _ _).trans (teq ((lw_eq _ _).mpr h212_154)).2) ?_
        refine XS.iconst X151.here hx rfl (hb hby at_215) ?_
        refine XS.goto X151.here hx rfl (pc0 := 216) (pc' := 220) rfl (hb hby at_216) (by decide) (by decide) ?_
        exact k
      · refine ⟨T151, _, X151, N151, e151, fun t k => ?_⟩
        rw [show v155 = (0 : Int32) from hv155.trans (if_neg h212_154)] at k
        show Steps p.tables e below (T151.setTop (mkF m 212 A150 [(.int (lcmpW x152 v148))])) _
        refine XS.ifYes X151.here hx rfl (pc0 := 212) (pc' := 219) rfl (hb hby at_212) rfl ((if0 _ _).trans (feq (fun q => h212_154 ((lw_eq _ _).mp q))).2) (by decide) (by decide) ?_
        refine XS.iconst X151.here hx rfl (hb hby at_219) ?_
        exact k)
    have fin : v155 = (1 : Int32) := by
      exact own_fin3 q0_0 q0_1 q0_2 q0_3 q0_4 p0_5 x2 hx2 x4 hx4 x6 hx6 x8 hx8 x10 hx10 x12 hx12 x109 hx109 y115 hy115 y118 hy118 y119 hy119 v124 hv124 v130 hv130 v136 hv136 v142 hv142 v148 hv148 x152 hx152 v155 hv155 hc17
    obtain ⟨fs, hr, hrun, hended, hW, hsame⟩ := X156.leave (v := some (.int (1 : Int32))) (fun h => by rw [Bd.returns] at h; cases h)
    refine ⟨_, _, pre0 _ ?_, hrun, hended, _, _, rfl, ?_, ⟨_, rfl⟩, hW, hsame.mono (by decide) (by decide)⟩
    · refine G14 _ ?_
      refine G121 _ ?_
      refine G125 _ ?_
      refine G127 _ ?_
      refine G131 _ ?_
      refine G133 _ ?_
      refine G137 _ ?_
      refine G139 _ ?_
      refine G143 _ ?_
      refine G145 _ ?_
      refine G149 _ ?_
      refine G153 _ ?_
      refine G156 _ ?_
      show Steps p.tables e below (T156.setTop (mkF m 220 A150 [(.int v155)])) _
      rw [fin]
      exact retN X156 hx (t := .boolean) Bd.returns (by simp) (hb hby at_220) hr
    · exact ⟨rfl, N156⟩
  · let A157 : Array Slot := #[.val (.long q0_0), .second, .val (.long q0_1), .second, .val (.long q0_2), .second, .val (.long q0_3), .second, .val (.long q0_4), .second, .val (.int p0_5), .val (.long x2), .second, .val (.long x4), .second, .val (.long x6), .second, .val (.long x8), .second, .val (.long x10), .second, .val (.int (3 : Int32)), .unset, .unset, .unset, .unset]
    have own_t18 : True := trivial
    obtain ⟨x158, hx158⟩ : ∃ z : Int32, z = ((((p0_5.toUInt32 >>> ((3 : Int32) &&& 31).toUInt32).toInt32) &&& (7 : Int32)) % (4 : Int32)) := ⟨_, rfl⟩
    let A159 : Array Slot := #[.val (.long q0_0), .second, .val (.long q0_1), .second, .val (.long q0_2), .second, .val (.long q0_3), .second, .val (.long q0_4), .second, .val (.int p0_5), .val (.long x2), .second, .val (.long x4), .second, .val (.long x6), .second, .val (.long x8), .second, .val (.long x10), .second, .val (.int (3 : Int32)), .val (.int x158), .unset, .unset, .unset]
    obtain ⟨T160, h160, X160, e160, E160, A160, D160, -, st160⟩ := newO X0 hx hZ hown (ow1 hw) (ow2 hw) (ow3 hw) e0 (g := (mkF m 62 A159 [])) rfl (hb hby at_62) (by decide) (by decide)
    obtain ⟨b160, g160⟩ : ∃ z, z = h0.size := ⟨_, rfl⟩
    rw [← g160] at A160 D160 st160
    have F_tree_b160 : Fld Z h160 b160 "com/example/motley/motley/CountTree" "tree" "[J" .null := D160 (Or.inl (ow12 hw)) (ty := (.array .long)) (by decide)
    have F_size_b160 : Fld Z h160 b160 "com/example/motley/motley/CountTree" "size" "I" (.int (0 : Int32)) := D160 (Or.inl (ow24 hw)) (ty := .int) (by decide)
    have F_total_b160 : Fld Z h160 b160 "com/example/motley/motley/CountTree" "total" "J" (.long (0 : Int64)) := D160 (Or.inl (ow46 hw)) (ty := .long) (by decide)
    have g_b160 : n0 ≤ b160 := Nat.le_trans Z0 (Nat.le_of_eq g160.symm)
    have sz_b160 : h0.size ≤ b160 := Nat.le_trans (Nat.le_refl _) (Nat.le_of_eq g160.symm)
    have K160 : Keep h0 h160 [] := (Keep.refl h0 []).ext E160
    have Z160 : n0 ≤ h160.size := Nat.le_trans Z0 K160.1
    obtain ⟨_, _, ⟨T161, L161, k161, n161⟩, -, X161, ⟨Lc161, hQ161, l161, y161, z161⟩, st161⟩ := X160.specialBack hx (y := (⟨"com/example/motley/motley/CountTree", "<init>", "()V"⟩ : MethodName)) rfl hown (mvT hZ (ow4 hw)) (mvT hZ (ow5 hw)) (mvT hZ (ow6 hw)) (by decide) (backOf (W := 1) (rm1_1 l Z a0 hw [] b160 h160 n0 Z160 A160 F_tree_b160 F_size_b160 F_total_b160 g_b160) hZ (ow6 hw) (ow3 hw) (by decide) (by decide)) (g := (mkF m 66 A159 [(.ref b160), (.ref b160)])) rfl (by rw [hml]; rfl) (Steps.refl _) (a := b160) (argsL := []) (rest := [(.ref b160)]) (lenOf pd___V rfl) rfl (by show 2 * 0 + _ ≤ _; exact Nat.le_of_eq rfl) (hb hby at_66) (fun _ _ => ⟨rfl, e160, (by decide : 1 + 1 ≤ _), (by decide : 3 + 0 ≤ _)⟩)
    dsimp only [Pt.U, Pt.locs, Pt.cells, Pt.slots] at X161 l161 y161 z161 st161 hQ161
    subst l161 y161 z161
    obtain ⟨bx1_0_161, kx1_0_161, rfl, Nq161, Kc161, P161_0, P161_1, P161_2, P161_3, P161_4, P161_5⟩ := hQ161
    have K161 : Keep h0 T161.heap [] := Keep.trans K160 Kc161 (allS (P := fun x => x ∈ ([] : List Addr) ∨ h0.size ≤ x) (Or.inr sz_b160) all0)
    have Z161 : n0 ≤ T161.heap.size := Nat.le_trans Z0 K161.1
    have g_bx1_0_161 : n0 ≤ bx1_0_161 := Nat.le_trans Z160 P161_0
    have sz_bx1_0_161 : h0.size ≤ bx1_0_161 := Nat.le_trans K160.1 P161_0
    have ne_b160_bx1_0_161 : b160 ≠ bx1_0_161 := Nat.ne_of_lt (Nat.lt_of_lt_of_le A160.lt P161_0)
    have N161 := Fr.app N0 Nq161
    let A162 : Array Slot := #[.val (.long q0_0), .second, .val (.long q0_1), .second, .val (.long q0_2), .second, .val (.long q0_3), .second, .val (.long q0_4), .second, .val (.int p0_5), .val (.long x2), .second, .val (.long x4), .second, .val (.long x6), .second, .val (.long x8), .second, .val (.long x10), .second, .val (.int (3 : Int32)), .val (.int x158), .val (.ref b160), .unset, .unset]
    obtain ⟨cq163, kq163, q163a, q163b, q163c⟩ := isOf hZ rfl P161_1
    obtain ⟨_, _, ⟨T163, L163, k163, n163⟩, -, X163, ⟨Lc163, hQ163, l163, y163, z163⟩, st163⟩ := X161.virtualBack hx (y := (⟨"com/example/motley/motley/CountTree", "append", "(J)V"⟩ : MethodName)) (z := (⟨"com/example/motley/motley/CountTree", "append", "(J)V"⟩ : MethodName)) hown (mvT hZ (ow13 hw)) (mvT hZ (ow14 hw)) (notFace_of_selects (args := #[]) (mvT hZ (ow16 hw))) (mvT hZ (ow16 hw)) (mvT hZ (ow15 hw)) (by decide) (backOf (W := 0) (rm3_1 l Z a0 hw [] b160 x2 bx1_0_161 kx1_0_161 T161.heap n0 Z161 P161_1 P161_2 P161_3 P161_4 P161_5 g_b160) hZ (ow17 hw) (ow3 hw) (by decide) (by decide)) q163a q163c (g := (mkF m 80 A162 [(.long x2), (.ref b160)])) rfl (by rw [hml]; rfl) (Steps.refl _) (argsL := [(.long x2)]) (rest := []) (lenOf pd__J_V rfl) rfl (by show 2 * 0 + _ ≤ _; exact Nat.le_of_eq rfl) (hb hby at_80) (fun _ _ => ⟨rfl, rfl, (by decide : 2 + 1 ≤ _), (by decide : 3 + 1 ≤ _)⟩)
    dsimp only [Pt.U, Pt.locs, Pt.cells, Pt.slots] at X163 l163 y163 z163 st163 hQ163
    subst l163 y163 z163
    obtain ⟨bx3_0_163, kx3_0_163, rfl, Nq163, Kc163, P163_0, P163_1, P163_2, P163_3, P163_4, P163_5⟩ := hQ163
    have K163 : Keep h0 T163.heap [] := Keep.trans K161 Kc163 (allS (P := fun x => x ∈ ([] : List Addr) ∨ h0.size ≤ x) (Or.inr sz_b160) all0)
    have Z163 : n0 ≤ T163.heap.size := Nat.le_trans Z0 K163.1
    have g_bx3_0_163 : n0 ≤ bx3_0_163 := Nat.le_trans Z161 P163_0
    have sz_bx3_0_163 : h0.size ≤ bx3_0_163 := Nat.le_trans K161.1 P163_0
    have ne_b160_bx3_0_163 : b160 ≠ bx3_0_163 := Nat.ne_of_lt (Nat.lt_of_lt_of_le P161_1.lt P163_0)
    have ne_bx1_0_161_bx3_0_163 : bx1_0_161 ≠ bx3_0_163 := Nat.ne_of_lt (Nat.lt_of_lt_of_le P161_5.lt P163_0)
    obtain ⟨y164, hy164⟩ : ∃ z : Int64, z = ((0 : Int64) + x2) := ⟨_, rfl⟩
    rw [← hy164] at P163_5
    have N163 := Fr.app N161 Nq163
    have f166 := (P161_5.keep Kc163 (ninS (Ne.symm ne_b160_bx1_0_161) nin0))
    obtain ⟨cq165, kq165, q165a, q165b, q165c⟩ := isOf hZ rfl P163_1
    obtain ⟨_, _, ⟨T165, L165, k165, n165⟩, -, X165, ⟨Lc165, hQ165, l165, y165, z165⟩, st165⟩ := X163.virtualBack hx (y := (⟨"com/example/motley/motley/CountTree", "append", "(J)V"⟩ : MethodName)) (z := (⟨"com/example/motley/motley/CountTree", "append", "(J)V"⟩ : MethodName)) hown (mvT hZ (ow13 hw)) (mvT hZ (ow14 hw)) (notFace_of_selects (args := #[]) (mvT hZ (ow16 hw))) (mvT hZ (ow16 hw)) (mvT hZ (ow15 hw)) (by decide) (backOf (W := 0) (rm3_2 l Z a0 hw [] b160 x4 bx3_0_163 ((0 : Int64) + x2) kx3_0_163 y164 T163.heap n0 Z163 P163_1 P163_2 P163_3 P163_4 P163_5 g_b160) hZ (ow17 hw) (ow3 hw) (by decide) (by decide)) q165a q165c (g := (mkF m 93 A162 [(.long x4), (.ref b160)])) rfl (by rw [hml]; rfl) (Steps.refl _) (argsL := [(.long x4)]) (rest := []) (lenOf pd__J_V rfl) rfl (by show 2 * 0 + _ ≤ _; exact Nat.le_of_eq rfl) (hb hby at_93) (fun _ _ => ⟨rfl, rfl, (by decide : 3 + 1 ≤ _), (by decide : 4 + 2 ≤ _)⟩)
    dsimp only [Pt.U, Pt.locs, Pt.cells, Pt.slots] at X165 l165 y165 z165 st165 hQ165
    subst l165 y165 z165
    obtain ⟨bx3_0_165, kx3_0_165, rfl, Nq165, Kc165, P165_0, P165_1, P165_2, P165_3, P165_4, P165_5⟩ := hQ165
    have K165 : Keep h0 T165.heap [] := Keep.trans K163 Kc165 (allS (P := fun x => x ∈ ([] : List Addr) ∨ h0.size ≤ x) (Or.inr sz_b160) all0)
    have Z165 : n0 ≤ T165.heap.size := Nat.le_trans Z0 K165.1
    have g_bx3_0_165 : n0 ≤ bx3_0_165 := Nat.le_trans Z163 P165_0
    have sz_bx3_0_165 : h0.size ≤ bx3_0_165 := Nat.le_trans K163.1 P165_0
    have ne_b160_bx3_0_165 : b160 ≠ bx3_0_165 := Nat.ne_of_lt (Nat.lt_of_lt_of_le P163_1.lt P165_0)
    have ne_bx1_0_161_bx3_0_165 : bx1_0_161 ≠ bx3_0_165 := Nat.ne_of_lt (Nat.lt_of_lt_of_le f166.lt P165_0)
    have ne_bx3_0_163_bx3_0_165 : bx3_0_163 ≠ bx3_0_165 := Nat.ne_of_lt (Nat.lt_of_lt_of_le P163_5.lt P165_0)
    obtain ⟨y167, hy167⟩ : ∃ z : Int64, z = (((0 : Int64) + x2) + x4) := ⟨_, rfl⟩
    rw [← hy167] at P165_4
    obtain ⟨y168, hy168⟩ : ∃ z : Int64, z = ((((0 : Int64) + x2) - (0 : Int64)) + x4) := ⟨_, rfl⟩
    rw [← hy168] at P165_5
    have N165 := Fr.app N163 Nq165
    have f170 := (f166.keep Kc165 (ninS (Ne.symm ne_b160_bx1_0_161) nin0))
    have f171 := (P163_5.keep Kc165 (ninS (Ne.symm ne_b160_bx3_0_163) nin0))
    obtain ⟨cq169, kq169, q169a, q169b, q169c⟩ := isOf hZ rfl P165_1
    obtain ⟨_, _, ⟨T169, L169, k169, n169⟩, -, X169, ⟨Lc169, hQ169, l169, y169, z169⟩, st169⟩ := X165.virtualBack hx (y := (⟨"com/example/motley/motley/CountTree", "append", "(J)V"⟩ : MethodName)) (z := (⟨"com/example/motley/motley/CountTree", "append", "(J)V"⟩ : MethodName)) hown (mvT hZ (ow13 hw)) (mvT hZ (ow14 hw)) (notFace_of_selects (args := #[]) (mvT hZ (ow16 hw))) (mvT hZ (ow16 hw)) (mvT hZ (ow15 hw)) (by decide) (backOf (W := 0) (rm3_3 l Z a0 hw [] b160 x6 bx3_0_165 y167 kx3_0_165 y164 y168 T165.heap n0 Z165 P165_1 P165_2 P165_3 P165_4 P165_5 g_b160) hZ (ow17 hw) (ow3 hw) (by decide) (by decide)) q169a q169c (g := (mkF m 106 A162 [(.long x6), (.ref b160)])) rfl (by rw [hml]; rfl) (Steps.refl _) (argsL := [(.long x6)]) (rest := []) (lenOf pd__J_V rfl) rfl (by show 2 * 0 + _ ≤ _; exact Nat.le_of_eq rfl) (hb hby at_106) (fun _ _ => ⟨rfl, rfl, (by decide : 4 + 1 ≤ _), (by decide : 6 + 4 ≤ _)⟩)
    dsimp only [Pt.U, Pt.locs, Pt.cells, Pt.slots] at X169 l169 y169 z169 st169 hQ169
    subst l169 y169 z169
    obtain ⟨bx3_0_169, kx3_0_169, rfl, Nq169, Kc169, P169_0, P169_1, P169_2, P169_3, P169_4, P169_5⟩ := hQ169
    have K169 : Keep h0 T169.heap [] := Keep.trans K165 Kc169 (allS (P := fun x => x ∈ ([] : List Addr) ∨ h0.size ≤ x) (Or.inr sz_b160) all0)
    have Z169 : n0 ≤ T169.heap.size := Nat.le_trans Z0 K169.1
    have g_bx3_0_169 : n0 ≤ bx3_0_169 := Nat.le_trans Z165 P169_0
    have sz_bx3_0_169 : h0.size ≤ bx3_0_169 := Nat.le_trans K165.1 P169_0
    have ne_b160_bx3_0_169 : b160 ≠ bx3_0_169 := Nat.ne_of_lt (Nat.lt_of_lt_of_le P165_1.lt P169_0)
    have ne_bx1_0_161_bx3_0_169 : bx1_0_161 ≠ bx3_0_169 := Nat.ne_of_lt (Nat.lt_of_lt_of_le f170.lt P169_0)
    have ne_bx3_0_163_bx3_0_169 : bx3_0_163 ≠ bx3_0_169 := Nat.ne_of_lt (Nat.lt_of_lt_of_le f171.lt P169_0)
    have ne_bx3_0_165_bx3_0_169 : bx3_0_165 ≠ bx3_0_169 := Nat.ne_of_lt (Nat.lt_of_lt_of_le P165_5.lt P169_0)
    obtain ⟨y172, hy172⟩ : ∃ z : Int64, z = ((0 : Int64) + x6) := ⟨_, rfl⟩
    rw [← hy172] at P169_5
    obtain ⟨y173, hy173⟩ : ∃ z : Int64, z = ((y167 - (0 : Int64)) + x6) := ⟨_, rfl⟩
    rw [← hy173] at P169_5
    have N169 := Fr.app N165 Nq169
    let A174 : Array Slot := #[.val (.long q0_0), .second, .val (.long q0_1), .second, .val (.long q0_2), .second, .val (.long q0_3), .second, .val (.long q0_4), .second, .val (.int p0_5), .val (.long x2), .second, .val (.long x4), .second, .val (.long x6), .second, .val (.long x8), .second, .val (.long x10), .second, .val (.int (3 : Int32)), .val (.int x158), .val (.ref b160), .val (.long (0 : Int64)), .second]
    have G175 : ∀ t, Steps p.tables e below (T169.setTop (mkF m 140 A174 [(.int x158)])) t → Steps p.tables e below (s₁.setTop (mkF m 48 A13 [])) t := by
      intro t k
      show Steps p.tables e below (s₁.setTop (mkF m 48 #[.val (.long q0_0), .second, .val (.long q0_1), .second, .val (.long q0_2), .second, .val (.long q0_3), .second, .val (.long q0_4), .second, .val (.int p0_5), .val (.long x2), .second, .val (.long x4), .second, .val (.long x6), .second, .val (.long x8), .second, .val (.long x10), .second, .val (.int x12), .unset, .unset, .unset, .unset] [])) _
      rw [hc18]
      show Steps p.tables e below (s₁.setTop (mkF m 48 A157 [])) _
      refine XS.iload X0.here hx rfl (hb hby at_48) rfl ?_
      refine XS.iconst X0.here hx rfl (hb hby at_50) ?_
      refine XS.iushr X0.here hx rfl (hb hby at_51) rfl ?_
      show Steps p.tables e below (s₁.setTop (mkF m 52 A157 [(.int ((p0_5.toUInt32 >>> ((3 : Int32) &&& 31).toUInt32).toInt32))])) _
      refine XS.bipush X0.here hx rfl (hb hby at_52) ?_
      refine XS.iand X0.here hx rfl (hb hby at_54) rfl ?_
      refine XS.iload X0.here hx rfl (hb hby at_55) rfl ?_
      show Steps p.tables e below (s₁.setTop (mkF m 57 A157 [(.int (3 : Int32)), (.int (((p0_5.toUInt32 >>> ((3 : Int32) &&& 31).toUInt32).toInt32) &&& (7 : Int32)))])) _
      refine XS.iconst X0.here hx rfl (hb hby at_57) ?_
      refine XS.iadd X0.here hx rfl (hb hby at_58) rfl ?_
      refine iremM X0 hx rfl (hb hby at_59) rfl (by decide : ¬ ((4 : Int32) = (0 : Int32))) ?_
      show Steps p.tables e below (s₁.setTop (mkF m 60 A157 [(.int ((((p0_5.toUInt32 >>> ((3 : Int32) &&& 31).toUInt32).toInt32) &&& (7 : Int32)) % (4 : Int32)))])) _
      refine XS.istore X0.here hx rfl (hb hby at_60) rfl (l' := #[.val (.long q0_0), .second, .val (.long q0_1), .second, .val (.long q0_2), .second, .val (.long q0_3), .second, .val (.long q0_4), .second, .val (.int p0_5), .val (.long x2), .second, .val (.long x4), .second, .val (.long x6), .second, .val (.long x8), .second, .val (.long x10), .second, .val (.int (3 : Int32)), .val (.int ((((p0_5.toUInt32 >>> ((3 : Int32) &&& 31).toUInt32).toInt32) &&& (7 : Int32)) % (4 : Int32))), .unset, .unset, .unset]) rfl ?_
      show Steps p.tables e below (s₁.setTop (mkF m 62 #[.val (.long q0_0), .second, .val (.long q0_1), .second, .val (.long q0_2), .second, .val (.long q0_3), .second, .val (.long q0_4), .second, .val (.int p0_5), .val (.long x2), .second, .val (.long x4), .second, .val (.long x6), .second, .val (.long x8), .second, .val (.long x10), .second, .val (.int (3 : Int32)), .val (.int ((((p0_5.toUInt32 >>> ((3 : Int32) &&& 31).toUInt32).toInt32) &&& (7 : Int32)) % (4 : Int32))), .unset, .unset, .unset] [])) _
      rw [← hx158]
      refine st160 _ ?_
      refine XS.dup X160.here hx rfl (hb hby at_65) rfl rfl ?_
      show Steps p.tables e below (T160.setTop (mkF m 66 A159 [(.ref b160), (.ref b160)])) _
      refine st161.trans ?_
      refine XS.astore X161.here hx rfl (hb hby at_69) rfl rfl (l' := A162) rfl ?_
      refine XS.iload X161.here hx rfl (hb hby at_71) rfl ?_
      show Steps p.tables e below (T161.setTop (mkF m 73 A162 [(.int (3 : Int32))])) _
      refine XS.ifNo X161.here hx rfl (hb hby at_73) rfl ((if0 _ _).trans (tlt (by decide : (0 : Int32) < (3 : Int32))).2.2.2) ?_
      refine XS.aload X161.here hx rfl (hb hby at_76) rfl rfl ?_
      refine XS.lload X161.here hx rfl (hb hby at_78) rfl ?_
      show Steps p.tables e below (T161.setTop (mkF m 80 A162 [(.long x2), (.ref b160)])) _
      refine st163.trans ?_
      refine XS.iload X163.here hx rfl (hb hby at_83) rfl ?_
      refine XS.iconst X163.here hx rfl (hb hby at_85) ?_
      show Steps p.tables e below (T163.setTop (mkF m 86 A162 [(.int (1 : Int32)), (.int (3 : Int32))])) _
      refine XS.icmpNo X163.here hx rfl (hb hby at_86) rfl (tlt (by decide : (1 : Int32) < (3 : Int32))).2.2.2 ?_
      refine XS.aload X163.here hx rfl (hb hby at_89) rfl rfl ?_
      refine XS.lload X163.here hx rfl (hb hby at_91) rfl ?_
      show Steps p.tables e below (T163.setTop (mkF m 93 A162 [(.long x4), (.ref b160)])) _
      refine st165.trans ?_
      refine XS.iload X165.here hx rfl (hb hby at_96) rfl ?_
      refine XS.iconst X165.here hx rfl (hb hby at_98) ?_
      show Steps p.tables e below (T165.setTop (mkF m 99 A162 [(.int (2 : Int32)), (.int (3 : Int32))])) _
      refine XS.icmpNo X165.here hx rfl (hb hby at_99) rfl (tlt (by decide : (2 : Int32) < (3 : Int32))).2.2.2 ?_
      refine XS.aload X165.here hx rfl (hb hby at_102) rfl rfl ?_
      refine XS.lload X165.here hx rfl (hb hby at_104) rfl ?_
      show Steps p.tables e below (T165.setTop (mkF m 106 A162 [(.long x6), (.ref b160)])) _
      refine st169.trans ?_
      refine XS.iload X169.here hx rfl (hb hby at_109) rfl ?_
      refine XS.iconst X169.here hx rfl (hb hby at_111) ?_
      show Steps p.tables e below (T169.setTop (mkF m 112 A162 [(.int (3 : Int32)), (.int (3 : Int32))])) _
      refine XS.icmpYes X169.here hx rfl (pc0 := 112) (pc' := 122) rfl (hb hby at_112) rfl (flt (by decide : ¬ ((3 : Int32) < (3 : Int32)))).2.2.2 (by decide) (by decide) ?_
      refine XS.iload X169.here hx rfl (hb hby at_122) rfl ?_
      refine XS.iconst X169.here hx rfl (hb hby at_124) ?_
      show Steps p.tables e below (T169.setTop (mkF m 125 A162 [(.int (4 : Int32)), (.int (3 : Int32))])) _
      refine XS.icmpYes X169.here hx rfl (pc0 := 125) (pc' := 135) rfl (hb hby at_125) rfl (flt (by decide : ¬ ((4 : Int32) < (3 : Int32)))).2.2.2 (by decide) (by decide) ?_
      refine XS.lconst X169.here hx rfl (hb hby at_135) ?_
      refine XS.lstore X169.here hx rfl (hb hby at_136) rfl (l' := A174) rfl ?_
      show Steps p.tables e below (T169.setTop (mkF m 138 A174 [])) _
      refine XS.iload X169.here hx rfl (hb hby at_138) rfl ?_
      exact k
    obtain ⟨v178, hv178⟩ : ∃ z : Int64, z = (if (0 : Int32) < x158 then ((0 : Int64) + x2) else (0 : Int64)) := ⟨_, rfl⟩
    obtain ⟨T179, Lo179, X179, N179, e179, G179⟩ := own_join X169 N169 (h := T169.heap) (mkF m 140 A174 [(.int x158)]) (mkF m 150 #[.val (.long q0_0), .second, .val (.long q0_1), .second, .val (.long q0_2), .second, .val (.long q0_3), .second, .val (.long q0_4), .second, .val (.int p0_5), .val (.long x2), .second, .val (.long x4), .second, .val (.long x6), .second, .val (.long x8), .second, .val (.long x10), .second, .val (.int (3 : Int32)), .val (.int x158), .val (.ref b160), .val (.long v178), .second] []) (by
      by_cases h140_176 : (0 : Int32) < x158
      · let A177 : Array Slot := #[.val (.long q0_0), .second, .val (.long q0_1), .second, .val (.long q0_2), .second, .val (.long q0_3), .second, .val (.long q0_4), .second, .val (.int p0_5), .val (.long x2), .second, .val (.long x4), .second, .val (.long x6), .second, .val (.long x8), .second, .val (.long x10), .second, .val (.int (3 : Int32)), .val (.int x158), .val (.ref b160), .val (.long ((0 : Int64) + x2)), .second]
        refine ⟨T169, _, X169, N169, rfl, fun t k => ?_⟩
        rw [show v178 = ((0 : Int64) + x2) from hv178.trans (if_pos h140_176)] at k
        show Steps p.tables e below (T169.setTop (mkF m 140 A174 [(.int x158)])) _
        refine XS.ifNo X169.here hx rfl (hb hby at_140) rfl ((if0 _ _).trans (tlt h140_176).2.2.2) ?_
        refine XS.lload X169.here hx rfl (hb hby at_143) rfl ?_
        refine XS.lload X169.here hx rfl (hb hby at_145) rfl ?_
        show Steps p.tables e below (T169.setTop (mkF m 147 A174 [(.long x2), (.long (0 : Int64))])) _
        refine XS.ladd X169.here hx rfl (hb hby at_147) rfl ?_
        refine XS.lstore X169.here hx rfl (hb hby at_148) rfl (l' := A177) rfl ?_
        exact k
      · refine ⟨T169, _, X169, N169, rfl, fun t k => ?_⟩
        rw [show v178 = (0 : Int64) from hv178.trans (if_neg h140_176)] at k
        show Steps p.tables e below (T169.setTop (mkF m 140 A174 [(.int x158)])) _
        refine XS.ifYes X169.here hx rfl (pc0 := 140) (pc' := 150) rfl (hb hby at_140) rfl ((if0 _ _).trans (flt h140_176).2.2.2) (by decide) (by decide) ?_
        exact k)
    let A180 : Array Slot := #[.val (.long q0_0), .second, .val (.long q0_1), .second, .val (.long q0_2), .second, .val (.long q0_3), .second, .val (.long q0_4), .second, .val (.int p0_5), .val (.long x2), .second, .val (.long x4), .second, .val (.long x6), .second, .val (.long x8), .second, .val (.long x10), .second, .val (.int (3 : Int32)), .val (.int x158), .val (.ref b160), .val (.long v178), .second]
    have G181 : ∀ t, Steps p.tables e below (T179.setTop (mkF m 153 A180 [(.int (1 : Int32)), (.int x158)])) t → Steps p.tables e below (T179.setTop (mkF m 150 A180 [])) t := by
      intro t k
      show Steps p.tables e below (T179.setTop (mkF m 150 A180 [])) _
      refine XS.iload X179.here hx rfl (hb hby at_150) rfl ?_
      refine XS.iconst X179.here hx rfl (hb hby at_152) ?_
      exact k
    obtain ⟨v184, hv184⟩ : ∃ z : Int64, z = (if (1 : Int32) < x158 then (v178 + x4) else v178) := ⟨_, rfl⟩
    obtain ⟨T185, Lo185, X185, N185, e185, G185⟩ := own_join X179 N179 (h := T169.heap) (mkF m 153 A180 [(.int (1 : Int32)), (.int x158)]) (mkF m 163 #[.val (.long q0_0), .second, .val (.long q0_1), .second, .val (.long q0_2), .second, .val (.long q0_3), .second, .val (.long q0_4), .second, .val (.int p0_5), .val (.long x2), .second, .val (.long x4), .second, .val (.long x6), .second, .val (.long x8), .second, .val (.long x10), .second, .val (.int (3 : Int32)), .val (.int x158), .val (.ref b160), .val (.long v184), .second] []) (by
      by_cases h153_182 : (1 : Int32) < x158
      · let A183 : Array Slot := #[.val (.long q0_0), .second, .val (.long q0_1), .second, .val (.long q0_2), .second, .val (.long q0_3), .second, .val (.long q0_4), .second, .val (.int p0_5), .val (.long x2), .second, .val (.long x4), .second, .val (.long x6), .second, .val (.long x8), .second, .val (.long x10), .second, .val (.int (3 : Int32)), .val (.int x158), .val (.ref b160), .val (.long (v178 + x4)), .second]
        refine ⟨T179, _, X179, N179, e179, fun t k => ?_⟩
        rw [show v184 = (v178 + x4) from hv184.trans (if_pos h153_182)] at k
        show Steps p.tables e below (T179.setTop (mkF m 153 A180 [(.int (1 : Int32)), (.int x158)])) _
        refine XS.icmpNo X179.here hx rfl (hb hby at_153) rfl (tlt h153_182).2.2.2 ?_
        refine XS.lload X179.here hx rfl (hb hby at_156) rfl ?_
        refine XS.lload X179.here hx rfl (hb hby at_158) rfl ?_
        show Steps p.tables e below (T179.setTop (mkF m 160 A180 [(.long x4), (.long v178)])) _
        refine XS.ladd X179.here hx rfl (hb hby at_160) rfl ?_
        refine XS.lstore X179.here hx rfl (hb hby at_161) rfl (l' := A183) rfl ?_
        exact k
      · refine ⟨T179, _, X179, N179, e179, fun t k => ?_⟩
        rw [show v184 = v178 from hv184.trans (if_neg h153_182)] at k
        show Steps p.tables e below (T179.setTop (mkF m 153 A180 [(.int (1 : Int32)), (.int x158)])) _
        refine XS.icmpYes X179.here hx rfl (pc0 := 153) (pc' := 163) rfl (hb hby at_153) rfl (flt h153_182).2.2.2 (by decide) (by decide) ?_
        exact k)
    let A186 : Array Slot := #[.val (.long q0_0), .second, .val (.long q0_1), .second, .val (.long q0_2), .second, .val (.long q0_3), .second, .val (.long q0_4), .second, .val (.int p0_5), .val (.long x2), .second, .val (.long x4), .second, .val (.long x6), .second, .val (.long x8), .second, .val (.long x10), .second, .val (.int (3 : Int32)), .val (.int x158), .val (.ref b160), .val (.long v184), .second]
    have G187 : ∀ t, Steps p.tables e below (T185.setTop (mkF m 166 A186 [(.int (2 : Int32)), (.int x158)])) t → Steps p.tables e below (T185.setTop (mkF m 163 A186 [])) t := by
      intro t k
      show Steps p.tables e below (T185.setTop (mkF m 163 A186 [])) _
      refine XS.iload X185.here hx rfl (hb hby at_163) rfl ?_
      refine XS.iconst X185.here hx rfl (hb hby at_165) ?_
      exact k
    obtain ⟨v190, hv190⟩ : ∃ z : Int64, z = (if (2 : Int32) < x158 then (v184 + x6) else v184) := ⟨_, rfl⟩
    obtain ⟨T191, Lo191, X191, N191, e191, G191⟩ := own_join X185 N185 (h := T169.heap) (mkF m 166 A186 [(.int (2 : Int32)), (.int x158)]) (mkF m 176 #[.val (.long q0_0), .second, .val (.long q0_1), .second, .val (.long q0_2), .second, .val (.long q0_3), .second, .val (.long q0_4), .second, .val (.int p0_5), .val (.long x2), .second, .val (.long x4), .second, .val (.long x6), .second, .val (.long x8), .second, .val (.long x10), .second, .val (.int (3 : Int32)), .val (.int x158), .val (.ref b160), .val (.long v190), .second] []) (by
      by_cases h166_188 : (2 : Int32) < x158
      · let A189 : Array Slot := #[.val (.long q0_0), .second, .val (.long q0_1), .second, .val (.long q0_2), .second, .val (.long q0_3), .second, .val (.long q0_4), .second, .val (.int p0_5), .val (.long x2), .second, .val (.long x4), .second, .val (.long x6), .second, .val (.long x8), .second, .val (.long x10), .second, .val (.int (3 : Int32)), .val (.int x158), .val (.ref b160), .val (.long (v184 + x6)), .second]
        refine ⟨T185, _, X185, N185, e185, fun t k => ?_⟩
        rw [show v190 = (v184 + x6) from hv190.trans (if_pos h166_188)] at k
        show Steps p.tables e below (T185.setTop (mkF m 166 A186 [(.int (2 : Int32)), (.int x158)])) _
        refine XS.icmpNo X185.here hx rfl (hb hby at_166) rfl (tlt h166_188).2.2.2 ?_
        refine XS.lload X185.here hx rfl (hb hby at_169) rfl ?_
        refine XS.lload X185.here hx rfl (hb hby at_171) rfl ?_
        show Steps p.tables e below (T185.setTop (mkF m 173 A186 [(.long x6), (.long v184)])) _
        refine XS.ladd X185.here hx rfl (hb hby at_173) rfl ?_
        refine XS.lstore X185.here hx rfl (hb hby at_174) rfl (l' := A189) rfl ?_
        exact k
      · refine ⟨T185, _, X185, N185, e185, fun t k => ?_⟩
        rw [show v190 = v184 from hv190.trans (if_neg h166_188)] at k
        show Steps p.tables e below (T185.setTop (mkF m 166 A186 [(.int (2 : Int32)), (.int x158)])) _
        refine XS.icmpYes X185.here hx rfl (pc0 := 166) (pc' := 176) rfl (hb hby at_166) rfl (flt h166_188).2.2.2 (by decide) (by decide) ?_
        exact k)
    let A192 : Array Slot := #[.val (.long q0_0), .second, .val (.long q0_1), .second, .val (.long q0_2), .second, .val (.long q0_3), .second, .val (.long q0_4), .second, .val (.int p0_5), .val (.long x2), .second, .val (.long x4), .second, .val (.long x6), .second, .val (.long x8), .second, .val (.long x10), .second, .val (.int (3 : Int32)), .val (.int x158), .val (.ref b160), .val (.long v190), .second]
    have G193 : ∀ t, Steps p.tables e below (T191.setTop (mkF m 179 A192 [(.int (3 : Int32)), (.int x158)])) t → Steps p.tables e below (T191.setTop (mkF m 176 A192 [])) t := by
      intro t k
      show Steps p.tables e below (T191.setTop (mkF m 176 A192 [])) _
      refine XS.iload X191.here hx rfl (hb hby at_176) rfl ?_
      refine XS.iconst X191.here hx rfl (hb hby at_178) ?_
      exact k
    obtain ⟨v196, hv196⟩ : ∃ z : Int64, z = (if (3 : Int32) < x158 then (v190 + x8) else v190) := ⟨_, rfl⟩
    obtain ⟨T197, Lo197, X197, N197, e197, G197⟩ := own_join X191 N191 (h := T169.heap) (mkF m 179 A192 [(.int (3 : Int32)), (.int x158)]) (mkF m 189 #[.val (.long q0_0), .second, .val (.long q0_1), .second, .val (.long q0_2), .second, .val (.long q0_3), .second, .val (.long q0_4), .second, .val (.int p0_5), .val (.long x2), .second, .val (.long x4), .second, .val (.long x6), .second, .val (.long x8), .second, .val (.long x10), .second, .val (.int (3 : Int32)), .val (.int x158), .val (.ref b160), .val (.long v196), .second] []) (by
      by_cases h179_194 : (3 : Int32) < x158
      · let A195 : Array Slot := #[.val (.long q0_0), .second, .val (.long q0_1), .second, .val (.long q0_2), .second, .val (.long q0_3), .second, .val (.long q0_4), .second, .val (.int p0_5), .val (.long x2), .second, .val (.long x4), .second, .val (.long x6), .second, .val (.long x8), .second, .val (.long x10), .second, .val (.int (3 : Int32)), .val (.int x158), .val (.ref b160), .val (.long (v190 + x8)), .second]
        refine ⟨T191, _, X191, N191, e191, fun t k => ?_⟩
        rw [show v196 = (v190 + x8) from hv196.trans (if_pos h179_194)] at k
        show Steps p.tables e below (T191.setTop (mkF m 179 A192 [(.int (3 : Int32)), (.int x158)])) _
        refine XS.icmpNo X191.here hx rfl (hb hby at_179) rfl (tlt h179_194).2.2.2 ?_
        refine XS.lload X191.here hx rfl (hb hby at_182) rfl ?_
        refine XS.lload X191.here hx rfl (hb hby at_184) rfl ?_
        show Steps p.tables e below (T191.setTop (mkF m 186 A192 [(.long x8), (.long v190)])) _
        refine XS.ladd X191.here hx rfl (hb hby at_186) rfl ?_
        refine XS.lstore X191.here hx rfl (hb hby at_187) rfl (l' := A195) rfl ?_
        exact k
      · refine ⟨T191, _, X191, N191, e191, fun t k => ?_⟩
        rw [show v196 = v190 from hv196.trans (if_neg h179_194)] at k
        show Steps p.tables e below (T191.setTop (mkF m 179 A192 [(.int (3 : Int32)), (.int x158)])) _
        refine XS.icmpYes X191.here hx rfl (pc0 := 179) (pc' := 189) rfl (hb hby at_179) rfl (flt h179_194).2.2.2 (by decide) (by decide) ?_
        exact k)
    let A198 : Array Slot := #[.val (.long q0_0), .second, .val (.long q0_1), .second, .val (.long q0_2), .second, .val (.long q0_3), .second, .val (.long q0_4), .second, .val (.int p0_5), .val (.long x2), .second, .val (.long x4), .second, .val (.long x6), .second, .val (.long x8), .second, .val (.long x10), .second, .val (.int (3 : Int32)), .val (.int x158), .val (.ref b160), .val (.long v196), .second]
    have G199 : ∀ t, Steps p.tables e below (T197.setTop (mkF m 192 A198 [(.int (4 : Int32)), (.int x158)])) t → Steps p.tables e below (T197.setTop (mkF m 189 A198 [])) t := by
      intro t k
      show Steps p.tables e below (T197.setTop (mkF m 189 A198 [])) _
      refine XS.iload X197.here hx rfl (hb hby at_189) rfl ?_
      refine XS.iconst X197.here hx rfl (hb hby at_191) ?_
      exact k
    obtain ⟨v202, hv202⟩ : ∃ z : Int64, z = (if (4 : Int32) < x158 then (v196 + x10) else v196) := ⟨_, rfl⟩
    obtain ⟨T203, Lo203, X203, N203, e203, G203⟩ := own_join X197 N197 (h := T169.heap) (mkF m 192 A198 [(.int (4 : Int32)), (.int x158)]) (mkF m 202 #[.val (.long q0_0), .second, .val (.long q0_1), .second, .val (.long q0_2), .second, .val (.long q0_3), .second, .val (.long q0_4), .second, .val (.int p0_5), .val (.long x2), .second, .val (.long x4), .second, .val (.long x6), .second, .val (.long x8), .second, .val (.long x10), .second, .val (.int (3 : Int32)), .val (.int x158), .val (.ref b160), .val (.long v202), .second] []) (by
      by_cases h192_200 : (4 : Int32) < x158
      · let A201 : Array Slot := #[.val (.long q0_0), .second, .val (.long q0_1), .second, .val (.long q0_2), .second, .val (.long q0_3), .second, .val (.long q0_4), .second, .val (.int p0_5), .val (.long x2), .second, .val (.long x4), .second, .val (.long x6), .second, .val (.long x8), .second, .val (.long x10), .second, .val (.int (3 : Int32)), .val (.int x158), .val (.ref b160), .val (.long (v196 + x10)), .second]
        refine ⟨T197, _, X197, N197, e197, fun t k => ?_⟩
        rw [show v202 = (v196 + x10) from hv202.trans (if_pos h192_200)] at k
        show Steps p.tables e below (T197.setTop (mkF m 192 A198 [(.int (4 : Int32)), (.int x158)])) _
        refine XS.icmpNo X197.here hx rfl (hb hby at_192) rfl (tlt h192_200).2.2.2 ?_
        refine XS.lload X197.here hx rfl (hb hby at_195) rfl ?_
        refine XS.lload X197.here hx rfl (hb hby at_197) rfl ?_
        show Steps p.tables e below (T197.setTop (mkF m 199 A198 [(.long x10), (.long v196)])) _
        refine XS.ladd X197.here hx rfl (hb hby at_199) rfl ?_
        refine XS.lstore X197.here hx rfl (hb hby at_200) rfl (l' := A201) rfl ?_
        exact k
      · refine ⟨T197, _, X197, N197, e197, fun t k => ?_⟩
        rw [show v202 = v196 from hv202.trans (if_neg h192_200)] at k
        show Steps p.tables e below (T197.setTop (mkF m 192 A198 [(.int (4 : Int32)), (.int x158)])) _
        refine XS.icmpYes X197.here hx rfl (pc0 := 192) (pc' := 202) rfl (hb hby at_192) rfl (flt h192_200).2.2.2 (by decide) (by decide) ?_
        exact k)
    let A204 : Array Slot := #[.val (.long q0_0), .second, .val (.long q0_1), .second, .val (.long q0_2), .second, .val (.long q0_3), .second, .val (.long q0_4), .second, .val (.int p0_5), .val (.long x2), .second, .val (.long x4), .second, .val (.long x6), .second, .val (.long x8), .second, .val (.long x10), .second, .val (.int (3 : Int32)), .val (.int x158), .val (.ref b160), .val (.long v202), .second]
    obtain ⟨cq205, kq205, q205a, q205b, q205c⟩ := isOf hZ e203 P169_1
    obtain ⟨_, _, ⟨T205, L205, k205, n205⟩, -, X205, ⟨Lc205, hQ205, l205, y205, z205⟩, st205⟩ := X203.virtualBack hx (y := (⟨"com/example/motley/motley/CountTree", "sumBefore", "(I)J"⟩ : MethodName)) (z := (⟨"com/example/motley/motley/CountTree", "sumBefore", "(I)J"⟩ : MethodName)) hown (mvT hZ (ow52 hw)) (mvT hZ (ow48 hw)) (notFace_of_selects (args := #[]) (mvT hZ (ow50 hw))) (mvT hZ (ow50 hw)) (mvT hZ (ow49 hw)) (by decide) (backOf (W := 0) (rm9_6 l Z a0 hw [] b160 x158 bx3_0_169 (y167 + x6) kx3_0_169 y164 y168 y172 y173 T169.heap n0 Z169 (own_p4 ((p0_5.toUInt32 >>> ((3 : Int32) &&& 31).toUInt32).toInt32) x158 hx158) P169_1 P169_2 P169_3 P169_4 P169_5) hZ (ow51 hw) (ow3 hw) (by decide) (by decide)) q205a q205c (g := (mkF m 206 A204 [(.int x158), (.ref b160)])) rfl (by rw [hml]; rfl) (Steps.refl _) (argsL := [(.int x158)]) (rest := []) (lenOf pd__I_J rfl) rfl (by show 2 * 0 + _ ≤ _; exact Nat.le_of_eq rfl) (hb hby at_206) (fun _ _ => ⟨rfl, e203, (by decide : 5 + 0 ≤ _), (by decide : 10 + 0 ≤ _)⟩)
    dsimp only [Pt.U, Pt.locs, Pt.cells, Pt.slots] at X205 l205 y205 z205 st205 hQ205
    subst l205 y205 z205
    obtain ⟨rfl, Nq205, e205⟩ := hQ205
    have N205 := Fr.app N203 Nq205
    obtain ⟨x206, hx206⟩ : ∃ z : Int64, z = (if x158 = (0 : Int32) then (0 : Int64) else (if x158 = (1 : Int32) then ((0 : Int64) + y164) else (if x158 = (2 : Int32) then ((0 : Int64) + y168) else (((0 : Int64) + y172) + y168)))) := ⟨_, rfl⟩
    have G207 : ∀ t, Steps p.tables e below (T205.setTop (mkF m 212 A204 [(.int (lcmpW x206 v202))])) t → Steps p.tables e below (T203.setTop (mkF m 202 A204 [])) t := by
      intro t k
      show Steps p.tables e below (T203.setTop (mkF m 202 A204 [])) _
      refine XS.aload X203.here hx rfl (hb hby at_202) rfl rfl ?_
      refine XS.iload X203.here hx rfl (hb hby at_204) rfl ?_
      refine st205.trans ?_
      show Steps p.tables e below (T205.setTop (mkF m 209 #[.val (.long q0_0), .second, .val (.long q0_1), .second, .val (.long q0_2), .second, .val (.long q0_3), .second, .val (.long q0_4), .second, .val (.int p0_5), .val (.long x2), .second, .val (.long x4), .second, .val (.long x6), .second, .val (.long x8), .second, .val (.long x10), .second, .val (.int (3 : Int32)), .val (.int x158), .val (.ref b160), .val (.long v202), .second] [(.long (if x158 = (0 : Int32) then (0 : Int64) else (if x158 = (1 : Int32) then ((0 : Int64) + y164) else (if x158 = (2 : Int32) then ((0 : Int64) + y168) else (((0 : Int64) + y172) + y168)))))])) _
      rw [← hx206]
      refine XS.lload X205.here hx rfl (hb hby at_209) rfl ?_
      refine XS.lcmp X205.here hx rfl (hb hby at_211) rfl ?_
      exact k
    obtain ⟨v209, hv209⟩ : ∃ z : Int32, z = (if x206 = v202 then (1 : Int32) else (0 : Int32)) := ⟨_, rfl⟩
    obtain ⟨T210, Lo210, X210, N210, e210, G210⟩ := own_join X205 N205 (h := T169.heap) (mkF m 212 A204 [(.int (lcmpW x206 v202))]) (mkF m 220 A204 [(.int v209)]) (by
      by_cases h212_208 : x206 = v202
      · refine ⟨T205, _, X205, N205, e205, fun t k => ?_⟩
        rw [show v209 = (1 : Int32) from hv209.trans (if_pos h212_208)] at k
        show Steps p.tables e below (T205.setTop (mkF m 212 A204 [(.int (lcmpW x206 v202))])) _
        refine XS.ifNo X205.here hx rfl (hb hby at_212) rfl ((if0 _ _).trans (teq ((lw_eq _ _).mpr h212_208)).2) ?_
        refine XS.iconst X205.here hx rfl (hb hby at_215) ?_
        refine XS.goto X205.here hx rfl (pc0 := 216) (pc' := 220) rfl (hb hby at_216) (by decide) (by decide) ?_
        exact k
      · refine ⟨T205, _, X205, N205, e205, fun t k => ?_⟩
        rw [show v209 = (0 : Int32) from hv209.trans (if_neg h212_208)] at k
        show Steps p.tables e below (T205.setTop (mkF m 212 A204 [(.int (lcmpW x206 v202))])) _
        refine XS.ifYes X205.here hx rfl (pc0 := 212) (pc' := 219) rfl (hb hby at_212) rfl ((if0 _ _).trans (feq (fun q => h212_208 ((lw_eq _ _).mp q))).2) (by decide) (by decide) ?_
        refine XS.iconst X205.here hx rfl (hb hby at_219) ?_
        exact k)
    have fin : v209 = (1 : Int32) := by
      exact own_fin4 q0_0 q0_1 q0_2 q0_3 q0_4 p0_5 x2 hx2 x4 hx4 x6 hx6 x8 hx8 x10 hx10 x12 hx12 x158 hx158 y164 hy164 y167 hy167 y168 hy168 y172 hy172 y173 hy173 v178 hv178 v184 hv184 v190 hv190 v196 hv196 v202 hv202 x206 hx206 v209 hv209 hc18
    obtain ⟨fs, hr, hrun, hended, hW, hsame⟩ := X210.leave (v := some (.int (1 : Int32))) (fun h => by rw [Bd.returns] at h; cases h)
    refine ⟨_, _, pre0 _ ?_, hrun, hended, _, _, rfl, ?_, ⟨_, rfl⟩, hW, hsame.mono (by decide) (by decide)⟩
    · refine G14 _ ?_
      refine G175 _ ?_
      refine G179 _ ?_
      refine G181 _ ?_
      refine G185 _ ?_
      refine G187 _ ?_
      refine G191 _ ?_
      refine G193 _ ?_
      refine G197 _ ?_
      refine G199 _ ?_
      refine G203 _ ?_
      refine G207 _ ?_
      refine G210 _ ?_
      show Steps p.tables e below (T210.setTop (mkF m 220 A204 [(.int v209)])) _
      rw [fin]
      exact retN X210 hx (t := .boolean) Bd.returns (by simp) (hb hby at_220) hr
    · exact ⟨rfl, N210⟩
  · let A211 : Array Slot := #[.val (.long q0_0), .second, .val (.long q0_1), .second, .val (.long q0_2), .second, .val (.long q0_3), .second, .val (.long q0_4), .second, .val (.int p0_5), .val (.long x2), .second, .val (.long x4), .second, .val (.long x6), .second, .val (.long x8), .second, .val (.long x10), .second, .val (.int (4 : Int32)), .unset, .unset, .unset, .unset]
    have own_t19 : True := trivial
    obtain ⟨x212, hx212⟩ : ∃ z : Int32, z = ((((p0_5.toUInt32 >>> ((3 : Int32) &&& 31).toUInt32).toInt32) &&& (7 : Int32)) % (5 : Int32)) := ⟨_, rfl⟩
    let A213 : Array Slot := #[.val (.long q0_0), .second, .val (.long q0_1), .second, .val (.long q0_2), .second, .val (.long q0_3), .second, .val (.long q0_4), .second, .val (.int p0_5), .val (.long x2), .second, .val (.long x4), .second, .val (.long x6), .second, .val (.long x8), .second, .val (.long x10), .second, .val (.int (4 : Int32)), .val (.int x212), .unset, .unset, .unset]
    obtain ⟨T214, h214, X214, e214, E214, A214, D214, -, st214⟩ := newO X0 hx hZ hown (ow1 hw) (ow2 hw) (ow3 hw) e0 (g := (mkF m 62 A213 [])) rfl (hb hby at_62) (by decide) (by decide)
    obtain ⟨b214, g214⟩ : ∃ z, z = h0.size := ⟨_, rfl⟩
    rw [← g214] at A214 D214 st214
    have F_tree_b214 : Fld Z h214 b214 "com/example/motley/motley/CountTree" "tree" "[J" .null := D214 (Or.inl (ow12 hw)) (ty := (.array .long)) (by decide)
    have F_size_b214 : Fld Z h214 b214 "com/example/motley/motley/CountTree" "size" "I" (.int (0 : Int32)) := D214 (Or.inl (ow24 hw)) (ty := .int) (by decide)
    have F_total_b214 : Fld Z h214 b214 "com/example/motley/motley/CountTree" "total" "J" (.long (0 : Int64)) := D214 (Or.inl (ow46 hw)) (ty := .long) (by decide)
    have g_b214 : n0 ≤ b214 := Nat.le_trans Z0 (Nat.le_of_eq g214.symm)
    have sz_b214 : h0.size ≤ b214 := Nat.le_trans (Nat.le_refl _) (Nat.le_of_eq g214.symm)
    have K214 : Keep h0 h214 [] := (Keep.refl h0 []).ext E214
    have Z214 : n0 ≤ h214.size := Nat.le_trans Z0 K214.1
    obtain ⟨_, _, ⟨T215, L215, k215, n215⟩, -, X215, ⟨Lc215, hQ215, l215, y215, z215⟩, st215⟩ := X214.specialBack hx (y := (⟨"com/example/motley/motley/CountTree", "<init>", "()V"⟩ : MethodName)) rfl hown (mvT hZ (ow4 hw)) (mvT hZ (ow5 hw)) (mvT hZ (ow6 hw)) (by decide) (backOf (W := 1) (rm1_1 l Z a0 hw [] b214 h214 n0 Z214 A214 F_tree_b214 F_size_b214 F_total_b214 g_b214) hZ (ow6 hw) (ow3 hw) (by decide) (by decide)) (g := (mkF m 66 A213 [(.ref b214), (.ref b214)])) rfl (by rw [hml]; rfl) (Steps.refl _) (a := b214) (argsL := []) (rest := [(.ref b214)]) (lenOf pd___V rfl) rfl (by show 2 * 0 + _ ≤ _; exact Nat.le_of_eq rfl) (hb hby at_66) (fun _ _ => ⟨rfl, e214, (by decide : 1 + 1 ≤ _), (by decide : 3 + 0 ≤ _)⟩)
    dsimp only [Pt.U, Pt.locs, Pt.cells, Pt.slots] at X215 l215 y215 z215 st215 hQ215
    subst l215 y215 z215
    obtain ⟨bx1_0_215, kx1_0_215, rfl, Nq215, Kc215, P215_0, P215_1, P215_2, P215_3, P215_4, P215_5⟩ := hQ215
    have K215 : Keep h0 T215.heap [] := Keep.trans K214 Kc215 (allS (P := fun x => x ∈ ([] : List Addr) ∨ h0.size ≤ x) (Or.inr sz_b214) all0)
    have Z215 : n0 ≤ T215.heap.size := Nat.le_trans Z0 K215.1
    have g_bx1_0_215 : n0 ≤ bx1_0_215 := Nat.le_trans Z214 P215_0
    have sz_bx1_0_215 : h0.size ≤ bx1_0_215 := Nat.le_trans K214.1 P215_0
    have ne_b214_bx1_0_215 : b214 ≠ bx1_0_215 := Nat.ne_of_lt (Nat.lt_of_lt_of_le A214.lt P215_0)
    have N215 := Fr.app N0 Nq215
    let A216 : Array Slot := #[.val (.long q0_0), .second, .val (.long q0_1), .second, .val (.long q0_2), .second, .val (.long q0_3), .second, .val (.long q0_4), .second, .val (.int p0_5), .val (.long x2), .second, .val (.long x4), .second, .val (.long x6), .second, .val (.long x8), .second, .val (.long x10), .second, .val (.int (4 : Int32)), .val (.int x212), .val (.ref b214), .unset, .unset]
    obtain ⟨cq217, kq217, q217a, q217b, q217c⟩ := isOf hZ rfl P215_1
    obtain ⟨_, _, ⟨T217, L217, k217, n217⟩, -, X217, ⟨Lc217, hQ217, l217, y217, z217⟩, st217⟩ := X215.virtualBack hx (y := (⟨"com/example/motley/motley/CountTree", "append", "(J)V"⟩ : MethodName)) (z := (⟨"com/example/motley/motley/CountTree", "append", "(J)V"⟩ : MethodName)) hown (mvT hZ (ow13 hw)) (mvT hZ (ow14 hw)) (notFace_of_selects (args := #[]) (mvT hZ (ow16 hw))) (mvT hZ (ow16 hw)) (mvT hZ (ow15 hw)) (by decide) (backOf (W := 0) (rm3_1 l Z a0 hw [] b214 x2 bx1_0_215 kx1_0_215 T215.heap n0 Z215 P215_1 P215_2 P215_3 P215_4 P215_5 g_b214) hZ (ow17 hw) (ow3 hw) (by decide) (by decide)) q217a q217c (g := (mkF m 80 A216 [(.long x2), (.ref b214)])) rfl (by rw [hml]; rfl) (Steps.refl _) (argsL := [(.long x2)]) (rest := []) (lenOf pd__J_V rfl) rfl (by show 2 * 0 + _ ≤ _; exact Nat.le_of_eq rfl) (hb hby at_80) (fun _ _ => ⟨rfl, rfl, (by decide : 2 + 1 ≤ _), (by decide : 3 + 1 ≤ _)⟩)
    dsimp only [Pt.U, Pt.locs, Pt.cells, Pt.slots] at X217 l217 y217 z217 st217 hQ217
    subst l217 y217 z217
    obtain ⟨bx3_0_217, kx3_0_217, rfl, Nq217, Kc217, P217_0, P217_1, P217_2, P217_3, P217_4, P217_5⟩ := hQ217
    have K217 : Keep h0 T217.heap [] := Keep.trans K215 Kc217 (allS (P := fun x => x ∈ ([] : List Addr) ∨ h0.size ≤ x) (Or.inr sz_b214) all0)
    have Z217 : n0 ≤ T217.heap.size := Nat.le_trans Z0 K217.1
    have g_bx3_0_217 : n0 ≤ bx3_0_217 := Nat.le_trans Z215 P217_0
    have sz_bx3_0_217 : h0.size ≤ bx3_0_217 := Nat.le_trans K215.1 P217_0
    have ne_b214_bx3_0_217 : b214 ≠ bx3_0_217 := Nat.ne_of_lt (Nat.lt_of_lt_of_le P215_1.lt P217_0)
    have ne_bx1_0_215_bx3_0_217 : bx1_0_215 ≠ bx3_0_217 := Nat.ne_of_lt (Nat.lt_of_lt_of_le P215_5.lt P217_0)
    obtain ⟨y218, hy218⟩ : ∃ z : Int64, z = ((0 : Int64) + x2) := ⟨_, rfl⟩
    rw [← hy218] at P217_5
    have N217 := Fr.app N215 Nq217
    have f220 := (P215_5.keep Kc217 (ninS (Ne.symm ne_b214_bx1_0_215) nin0))
    obtain ⟨cq219, kq219, q219a, q219b, q219c⟩ := isOf hZ rfl P217_1
    obtain ⟨_, _, ⟨T219, L219, k219, n219⟩, -, X219, ⟨Lc219, hQ219, l219, y219, z219⟩, st219⟩ := X217.virtualBack hx (y := (⟨"com/example/motley/motley/CountTree", "append", "(J)V"⟩ : MethodName)) (z := (⟨"com/example/motley/motley/CountTree", "append", "(J)V"⟩ : MethodName)) hown (mvT hZ (ow13 hw)) (mvT hZ (ow14 hw)) (notFace_of_selects (args := #[]) (mvT hZ (ow16 hw))) (mvT hZ (ow16 hw)) (mvT hZ (ow15 hw)) (by decide) (backOf (W := 0) (rm3_2 l Z a0 hw [] b214 x4 bx3_0_217 ((0 : Int64) + x2) kx3_0_217 y218 T217.heap n0 Z217 P217_1 P217_2 P217_3 P217_4 P217_5 g_b214) hZ (ow17 hw) (ow3 hw) (by decide) (by decide)) q219a q219c (g := (mkF m 93 A216 [(.long x4), (.ref b214)])) rfl (by rw [hml]; rfl) (Steps.refl _) (argsL := [(.long x4)]) (rest := []) (lenOf pd__J_V rfl) rfl (by show 2 * 0 + _ ≤ _; exact Nat.le_of_eq rfl) (hb hby at_93) (fun _ _ => ⟨rfl, rfl, (by decide : 3 + 1 ≤ _), (by decide : 4 + 2 ≤ _)⟩)
    dsimp only [Pt.U, Pt.locs, Pt.cells, Pt.slots] at X219 l219 y219 z219 st219 hQ219
    subst l219 y219 z219
    obtain ⟨bx3_0_219, kx3_0_219, rfl, Nq219, Kc219, P219_0, P219_1, P219_2, P219_3, P219_4, P219_5⟩ := hQ219
    have K219 : Keep h0 T219.heap [] := Keep.trans K217 Kc219 (allS (P := fun x => x ∈ ([] : List Addr) ∨ h0.size ≤ x) (Or.inr sz_b214) all0)
    have Z219 : n0 ≤ T219.heap.size := Nat.le_trans Z0 K219.1
    have g_bx3_0_219 : n0 ≤ bx3_0_219 := Nat.le_trans Z217 P219_0
    have sz_bx3_0_219 : h0.size ≤ bx3_0_219 := Nat.le_trans K217.1 P219_0
    have ne_b214_bx3_0_219 : b214 ≠ bx3_0_219 := Nat.ne_of_lt (Nat.lt_of_lt_of_le P217_1.lt P219_0)
    have ne_bx1_0_215_bx3_0_219 : bx1_0_215 ≠ bx3_0_219 := Nat.ne_of_lt (Nat.lt_of_lt_of_le f220.lt P219_0)
    have ne_bx3_0_217_bx3_0_219 : bx3_0_217 ≠ bx3_0_219 := Nat.ne_of_lt (Nat.lt_of_lt_of_le P217_5.lt P219_0)
    obtain ⟨y221, hy221⟩ : ∃ z : Int64, z = (((0 : Int64) + x2) + x4) := ⟨_, rfl⟩
    rw [← hy221] at P219_4
    obtain ⟨y222, hy222⟩ : ∃ z : Int64, z = ((((0 : Int64) + x2) - (0 : Int64)) + x4) := ⟨_, rfl⟩
    rw [← hy222] at P219_5
    have N219 := Fr.app N217 Nq219
    have f224 := (f220.keep Kc219 (ninS (Ne.symm ne_b214_bx1_0_215) nin0))
    have f225 := (P217_5.keep Kc219 (ninS (Ne.symm ne_b214_bx3_0_217) nin0))
    obtain ⟨cq223, kq223, q223a, q223b, q223c⟩ := isOf hZ rfl P219_1
    obtain ⟨_, _, ⟨T223, L223, k223, n223⟩, -, X223, ⟨Lc223, hQ223, l223, y223, z223⟩, st223⟩ := X219.virtualBack hx (y := (⟨"com/example/motley/motley/CountTree", "append", "(J)V"⟩ : MethodName)) (z := (⟨"com/example/motley/motley/CountTree", "append", "(J)V"⟩ : MethodName)) hown (mvT hZ (ow13 hw)) (mvT hZ (ow14 hw)) (notFace_of_selects (args := #[]) (mvT hZ (ow16 hw))) (mvT hZ (ow16 hw)) (mvT hZ (ow15 hw)) (by decide) (backOf (W := 0) (rm3_3 l Z a0 hw [] b214 x6 bx3_0_219 y221 kx3_0_219 y218 y222 T219.heap n0 Z219 P219_1 P219_2 P219_3 P219_4 P219_5 g_b214) hZ (ow17 hw) (ow3 hw) (by decide) (by decide)) q223a q223c (g := (mkF m 106 A216 [(.long x6), (.ref b214)])) rfl (by rw [hml]; rfl) (Steps.refl _) (argsL := [(.long x6)]) (rest := []) (lenOf pd__J_V rfl) rfl (by show 2 * 0 + _ ≤ _; exact Nat.le_of_eq rfl) (hb hby at_106) (fun _ _ => ⟨rfl, rfl, (by decide : 4 + 1 ≤ _), (by decide : 6 + 4 ≤ _)⟩)
    dsimp only [Pt.U, Pt.locs, Pt.cells, Pt.slots] at X223 l223 y223 z223 st223 hQ223
    subst l223 y223 z223
    obtain ⟨bx3_0_223, kx3_0_223, rfl, Nq223, Kc223, P223_0, P223_1, P223_2, P223_3, P223_4, P223_5⟩ := hQ223
    have K223 : Keep h0 T223.heap [] := Keep.trans K219 Kc223 (allS (P := fun x => x ∈ ([] : List Addr) ∨ h0.size ≤ x) (Or.inr sz_b214) all0)
    have Z223 : n0 ≤ T223.heap.size := Nat.le_trans Z0 K223.1
    have g_bx3_0_223 : n0 ≤ bx3_0_223 := Nat.le_trans Z219 P223_0
    have sz_bx3_0_223 : h0.size ≤ bx3_0_223 := Nat.le_trans K219.1 P223_0
    have ne_b214_bx3_0_223 : b214 ≠ bx3_0_223 := Nat.ne_of_lt (Nat.lt_of_lt_of_le P219_1.lt P223_0)
    have ne_bx1_0_215_bx3_0_223 : bx1_0_215 ≠ bx3_0_223 := Nat.ne_of_lt (Nat.lt_of_lt_of_le f224.lt P223_0)
    have ne_bx3_0_217_bx3_0_223 : bx3_0_217 ≠ bx3_0_223 := Nat.ne_of_lt (Nat.lt_of_lt_of_le f225.lt P223_0)
    have ne_bx3_0_219_bx3_0_223 : bx3_0_219 ≠ bx3_0_223 := Nat.ne_of_lt (Nat.lt_of_lt_of_le P219_5.lt P223_0)
    obtain ⟨y226, hy226⟩ : ∃ z : Int64, z = ((0 : Int64) + x6) := ⟨_, rfl⟩
    rw [← hy226] at P223_5
    obtain ⟨y227, hy227⟩ : ∃ z : Int64, z = ((y221 - (0 : Int64)) + x6) := ⟨_, rfl⟩
    rw [← hy227] at P223_5
    have N223 := Fr.app N219 Nq223
    obtain ⟨cq228, kq228, q228a, q228b, q228c⟩ := isOf hZ rfl P223_1
    obtain ⟨_, _, ⟨T228, L228, k228, n228⟩, -, X228, ⟨Lc228, hQ228, l228, y228, z228⟩, st228⟩ := X223.virtualBack hx (y := (⟨"com/example/motley/motley/CountTree", "append", "(J)V"⟩ : MethodName)) (z := (⟨"com/example/motley/motley/CountTree", "append", "(J)V"⟩ : MethodName)) hown (mvT hZ (ow13 hw)) (mvT hZ (ow14 hw)) (notFace_of_selects (args := #[]) (mvT hZ (ow16 hw))) (mvT hZ (ow16 hw)) (mvT hZ (ow15 hw)) (by decide) (backOf (W := 0) (rm3_4 l Z a0 hw [] b214 x8 bx3_0_223 (y221 + x6) kx3_0_223 y218 y222 y226 y227 T223.heap n0 Z223 P223_1 P223_2 P223_3 P223_4 P223_5 g_b214 (Ne.symm ne_b214_bx3_0_223) g_bx3_0_223) hZ (ow17 hw) (ow3 hw) (by decide) (by decide)) q228a q228c (g := (mkF m 119 A216 [(.long x8), (.ref b214)])) rfl (by rw [hml]; rfl) (Steps.refl _) (argsL := [(.long x8)]) (rest := []) (lenOf pd__J_V rfl) rfl (by show 2 * 0 + _ ≤ _; exact Nat.le_of_eq rfl) (hb hby at_119) (fun _ _ => ⟨rfl, rfl, (by decide : 5 + 0 ≤ _), (by decide : 10 + 0 ≤ _)⟩)
    dsimp only [Pt.U, Pt.locs, Pt.cells, Pt.slots] at X228 l228 y228 z228 st228 hQ228
    subst l228 y228 z228
    obtain ⟨rfl, Nq228, Kc228, P228_0, P228_1, P228_2, P228_3, P228_4⟩ := hQ228
    have K228 : Keep h0 T228.heap [] := Keep.trans K223 Kc228 (allS (P := fun x => x ∈ ([] : List Addr) ∨ h0.size ≤ x) (Or.inr sz_b214) (allS (P := fun x => x ∈ ([] : List Addr) ∨ h0.size ≤ x) (Or.inr sz_bx3_0_223) all0))
    have Z228 : n0 ≤ T228.heap.size := Nat.le_trans Z0 K228.1
    obtain ⟨y229, hy229⟩ : ∃ z : Int64, z = (y227 + x8) := ⟨_, rfl⟩
    rw [← hy229] at P228_4
    have N228 := Fr.app N223 Nq228
    let A230 : Array Slot := #[.val (.long q0_0), .second, .val (.long q0_1), .second, .val (.long q0_2), .second, .val (.long q0_3), .second, .val (.long q0_4), .second, .val (.int p0_5), .val (.long x2), .second, .val (.long x4), .second, .val (.long x6), .second, .val (.long x8), .second, .val (.long x10), .second, .val (.int (4 : Int32)), .val (.int x212), .val (.ref b214), .val (.long (0 : Int64)), .second]
    have G231 : ∀ t, Steps p.tables e below (T228.setTop (mkF m 140 A230 [(.int x212)])) t → Steps p.tables e below (s₁.setTop (mkF m 48 A13 [])) t := by
      intro t k
      show Steps p.tables e below (s₁.setTop (mkF m 48 #[.val (.long q0_0), .second, .val (.long q0_1), .second, .val (.long q0_2), .second, .val (.long q0_3), .second, .val (.long q0_4), .second, .val (.int p0_5), .val (.long x2), .second, .val (.long x4), .second, .val (.long x6), .second, .val (.long x8), .second, .val (.long x10), .second, .val (.int x12), .unset, .unset, .unset, .unset] [])) _
      rw [hc19]
      show Steps p.tables e below (s₁.setTop (mkF m 48 A211 [])) _
      refine XS.iload X0.here hx rfl (hb hby at_48) rfl ?_
      refine XS.iconst X0.here hx rfl (hb hby at_50) ?_
      refine XS.iushr X0.here hx rfl (hb hby at_51) rfl ?_
      show Steps p.tables e below (s₁.setTop (mkF m 52 A211 [(.int ((p0_5.toUInt32 >>> ((3 : Int32) &&& 31).toUInt32).toInt32))])) _
      refine XS.bipush X0.here hx rfl (hb hby at_52) ?_
      refine XS.iand X0.here hx rfl (hb hby at_54) rfl ?_
      refine XS.iload X0.here hx rfl (hb hby at_55) rfl ?_
      show Steps p.tables e below (s₁.setTop (mkF m 57 A211 [(.int (4 : Int32)), (.int (((p0_5.toUInt32 >>> ((3 : Int32) &&& 31).toUInt32).toInt32) &&& (7 : Int32)))])) _
      refine XS.iconst X0.here hx rfl (hb hby at_57) ?_
      refine XS.iadd X0.here hx rfl (hb hby at_58) rfl ?_
      refine iremM X0 hx rfl (hb hby at_59) rfl (by decide : ¬ ((5 : Int32) = (0 : Int32))) ?_
      show Steps p.tables e below (s₁.setTop (mkF m 60 A211 [(.int ((((p0_5.toUInt32 >>> ((3 : Int32) &&& 31).toUInt32).toInt32) &&& (7 : Int32)) % (5 : Int32)))])) _
      refine XS.istore X0.here hx rfl (hb hby at_60) rfl (l' := #[.val (.long q0_0), .second, .val (.long q0_1), .second, .val (.long q0_2), .second, .val (.long q0_3), .second, .val (.long q0_4), .second, .val (.int p0_5), .val (.long x2), .second, .val (.long x4), .second, .val (.long x6), .second, .val (.long x8), .second, .val (.long x10), .second, .val (.int (4 : Int32)), .val (.int ((((p0_5.toUInt32 >>> ((3 : Int32) &&& 31).toUInt32).toInt32) &&& (7 : Int32)) % (5 : Int32))), .unset, .unset, .unset]) rfl ?_
      show Steps p.tables e below (s₁.setTop (mkF m 62 #[.val (.long q0_0), .second, .val (.long q0_1), .second, .val (.long q0_2), .second, .val (.long q0_3), .second, .val (.long q0_4), .second, .val (.int p0_5), .val (.long x2), .second, .val (.long x4), .second, .val (.long x6), .second, .val (.long x8), .second, .val (.long x10), .second, .val (.int (4 : Int32)), .val (.int ((((p0_5.toUInt32 >>> ((3 : Int32) &&& 31).toUInt32).toInt32) &&& (7 : Int32)) % (5 : Int32))), .unset, .unset, .unset] [])) _
      rw [← hx212]
      refine st214 _ ?_
      refine XS.dup X214.here hx rfl (hb hby at_65) rfl rfl ?_
      show Steps p.tables e below (T214.setTop (mkF m 66 A213 [(.ref b214), (.ref b214)])) _
      refine st215.trans ?_
      refine XS.astore X215.here hx rfl (hb hby at_69) rfl rfl (l' := A216) rfl ?_
      refine XS.iload X215.here hx rfl (hb hby at_71) rfl ?_
      show Steps p.tables e below (T215.setTop (mkF m 73 A216 [(.int (4 : Int32))])) _
      refine XS.ifNo X215.here hx rfl (hb hby at_73) rfl ((if0 _ _).trans (tlt (by decide : (0 : Int32) < (4 : Int32))).2.2.2) ?_
      refine XS.aload X215.here hx rfl (hb hby at_76) rfl rfl ?_
      refine XS.lload X215.here hx rfl (hb hby at_78) rfl ?_
      show Steps p.tables e below (T215.setTop (mkF m 80 A216 [(.long x2), (.ref b214)])) _
      refine st217.trans ?_
      refine XS.iload X217.here hx rfl (hb hby at_83) rfl ?_
      refine XS.iconst X217.here hx rfl (hb hby at_85) ?_
      show Steps p.tables e below (T217.setTop (mkF m 86 A216 [(.int (1 : Int32)), (.int (4 : Int32))])) _
      refine XS.icmpNo X217.here hx rfl (hb hby at_86) rfl (tlt (by decide : (1 : Int32) < (4 : Int32))).2.2.2 ?_
      refine XS.aload X217.here hx rfl (hb hby at_89) rfl rfl ?_
      refine XS.lload X217.here hx rfl (hb hby at_91) rfl ?_
      show Steps p.tables e below (T217.setTop (mkF m 93 A216 [(.long x4), (.ref b214)])) _
      refine st219.trans ?_
      refine XS.iload X219.here hx rfl (hb hby at_96) rfl ?_
      refine XS.iconst X219.here hx rfl (hb hby at_98) ?_
      show Steps p.tables e below (T219.setTop (mkF m 99 A216 [(.int (2 : Int32)), (.int (4 : Int32))])) _
      refine XS.icmpNo X219.here hx rfl (hb hby at_99) rfl (tlt (by decide : (2 : Int32) < (4 : Int32))).2.2.2 ?_
      refine XS.aload X219.here hx rfl (hb hby at_102) rfl rfl ?_
      refine XS.lload X219.here hx rfl (hb hby at_104) rfl ?_
      show Steps p.tables e below (T219.setTop (mkF m 106 A216 [(.long x6), (.ref b214)])) _
      refine st223.trans ?_
      refine XS.iload X223.here hx rfl (hb hby at_109) rfl ?_
      refine XS.iconst X223.here hx rfl (hb hby at_111) ?_
      show Steps p.tables e below (T223.setTop (mkF m 112 A216 [(.int (3 : Int32)), (.int (4 : Int32))])) _
      refine XS.icmpNo X223.here hx rfl (hb hby at_112) rfl (tlt (by decide : (3 : Int32) < (4 : Int32))).2.2.2 ?_
      refine XS.aload X223.here hx rfl (hb hby at_115) rfl rfl ?_
      refine XS.lload X223.here hx rfl (hb hby at_117) rfl ?_
      show Steps p.tables e below (T223.setTop (mkF m 119 A216 [(.long x8), (.ref b214)])) _
      refine st228.trans ?_
      refine XS.iload X228.here hx rfl (hb hby at_122) rfl ?_
      refine XS.iconst X228.here hx rfl (hb hby at_124) ?_
      show Steps p.tables e below (T228.setTop (mkF m 125 A216 [(.int (4 : Int32)), (.int (4 : Int32))])) _
      refine XS.icmpYes X228.here hx rfl (pc0 := 125) (pc' := 135) rfl (hb hby at_125) rfl (flt (by decide : ¬ ((4 : Int32) < (4 : Int32)))).2.2.2 (by decide) (by decide) ?_
      refine XS.lconst X228.here hx rfl (hb hby at_135) ?_
      refine XS.lstore X228.here hx rfl (hb hby at_136) rfl (l' := A230) rfl ?_
      show Steps p.tables e below (T228.setTop (mkF m 138 A230 [])) _
      refine XS.iload X228.here hx rfl (hb hby at_138) rfl ?_
      exact k
    obtain ⟨v234, hv234⟩ : ∃ z : Int64, z = (if (0 : Int32) < x212 then ((0 : Int64) + x2) else (0 : Int64)) := ⟨_, rfl⟩
    obtain ⟨T235, Lo235, X235, N235, e235, G235⟩ := own_join X228 N228 (h := T228.heap) (mkF m 140 A230 [(.int x212)]) (mkF m 150 #[.val (.long q0_0), .second, .val (.long q0_1), .second, .val (.long q0_2), .second, .val (.long q0_3), .second, .val (.long q0_4), .second, .val (.int p0_5), .val (.long x2), .second, .val (.long x4), .second, .val (.long x6), .second, .val (.long x8), .second, .val (.long x10), .second, .val (.int (4 : Int32)), .val (.int x212), .val (.ref b214), .val (.long v234), .second] []) (by
      by_cases h140_232 : (0 : Int32) < x212
      · let A233 : Array Slot := #[.val (.long q0_0), .second, .val (.long q0_1), .second, .val (.long q0_2), .second, .val (.long q0_3), .second, .val (.long q0_4), .second, .val (.int p0_5), .val (.long x2), .second, .val (.long x4), .second, .val (.long x6), .second, .val (.long x8), .second, .val (.long x10), .second, .val (.int (4 : Int32)), .val (.int x212), .val (.ref b214), .val (.long ((0 : Int64) + x2)), .second]
        refine ⟨T228, _, X228, N228, rfl, fun t k => ?_⟩
        rw [show v234 = ((0 : Int64) + x2) from hv234.trans (if_pos h140_232)] at k
        show Steps p.tables e below (T228.setTop (mkF m 140 A230 [(.int x212)])) _
        refine XS.ifNo X228.here hx rfl (hb hby at_140) rfl ((if0 _ _).trans (tlt h140_232).2.2.2) ?_
        refine XS.lload X228.here hx rfl (hb hby at_143) rfl ?_
        refine XS.lload X228.here hx rfl (hb hby at_145) rfl ?_
        show Steps p.tables e below (T228.setTop (mkF m 147 A230 [(.long x2), (.long (0 : Int64))])) _
        refine XS.ladd X228.here hx rfl (hb hby at_147) rfl ?_
        refine XS.lstore X228.here hx rfl (hb hby at_148) rfl (l' := A233) rfl ?_
        exact k
      · refine ⟨T228, _, X228, N228, rfl, fun t k => ?_⟩
        rw [show v234 = (0 : Int64) from hv234.trans (if_neg h140_232)] at k
        show Steps p.tables e below (T228.setTop (mkF m 140 A230 [(.int x212)])) _
        refine XS.ifYes X228.here hx rfl (pc0 := 140) (pc' := 150) rfl (hb hby at_140) rfl ((if0 _ _).trans (flt h140_232).2.2.2) (by decide) (by decide) ?_
        exact k)
    let A236 : Array Slot := #[.val (.long q0_0), .second, .val (.long q0_1), .second, .val (.long q0_2), .second, .val (.long q0_3), .second, .val (.long q0_4), .second, .val (.int p0_5), .val (.long x2), .second, .val (.long x4), .second, .val (.long x6), .second, .val (.long x8), .second, .val (.long x10), .second, .val (.int (4 : Int32)), .val (.int x212), .val (.ref b214), .val (.long v234), .second]
    have G237 : ∀ t, Steps p.tables e below (T235.setTop (mkF m 153 A236 [(.int (1 : Int32)), (.int x212)])) t → Steps p.tables e below (T235.setTop (mkF m 150 A236 [])) t := by
      intro t k
      show Steps p.tables e below (T235.setTop (mkF m 150 A236 [])) _
      refine XS.iload X235.here hx rfl (hb hby at_150) rfl ?_
      refine XS.iconst X235.here hx rfl (hb hby at_152) ?_
      exact k
    obtain ⟨v240, hv240⟩ : ∃ z : Int64, z = (if (1 : Int32) < x212 then (v234 + x4) else v234) := ⟨_, rfl⟩
    obtain ⟨T241, Lo241, X241, N241, e241, G241⟩ := own_join X235 N235 (h := T228.heap) (mkF m 153 A236 [(.int (1 : Int32)), (.int x212)]) (mkF m 163 #[.val (.long q0_0), .second, .val (.long q0_1), .second, .val (.long q0_2), .second, .val (.long q0_3), .second, .val (.long q0_4), .second, .val (.int p0_5), .val (.long x2), .second, .val (.long x4), .second, .val (.long x6), .second, .val (.long x8), .second, .val (.long x10), .second, .val (.int (4 : Int32)), .val (.int x212), .val (.ref b214), .val (.long v240), .second] []) (by
      by_cases h153_238 : (1 : Int32) < x212
      · let A239 : Array Slot := #[.val (.long q0_0), .second, .val (.long q0_1), .second, .val (.long q0_2), .second, .val (.long q0_3), .second, .val (.long q0_4), .second, .val (.int p0_5), .val (.long x2), .second, .val (.long x4), .second, .val (.long x6), .second, .val (.long x8), .second, .val (.long x10), .second, .val (.int (4 : Int32)), .val (.int x212), .val (.ref b214), .val (.long (v234 + x4)), .second]
        refine ⟨T235, _, X235, N235, e235, fun t k => ?_⟩
        rw [show v240 = (v234 + x4) from hv240.trans (if_pos h153_238)] at k
        show Steps p.tables e below (T235.setTop (mkF m 153 A236 [(.int (1 : Int32)), (.int x212)])) _
        refine XS.icmpNo X235.here hx rfl (hb hby at_153) rfl (tlt h153_238).2.2.2 ?_
        refine XS.lload X235.here hx rfl (hb hby at_156) rfl ?_
        refine XS.lload X235.here hx rfl (hb hby at_158) rfl ?_
        show Steps p.tables e below (T235.setTop (mkF m 160 A236 [(.long x4), (.long v234)])) _
        refine XS.ladd X235.here hx rfl (hb hby at_160) rfl ?_
        refine XS.lstore X235.here hx rfl (hb hby at_161) rfl (l' := A239) rfl ?_
        exact k
      · refine ⟨T235, _, X235, N235, e235, fun t k => ?_⟩
        rw [show v240 = v234 from hv240.trans (if_neg h153_238)] at k
        show Steps p.tables e below (T235.setTop (mkF m 153 A236 [(.int (1 : Int32)), (.int x212)])) _
        refine XS.icmpYes X235.here hx rfl (pc0 := 153) (pc' := 163) rfl (hb hby at_153) rfl (flt h153_238).2.2.2 (by decide) (by decide) ?_
        exact k)
    let A242 : Array Slot := #[.val (.long q0_0), .second, .val (.long q0_1), .second, .val (.long q0_2), .second, .val (.long q0_3), .second, .val (.long q0_4), .second, .val (.int p0_5), .val (.long x2), .second, .val (.long x4), .second, .val (.long x6), .second, .val (.long x8), .second, .val (.long x10), .second, .val (.int (4 : Int32)), .val (.int x212), .val (.ref b214), .val (.long v240), .second]
    have G243 : ∀ t, Steps p.tables e below (T241.setTop (mkF m 166 A242 [(.int (2 : Int32)), (.int x212)])) t → Steps p.tables e below (T241.setTop (mkF m 163 A242 [])) t := by
      intro t k
      show Steps p.tables e below (T241.setTop (mkF m 163 A242 [])) _
      refine XS.iload X241.here hx rfl (hb hby at_163) rfl ?_
      refine XS.iconst X241.here hx rfl (hb hby at_165) ?_
      exact k
    obtain ⟨v246, hv246⟩ : ∃ z : Int64, z = (if (2 : Int32) < x212 then (v240 + x6) else v240) := ⟨_, rfl⟩
    obtain ⟨T247, Lo247, X247, N247, e247, G247⟩ := own_join X241 N241 (h := T228.heap) (mkF m 166 A242 [(.int (2 : Int32)), (.int x212)]) (mkF m 176 #[.val (.long q0_0), .second, .val (.long q0_1), .second, .val (.long q0_2), .second, .val (.long q0_3), .second, .val (.long q0_4), .second, .val (.int p0_5), .val (.long x2), .second, .val (.long x4), .second, .val (.long x6), .second, .val (.long x8), .second, .val (.long x10), .second, .val (.int (4 : Int32)), .val (.int x212), .val (.ref b214), .val (.long v246), .second] []) (by
      by_cases h166_244 : (2 : Int32) < x212
      · let A245 : Array Slot := #[.val (.long q0_0), .second, .val (.long q0_1), .second, .val (.long q0_2), .second, .val (.long q0_3), .second, .val (.long q0_4), .second, .val (.int p0_5), .val (.long x2), .second, .val (.long x4), .second, .val (.long x6), .second, .val (.long x8), .second, .val (.long x10), .second, .val (.int (4 : Int32)), .val (.int x212), .val (.ref b214), .val (.long (v240 + x6)), .second]
        refine ⟨T241, _, X241, N241, e241, fun t k => ?_⟩
        rw [show v246 = (v240 + x6) from hv246.trans (if_pos h166_244)] at k
        show Steps p.tables e below (T241.setTop (mkF m 166 A242 [(.int (2 : Int32)), (.int x212)])) _
        refine XS.icmpNo X241.here hx rfl (hb hby at_166) rfl (tlt h166_244).2.2.2 ?_
        refine XS.lload X241.here hx rfl (hb hby at_169) rfl ?_
        refine XS.lload X241.here hx rfl (hb hby at_171) rfl ?_
        show Steps p.tables e below (T241.setTop (mkF m 173 A242 [(.long x6), (.long v240)])) _
        refine XS.ladd X241.here hx rfl (hb hby at_173) rfl ?_
        refine XS.lstore X241.here hx rfl (hb hby at_174) rfl (l' := A245) rfl ?_
        exact k
      · refine ⟨T241, _, X241, N241, e241, fun t k => ?_⟩
        rw [show v246 = v240 from hv246.trans (if_neg h166_244)] at k
        show Steps p.tables e below (T241.setTop (mkF m 166 A242 [(.int (2 : Int32)), (.int x212)])) _
        refine XS.icmpYes X241.here hx rfl (pc0 := 166) (pc' := 176) rfl (hb hby at_166) rfl (flt h166_244).2.2.2 (by decide) (by decide) ?_
        exact k)
    let A248 : Array Slot := #[.val (.long q0_0), .second, .val (.long q0_1), .second, .val (.long q0_2), .second, .val (.long q0_3), .second, .val (.long q0_4), .second, .val (.int p0_5), .val (.long x2), .second, .val (.long x4), .second, .val (.long x6), .second, .val (.long x8), .second, .val (.long x10), .second, .val (.int (4 : Int32)), .val (.int x212), .val (.ref b214), .val (.long v246), .second]
    have G249 : ∀ t, Steps p.tables e below (T247.setTop (mkF m 179 A248 [(.int (3 : Int32)), (.int x212)])) t → Steps p.tables e below (T247.setTop (mkF m 176 A248 [])) t := by
      intro t k
      show Steps p.tables e below (T247.setTop (mkF m 176 A248 [])) _
      refine XS.iload X247.here hx rfl (hb hby at_176) rfl ?_
      refine XS.iconst X247.here hx rfl (hb hby at_178) ?_
      exact k
    obtain ⟨v252, hv252⟩ : ∃ z : Int64, z = (if (3 : Int32) < x212 then (v246 + x8) else v246) := ⟨_, rfl⟩
    obtain ⟨T253, Lo253, X253, N253, e253, G253⟩ := own_join X247 N247 (h := T228.heap) (mkF m 179 A248 [(.int (3 : Int32)), (.int x212)]) (mkF m 189 #[.val (.long q0_0), .second, .val (.long q0_1), .second, .val (.long q0_2), .second, .val (.long q0_3), .second, .val (.long q0_4), .second, .val (.int p0_5), .val (.long x2), .second, .val (.long x4), .second, .val (.long x6), .second, .val (.long x8), .second, .val (.long x10), .second, .val (.int (4 : Int32)), .val (.int x212), .val (.ref b214), .val (.long v252), .second] []) (by
      by_cases h179_250 : (3 : Int32) < x212
      · let A251 : Array Slot := #[.val (.long q0_0), .second, .val (.long q0_1), .second, .val (.long q0_2), .second, .val (.long q0_3), .second, .val (.long q0_4), .second, .val (.int p0_5), .val (.long x2), .second, .val (.long x4), .second, .val (.long x6), .second, .val (.long x8), .second, .val (.long x10), .second, .val (.int (4 : Int32)), .val (.int x212), .val (.ref b214), .val (.long (v246 + x8)), .second]
        refine ⟨T247, _, X247, N247, e247, fun t k => ?_⟩
        rw [show v252 = (v246 + x8) from hv252.trans (if_pos h179_250)] at k
        show Steps p.tables e below (T247.setTop (mkF m 179 A248 [(.int (3 : Int32)), (.int x212)])) _
        refine XS.icmpNo X247.here hx rfl (hb hby at_179) rfl (tlt h179_250).2.2.2 ?_
        refine XS.lload X247.here hx rfl (hb hby at_182) rfl ?_
        refine XS.lload X247.here hx rfl (hb hby at_184) rfl ?_
        show Steps p.tables e below (T247.setTop (mkF m 186 A248 [(.long x8), (.long v246)])) _
        refine XS.ladd X247.here hx rfl (hb hby at_186) rfl ?_
        refine XS.lstore X247.here hx rfl (hb hby at_187) rfl (l' := A251) rfl ?_
        exact k
      · refine ⟨T247, _, X247, N247, e247, fun t k => ?_⟩
        rw [show v252 = v246 from hv252.trans (if_neg h179_250)] at k
        show Steps p.tables e below (T247.setTop (mkF m 179 A248 [(.int (3 : Int32)), (.int x212)])) _
        refine XS.icmpYes X247.here hx rfl (pc0 := 179) (pc' := 189) rfl (hb hby at_179) rfl (flt h179_250).2.2.2 (by decide) (by decide) ?_
        exact k)
    let A254 : Array Slot := #[.val (.long q0_0), .second, .val (.long q0_1), .second, .val (.long q0_2), .second, .val (.long q0_3), .second, .val (.long q0_4), .second, .val (.int p0_5), .val (.long x2), .second, .val (.long x4), .second, .val (.long x6), .second, .val (.long x8), .second, .val (.long x10), .second, .val (.int (4 : Int32)), .val (.int x212), .val (.ref b214), .val (.long v252), .second]
    have G255 : ∀ t, Steps p.tables e below (T253.setTop (mkF m 192 A254 [(.int (4 : Int32)), (.int x212)])) t → Steps p.tables e below (T253.setTop (mkF m 189 A254 [])) t := by
      intro t k
      show Steps p.tables e below (T253.setTop (mkF m 189 A254 [])) _
      refine XS.iload X253.here hx rfl (hb hby at_189) rfl ?_
      refine XS.iconst X253.here hx rfl (hb hby at_191) ?_
      exact k
    obtain ⟨v258, hv258⟩ : ∃ z : Int64, z = (if (4 : Int32) < x212 then (v252 + x10) else v252) := ⟨_, rfl⟩
    obtain ⟨T259, Lo259, X259, N259, e259, G259⟩ := own_join X253 N253 (h := T228.heap) (mkF m 192 A254 [(.int (4 : Int32)), (.int x212)]) (mkF m 202 #[.val (.long q0_0), .second, .val (.long q0_1), .second, .val (.long q0_2), .second, .val (.long q0_3), .second, .val (.long q0_4), .second, .val (.int p0_5), .val (.long x2), .second, .val (.long x4), .second, .val (.long x6), .second, .val (.long x8), .second, .val (.long x10), .second, .val (.int (4 : Int32)), .val (.int x212), .val (.ref b214), .val (.long v258), .second] []) (by
      by_cases h192_256 : (4 : Int32) < x212
      · let A257 : Array Slot := #[.val (.long q0_0), .second, .val (.long q0_1), .second, .val (.long q0_2), .second, .val (.long q0_3), .second, .val (.long q0_4), .second, .val (.int p0_5), .val (.long x2), .second, .val (.long x4), .second, .val (.long x6), .second, .val (.long x8), .second, .val (.long x10), .second, .val (.int (4 : Int32)), .val (.int x212), .val (.ref b214), .val (.long (v252 + x10)), .second]
        refine ⟨T253, _, X253, N253, e253, fun t k => ?_⟩
        rw [show v258 = (v252 + x10) from hv258.trans (if_pos h192_256)] at k
        show Steps p.tables e below (T253.setTop (mkF m 192 A254 [(.int (4 : Int32)), (.int x212)])) _
        refine XS.icmpNo X253.here hx rfl (hb hby at_192) rfl (tlt h192_256).2.2.2 ?_
        refine XS.lload X253.here hx rfl (hb hby at_195) rfl ?_
        refine XS.lload X253.here hx rfl (hb hby at_197) rfl ?_
        show Steps p.tables e below (T253.setTop (mkF m 199 A254 [(.long x10), (.long v252)])) _
        refine XS.ladd X253.here hx rfl (hb hby at_199) rfl ?_
        refine XS.lstore X253.here hx rfl (hb hby at_200) rfl (l' := A257) rfl ?_
        exact k
      · refine ⟨T253, _, X253, N253, e253, fun t k => ?_⟩
        rw [show v258 = v252 from hv258.trans (if_neg h192_256)] at k
        show Steps p.tables e below (T253.setTop (mkF m 192 A254 [(.int (4 : Int32)), (.int x212)])) _
        refine XS.icmpYes X253.here hx rfl (pc0 := 192) (pc' := 202) rfl (hb hby at_192) rfl (flt h192_256).2.2.2 (by decide) (by decide) ?_
        exact k)
    let A260 : Array Slot := #[.val (.long q0_0), .second, .val (.long q0_1), .second, .val (.long q0_2), .second, .val (.long q0_3), .second, .val (.long q0_4), .second, .val (.int p0_5), .val (.long x2), .second, .val (.long x4), .second, .val (.long x6), .second, .val (.long x8), .second, .val (.long x10), .second, .val (.int (4 : Int32)), .val (.int x212), .val (.ref b214), .val (.long v258), .second]
    obtain ⟨cq261, kq261, q261a, q261b, q261c⟩ := isOf hZ e259 P228_0
    obtain ⟨_, _, ⟨T261, L261, k261, n261⟩, -, X261, ⟨Lc261, hQ261, l261, y261, z261⟩, st261⟩ := X259.virtualBack hx (y := (⟨"com/example/motley/motley/CountTree", "sumBefore", "(I)J"⟩ : MethodName)) (z := (⟨"com/example/motley/motley/CountTree", "sumBefore", "(I)J"⟩ : MethodName)) hown (mvT hZ (ow52 hw)) (mvT hZ (ow48 hw)) (notFace_of_selects (args := #[]) (mvT hZ (ow50 hw))) (mvT hZ (ow50 hw)) (mvT hZ (ow49 hw)) (by decide) (backOf (W := 0) (rm9_7 l Z a0 hw [] b214 x212 bx3_0_223 ((y221 + x6) + x8) kx3_0_223 y218 y222 y226 y229 T228.heap n0 Z228 (own_p5 ((p0_5.toUInt32 >>> ((3 : Int32) &&& 31).toUInt32).toInt32) x212 hx212) P228_0 P228_1 P228_2 P228_3 P228_4) hZ (ow51 hw) (ow3 hw) (by decide) (by decide)) q261a q261c (g := (mkF m 206 A260 [(.int x212), (.ref b214)])) rfl (by rw [hml]; rfl) (Steps.refl _) (argsL := [(.int x212)]) (rest := []) (lenOf pd__I_J rfl) rfl (by show 2 * 0 + _ ≤ _; exact Nat.le_of_eq rfl) (hb hby at_206) (fun _ _ => ⟨rfl, e259, (by decide : 5 + 0 ≤ _), (by decide : 10 + 0 ≤ _)⟩)
    dsimp only [Pt.U, Pt.locs, Pt.cells, Pt.slots] at X261 l261 y261 z261 st261 hQ261
    subst l261 y261 z261
    obtain ⟨rfl, Nq261, e261⟩ := hQ261
    have N261 := Fr.app N259 Nq261
    obtain ⟨x262, hx262⟩ : ∃ z : Int64, z = (if x212 = (0 : Int32) then (0 : Int64) else (if x212 = (1 : Int32) then ((0 : Int64) + y218) else (if x212 = (2 : Int32) then ((0 : Int64) + y222) else (if x212 = (3 : Int32) then (((0 : Int64) + y226) + y222) else ((0 : Int64) + y229))))) := ⟨_, rfl⟩
    have G263 : ∀ t, Steps p.tables e below (T261.setTop (mkF m 212 A260 [(.int (lcmpW x262 v258))])) t → Steps p.tables e below (T259.setTop (mkF m 202 A260 [])) t := by
      intro t k
      show Steps p.tables e below (T259.setTop (mkF m 202 A260 [])) _
      refine XS.aload X259.here hx rfl (hb hby at_202) rfl rfl ?_
      refine XS.iload X259.here hx rfl (hb hby at_204) rfl ?_
      refine st261.trans ?_
      show Steps p.tables e below (T261.setTop (mkF m 209 #[.val (.long q0_0), .second, .val (.long q0_1), .second, .val (.long q0_2), .second, .val (.long q0_3), .second, .val (.long q0_4), .second, .val (.int p0_5), .val (.long x2), .second, .val (.long x4), .second, .val (.long x6), .second, .val (.long x8), .second, .val (.long x10), .second, .val (.int (4 : Int32)), .val (.int x212), .val (.ref b214), .val (.long v258), .second] [(.long (if x212 = (0 : Int32) then (0 : Int64) else (if x212 = (1 : Int32) then ((0 : Int64) + y218) else (if x212 = (2 : Int32) then ((0 : Int64) + y222) else (if x212 = (3 : Int32) then (((0 : Int64) + y226) + y222) else ((0 : Int64) + y229))))))])) _
      rw [← hx262]
      refine XS.lload X261.here hx rfl (hb hby at_209) rfl ?_
      refine XS.lcmp X261.here hx rfl (hb hby at_211) rfl ?_
      exact k
    obtain ⟨v265, hv265⟩ : ∃ z : Int32, z = (if x262 = v258 then (1 : Int32) else (0 : Int32)) := ⟨_, rfl⟩
    obtain ⟨T266, Lo266, X266, N266, e266, G266⟩ := own_join X261 N261 (h := T228.heap) (mkF m 212 A260 [(.int (lcmpW x262 v258))]) (mkF m 220 A260 [(.int v265)]) (by
      by_cases h212_264 : x262 = v258
      · refine ⟨T261, _, X261, N261, e261, fun t k => ?_⟩
        rw [show v265 = (1 : Int32) from hv265.trans (if_pos h212_264)] at k
        show Steps p.tables e below (T261.setTop (mkF m 212 A260 [(.int (lcmpW x262 v258))])) _
        refine XS.ifNo X261.here hx rfl (hb hby at_212) rfl ((if0 _ _).trans (teq ((lw_eq _ _).mpr h212_264)).2) ?_
        refine XS.iconst X261.here hx rfl (hb hby at_215) ?_
        refine XS.goto X261.here hx rfl (pc0 := 216) (pc' := 220) rfl (hb hby at_216) (by decide) (by decide) ?_
        exact k
      · refine ⟨T261, _, X261, N261, e261, fun t k => ?_⟩
        rw [show v265 = (0 : Int32) from hv265.trans (if_neg h212_264)] at k
        show Steps p.tables e below (T261.setTop (mkF m 212 A260 [(.int (lcmpW x262 v258))])) _
        refine XS.ifYes X261.here hx rfl (pc0 := 212) (pc' := 219) rfl (hb hby at_212) rfl ((if0 _ _).trans (feq (fun q => h212_264 ((lw_eq _ _).mp q))).2) (by decide) (by decide) ?_
        refine XS.iconst X261.here hx rfl (hb hby at_219) ?_
        exact k)
    have fin : v265 = (1 : Int32) := by
      exact own_fin5 q0_0 q0_1 q0_2 q0_3 q0_4 p0_5 x2 hx2 x4 hx4 x6 hx6 x8 hx8 x10 hx10 x12 hx12 x212 hx212 y218 hy218 y221 hy221 y222 hy222 y226 hy226 y227 hy227 y229 hy229 v234 hv234 v240 hv240 v246 hv246 v252 hv252 v258 hv258 x262 hx262 v265 hv265 hc19
    obtain ⟨fs, hr, hrun, hended, hW, hsame⟩ := X266.leave (v := some (.int (1 : Int32))) (fun h => by rw [Bd.returns] at h; cases h)
    refine ⟨_, _, pre0 _ ?_, hrun, hended, _, _, rfl, ?_, ⟨_, rfl⟩, hW, hsame.mono (by decide) (by decide)⟩
    · refine G14 _ ?_
      refine G231 _ ?_
      refine G235 _ ?_
      refine G237 _ ?_
      refine G241 _ ?_
      refine G243 _ ?_
      refine G247 _ ?_
      refine G249 _ ?_
      refine G253 _ ?_
      refine G255 _ ?_
      refine G259 _ ?_
      refine G263 _ ?_
      refine G266 _ ?_
      show Steps p.tables e below (T266.setTop (mkF m 220 A260 [(.int v265)])) _
      rw [fin]
      exact retN X266 hx (t := .boolean) Bd.returns (by simp) (hb hby at_220) hr
    · exact ⟨rfl, N266⟩
  · let A267 : Array Slot := #[.val (.long q0_0), .second, .val (.long q0_1), .second, .val (.long q0_2), .second, .val (.long q0_3), .second, .val (.long q0_4), .second, .val (.int p0_5), .val (.long x2), .second, .val (.long x4), .second, .val (.long x6), .second, .val (.long x8), .second, .val (.long x10), .second, .val (.int (5 : Int32)), .unset, .unset, .unset, .unset]
    have own_t20 : True := trivial
    obtain ⟨x268, hx268⟩ : ∃ z : Int32, z = ((((p0_5.toUInt32 >>> ((3 : Int32) &&& 31).toUInt32).toInt32) &&& (7 : Int32)) % (6 : Int32)) := ⟨_, rfl⟩
    let A269 : Array Slot := #[.val (.long q0_0), .second, .val (.long q0_1), .second, .val (.long q0_2), .second, .val (.long q0_3), .second, .val (.long q0_4), .second, .val (.int p0_5), .val (.long x2), .second, .val (.long x4), .second, .val (.long x6), .second, .val (.long x8), .second, .val (.long x10), .second, .val (.int (5 : Int32)), .val (.int x268), .unset, .unset, .unset]
    obtain ⟨T270, h270, X270, e270, E270, A270, D270, -, st270⟩ := newO X0 hx hZ hown (ow1 hw) (ow2 hw) (ow3 hw) e0 (g := (mkF m 62 A269 [])) rfl (hb hby at_62) (by decide) (by decide)
    obtain ⟨b270, g270⟩ : ∃ z, z = h0.size := ⟨_, rfl⟩
    rw [← g270] at A270 D270 st270
    have F_tree_b270 : Fld Z h270 b270 "com/example/motley/motley/CountTree" "tree" "[J" .null := D270 (Or.inl (ow12 hw)) (ty := (.array .long)) (by decide)
    have F_size_b270 : Fld Z h270 b270 "com/example/motley/motley/CountTree" "size" "I" (.int (0 : Int32)) := D270 (Or.inl (ow24 hw)) (ty := .int) (by decide)
    have F_total_b270 : Fld Z h270 b270 "com/example/motley/motley/CountTree" "total" "J" (.long (0 : Int64)) := D270 (Or.inl (ow46 hw)) (ty := .long) (by decide)
    have g_b270 : n0 ≤ b270 := Nat.le_trans Z0 (Nat.le_of_eq g270.symm)
    have sz_b270 : h0.size ≤ b270 := Nat.le_trans (Nat.le_refl _) (Nat.le_of_eq g270.symm)
    have K270 : Keep h0 h270 [] := (Keep.refl h0 []).ext E270
    have Z270 : n0 ≤ h270.size := Nat.le_trans Z0 K270.1
    obtain ⟨_, _, ⟨T271, L271, k271, n271⟩, -, X271, ⟨Lc271, hQ271, l271, y271, z271⟩, st271⟩ := X270.specialBack hx (y := (⟨"com/example/motley/motley/CountTree", "<init>", "()V"⟩ : MethodName)) rfl hown (mvT hZ (ow4 hw)) (mvT hZ (ow5 hw)) (mvT hZ (ow6 hw)) (by decide) (backOf (W := 1) (rm1_1 l Z a0 hw [] b270 h270 n0 Z270 A270 F_tree_b270 F_size_b270 F_total_b270 g_b270) hZ (ow6 hw) (ow3 hw) (by decide) (by decide)) (g := (mkF m 66 A269 [(.ref b270), (.ref b270)])) rfl (by rw [hml]; rfl) (Steps.refl _) (a := b270) (argsL := []) (rest := [(.ref b270)]) (lenOf pd___V rfl) rfl (by show 2 * 0 + _ ≤ _; exact Nat.le_of_eq rfl) (hb hby at_66) (fun _ _ => ⟨rfl, e270, (by decide : 1 + 1 ≤ _), (by decide : 3 + 0 ≤ _)⟩)
    dsimp only [Pt.U, Pt.locs, Pt.cells, Pt.slots] at X271 l271 y271 z271 st271 hQ271
    subst l271 y271 z271
    obtain ⟨bx1_0_271, kx1_0_271, rfl, Nq271, Kc271, P271_0, P271_1, P271_2, P271_3, P271_4, P271_5⟩ := hQ271
    have K271 : Keep h0 T271.heap [] := Keep.trans K270 Kc271 (allS (P := fun x => x ∈ ([] : List Addr) ∨ h0.size ≤ x) (Or.inr sz_b270) all0)
    have Z271 : n0 ≤ T271.heap.size := Nat.le_trans Z0 K271.1
    have g_bx1_0_271 : n0 ≤ bx1_0_271 := Nat.le_trans Z270 P271_0
    have sz_bx1_0_271 : h0.size ≤ bx1_0_271 := Nat.le_trans K270.1 P271_0
    have ne_b270_bx1_0_271 : b270 ≠ bx1_0_271 := Nat.ne_of_lt (Nat.lt_of_lt_of_le A270.lt P271_0)
    have N271 := Fr.app N0 Nq271
    let A272 : Array Slot := #[.val (.long q0_0), .second, .val (.long q0_1), .second, .val (.long q0_2), .second, .val (.long q0_3), .second, .val (.long q0_4), .second, .val (.int p0_5), .val (.long x2), .second, .val (.long x4), .second, .val (.long x6), .second, .val (.long x8), .second, .val (.long x10), .second, .val (.int (5 : Int32)), .val (.int x268), .val (.ref b270), .unset, .unset]
    obtain ⟨cq273, kq273, q273a, q273b, q273c⟩ := isOf hZ rfl P271_1
    obtain ⟨_, _, ⟨T273, L273, k273, n273⟩, -, X273, ⟨Lc273, hQ273, l273, y273, z273⟩, st273⟩ := X271.virtualBack hx (y := (⟨"com/example/motley/motley/CountTree", "append", "(J)V"⟩ : MethodName)) (z := (⟨"com/example/motley/motley/CountTree", "append", "(J)V"⟩ : MethodName)) hown (mvT hZ (ow13 hw)) (mvT hZ (ow14 hw)) (notFace_of_selects (args := #[]) (mvT hZ (ow16 hw))) (mvT hZ (ow16 hw)) (mvT hZ (ow15 hw)) (by decide) (backOf (W := 0) (rm3_1 l Z a0 hw [] b270 x2 bx1_0_271 kx1_0_271 T271.heap n0 Z271 P271_1 P271_2 P271_3 P271_4 P271_5 g_b270) hZ (ow17 hw) (ow3 hw) (by decide) (by decide)) q273a q273c (g := (mkF m 80 A272 [(.long x2), (.ref b270)])) rfl (by rw [hml]; rfl) (Steps.refl _) (argsL := [(.long x2)]) (rest := []) (lenOf pd__J_V rfl) rfl (by show 2 * 0 + _ ≤ _; exact Nat.le_of_eq rfl) (hb hby at_80) (fun _ _ => ⟨rfl, rfl, (by decide : 2 + 1 ≤ _), (by decide : 3 + 1 ≤ _)⟩)
    dsimp only [Pt.U, Pt.locs, Pt.cells, Pt.slots] at X273 l273 y273 z273 st273 hQ273
    subst l273 y273 z273
    obtain ⟨bx3_0_273, kx3_0_273, rfl, Nq273, Kc273, P273_0, P273_1, P273_2, P273_3, P273_4, P273_5⟩ := hQ273
    have K273 : Keep h0 T273.heap [] := Keep.trans K271 Kc273 (allS (P := fun x => x ∈ ([] : List Addr) ∨ h0.size ≤ x) (Or.inr sz_b270) all0)
    have Z273 : n0 ≤ T273.heap.size := Nat.le_trans Z0 K273.1
    have g_bx3_0_273 : n0 ≤ bx3_0_273 := Nat.le_trans Z271 P273_0
    have sz_bx3_0_273 : h0.size ≤ bx3_0_273 := Nat.le_trans K271.1 P273_0
    have ne_b270_bx3_0_273 : b270 ≠ bx3_0_273 := Nat.ne_of_lt (Nat.lt_of_lt_of_le P271_1.lt P273_0)
    have ne_bx1_0_271_bx3_0_273 : bx1_0_271 ≠ bx3_0_273 := Nat.ne_of_lt (Nat.lt_of_lt_of_le P271_5.lt P273_0)
    obtain ⟨y274, hy274⟩ : ∃ z : Int64, z = ((0 : Int64) + x2) := ⟨_, rfl⟩
    rw [← hy274] at P273_5
    have N273 := Fr.app N271 Nq273
    have f276 := (P271_5.keep Kc273 (ninS (Ne.symm ne_b270_bx1_0_271) nin0))
    obtain ⟨cq275, kq275, q275a, q275b, q275c⟩ := isOf hZ rfl P273_1
    obtain ⟨_, _, ⟨T275, L275, k275, n275⟩, -, X275, ⟨Lc275, hQ275, l275, y275, z275⟩, st275⟩ := X273.virtualBack hx (y := (⟨"com/example/motley/motley/CountTree", "append", "(J)V"⟩ : MethodName)) (z := (⟨"com/example/motley/motley/CountTree", "append", "(J)V"⟩ : MethodName)) hown (mvT hZ (ow13 hw)) (mvT hZ (ow14 hw)) (notFace_of_selects (args := #[]) (mvT hZ (ow16 hw))) (mvT hZ (ow16 hw)) (mvT hZ (ow15 hw)) (by decide) (backOf (W := 0) (rm3_2 l Z a0 hw [] b270 x4 bx3_0_273 ((0 : Int64) + x2) kx3_0_273 y274 T273.heap n0 Z273 P273_1 P273_2 P273_3 P273_4 P273_5 g_b270) hZ (ow17 hw) (ow3 hw) (by decide) (by decide)) q275a q275c (g := (mkF m 93 A272 [(.long x4), (.ref b270)])) rfl (by rw [hml]; rfl) (Steps.refl _) (argsL := [(.long x4)]) (rest := []) (lenOf pd__J_V rfl) rfl (by show 2 * 0 + _ ≤ _; exact Nat.le_of_eq rfl) (hb hby at_93) (fun _ _ => ⟨rfl, rfl, (by decide : 3 + 1 ≤ _), (by decide : 4 + 2 ≤ _)⟩)
    dsimp only [Pt.U, Pt.locs, Pt.cells, Pt.slots] at X275 l275 y275 z275 st275 hQ275
    subst l275 y275 z275
    obtain ⟨bx3_0_275, kx3_0_275, rfl, Nq275, Kc275, P275_0, P275_1, P275_2, P275_3, P275_4, P275_5⟩ := hQ275
    have K275 : Keep h0 T275.heap [] := Keep.trans K273 Kc275 (allS (P := fun x => x ∈ ([] : List Addr) ∨ h0.size ≤ x) (Or.inr sz_b270) all0)
    have Z275 : n0 ≤ T275.heap.size := Nat.le_trans Z0 K275.1
    have g_bx3_0_275 : n0 ≤ bx3_0_275 := Nat.le_trans Z273 P275_0
    have sz_bx3_0_275 : h0.size ≤ bx3_0_275 := Nat.le_trans K273.1 P275_0
    have ne_b270_bx3_0_275 : b270 ≠ bx3_0_275 := Nat.ne_of_lt (Nat.lt_of_lt_of_le P273_1.lt P275_0)
    have ne_bx1_0_271_bx3_0_275 : bx1_0_271 ≠ bx3_0_275 := Nat.ne_of_lt (Nat.lt_of_lt_of_le f276.lt P275_0)
    have ne_bx3_0_273_bx3_0_275 : bx3_0_273 ≠ bx3_0_275 := Nat.ne_of_lt (Nat.lt_of_lt_of_le P273_5.lt P275_0)
    obtain ⟨y277, hy277⟩ : ∃ z : Int64, z = (((0 : Int64) + x2) + x4) := ⟨_, rfl⟩
    rw [← hy277] at P275_4
    obtain ⟨y278, hy278⟩ : ∃ z : Int64, z = ((((0 : Int64) + x2) - (0 : Int64)) + x4) := ⟨_, rfl⟩
    rw [← hy278] at P275_5
    have N275 := Fr.app N273 Nq275
    have f280 := (f276.keep Kc275 (ninS (Ne.symm ne_b270_bx1_0_271) nin0))
    have f281 := (P273_5.keep Kc275 (ninS (Ne.symm ne_b270_bx3_0_273) nin0))
    obtain ⟨cq279, kq279, q279a, q279b, q279c⟩ := isOf hZ rfl P275_1
    obtain ⟨_, _, ⟨T279, L279, k279, n279⟩, -, X279, ⟨Lc279, hQ279, l279, y279, z279⟩, st279⟩ := X275.virtualBack hx (y := (⟨"com/example/motley/motley/CountTree", "append", "(J)V"⟩ : MethodName)) (z := (⟨"com/example/motley/motley/CountTree", "append", "(J)V"⟩ : MethodName)) hown (mvT hZ (ow13 hw)) (mvT hZ (ow14 hw)) (notFace_of_selects (args := #[]) (mvT hZ (ow16 hw))) (mvT hZ (ow16 hw)) (mvT hZ (ow15 hw)) (by decide) (backOf (W := 0) (rm3_3 l Z a0 hw [] b270 x6 bx3_0_275 y277 kx3_0_275 y274 y278 T275.heap n0 Z275 P275_1 P275_2 P275_3 P275_4 P275_5 g_b270) hZ (ow17 hw) (ow3 hw) (by decide) (by decide)) q279a q279c (g := (mkF m 106 A272 [(.long x6), (.ref b270)])) rfl (by rw [hml]; rfl) (Steps.refl _) (argsL := [(.long x6)]) (rest := []) (lenOf pd__J_V rfl) rfl (by show 2 * 0 + _ ≤ _; exact Nat.le_of_eq rfl) (hb hby at_106) (fun _ _ => ⟨rfl, rfl, (by decide : 4 + 1 ≤ _), (by decide : 6 + 4 ≤ _)⟩)
    dsimp only [Pt.U, Pt.locs, Pt.cells, Pt.slots] at X279 l279 y279 z279 st279 hQ279
    subst l279 y279 z279
    obtain ⟨bx3_0_279, kx3_0_279, rfl, Nq279, Kc279, P279_0, P279_1, P279_2, P279_3, P279_4, P279_5⟩ := hQ279
    have K279 : Keep h0 T279.heap [] := Keep.trans K275 Kc279 (allS (P := fun x => x ∈ ([] : List Addr) ∨ h0.size ≤ x) (Or.inr sz_b270) all0)
    have Z279 : n0 ≤ T279.heap.size := Nat.le_trans Z0 K279.1
    have g_bx3_0_279 : n0 ≤ bx3_0_279 := Nat.le_trans Z275 P279_0
    have sz_bx3_0_279 : h0.size ≤ bx3_0_279 := Nat.le_trans K275.1 P279_0
    have ne_b270_bx3_0_279 : b270 ≠ bx3_0_279 := Nat.ne_of_lt (Nat.lt_of_lt_of_le P275_1.lt P279_0)
    have ne_bx1_0_271_bx3_0_279 : bx1_0_271 ≠ bx3_0_279 := Nat.ne_of_lt (Nat.lt_of_lt_of_le f280.lt P279_0)
    have ne_bx3_0_273_bx3_0_279 : bx3_0_273 ≠ bx3_0_279 := Nat.ne_of_lt (Nat.lt_of_lt_of_le f281.lt P279_0)
    have ne_bx3_0_275_bx3_0_279 : bx3_0_275 ≠ bx3_0_279 := Nat.ne_of_lt (Nat.lt_of_lt_of_le P275_5.lt P279_0)
    obtain ⟨y282, hy282⟩ : ∃ z : Int64, z = ((0 : Int64) + x6) := ⟨_, rfl⟩
    rw [← hy282] at P279_5
    obtain ⟨y283, hy283⟩ : ∃ z : Int64, z = ((y277 - (0 : Int64)) + x6) := ⟨_, rfl⟩
    rw [← hy283] at P279_5
    have N279 := Fr.app N275 Nq279
    obtain ⟨cq284, kq284, q284a, q284b, q284c⟩ := isOf hZ rfl P279_1
    obtain ⟨_, _, ⟨T284, L284, k284, n284⟩, -, X284, ⟨Lc284, hQ284, l284, y284, z284⟩, st284⟩ := X279.virtualBack hx (y := (⟨"com/example/motley/motley/CountTree", "append", "(J)V"⟩ : MethodName)) (z := (⟨"com/example/motley/motley/CountTree", "append", "(J)V"⟩ : MethodName)) hown (mvT hZ (ow13 hw)) (mvT hZ (ow14 hw)) (notFace_of_selects (args := #[]) (mvT hZ (ow16 hw))) (mvT hZ (ow16 hw)) (mvT hZ (ow15 hw)) (by decide) (backOf (W := 0) (rm3_4 l Z a0 hw [] b270 x8 bx3_0_279 (y277 + x6) kx3_0_279 y274 y278 y282 y283 T279.heap n0 Z279 P279_1 P279_2 P279_3 P279_4 P279_5 g_b270 (Ne.symm ne_b270_bx3_0_279) g_bx3_0_279) hZ (ow17 hw) (ow3 hw) (by decide) (by decide)) q284a q284c (g := (mkF m 119 A272 [(.long x8), (.ref b270)])) rfl (by rw [hml]; rfl) (Steps.refl _) (argsL := [(.long x8)]) (rest := []) (lenOf pd__J_V rfl) rfl (by show 2 * 0 + _ ≤ _; exact Nat.le_of_eq rfl) (hb hby at_119) (fun _ _ => ⟨rfl, rfl, (by decide : 5 + 0 ≤ _), (by decide : 10 + 0 ≤ _)⟩)
    dsimp only [Pt.U, Pt.locs, Pt.cells, Pt.slots] at X284 l284 y284 z284 st284 hQ284
    subst l284 y284 z284
    obtain ⟨rfl, Nq284, Kc284, P284_0, P284_1, P284_2, P284_3, P284_4⟩ := hQ284
    have K284 : Keep h0 T284.heap [] := Keep.trans K279 Kc284 (allS (P := fun x => x ∈ ([] : List Addr) ∨ h0.size ≤ x) (Or.inr sz_b270) (allS (P := fun x => x ∈ ([] : List Addr) ∨ h0.size ≤ x) (Or.inr sz_bx3_0_279) all0))
    have Z284 : n0 ≤ T284.heap.size := Nat.le_trans Z0 K284.1
    obtain ⟨y285, hy285⟩ : ∃ z : Int64, z = (y283 + x8) := ⟨_, rfl⟩
    rw [← hy285] at P284_4
    have N284 := Fr.app N279 Nq284
    have f287 := ((f280.keep Kc279 (ninS (Ne.symm ne_b270_bx1_0_271) nin0)).keep Kc284 (ninS (Ne.symm ne_b270_bx1_0_271) (ninS ne_bx1_0_271_bx3_0_279 nin0)))
    have f288 := ((f281.keep Kc279 (ninS (Ne.symm ne_b270_bx3_0_273) nin0)).keep Kc284 (ninS (Ne.symm ne_b270_bx3_0_273) (ninS ne_bx3_0_273_bx3_0_279 nin0)))
    have f289 := ((P275_5.keep Kc279 (ninS (Ne.symm ne_b270_bx3_0_275) nin0)).keep Kc284 (ninS (Ne.symm ne_b270_bx3_0_275) (ninS ne_bx3_0_275_bx3_0_279 nin0)))
    obtain ⟨cq286, kq286, q286a, q286b, q286c⟩ := isOf hZ rfl P284_0
    obtain ⟨_, _, ⟨T286, L286, k286, n286⟩, -, X286, ⟨Lc286, hQ286, l286, y286, z286⟩, st286⟩ := X284.virtualBack hx (y := (⟨"com/example/motley/motley/CountTree", "append", "(J)V"⟩ : MethodName)) (z := (⟨"com/example/motley/motley/CountTree", "append", "(J)V"⟩ : MethodName)) hown (mvT hZ (ow13 hw)) (mvT hZ (ow14 hw)) (notFace_of_selects (args := #[]) (mvT hZ (ow16 hw))) (mvT hZ (ow16 hw)) (mvT hZ (ow15 hw)) (by decide) (backOf (W := 0) (rm3_5 l Z a0 hw [] b270 x10 bx3_0_279 ((y277 + x6) + x8) kx3_0_279 y274 y278 y282 y285 T284.heap n0 Z284 P284_0 P284_1 P284_2 P284_3 P284_4 g_b270) hZ (ow17 hw) (ow3 hw) (by decide) (by decide)) q286a q286c (g := (mkF m 132 A272 [(.long x10), (.ref b270)])) rfl (by rw [hml]; rfl) (Steps.refl _) (argsL := [(.long x10)]) (rest := []) (lenOf pd__J_V rfl) rfl (by show 2 * 0 + _ ≤ _; exact Nat.le_of_eq rfl) (hb hby at_132) (fun _ _ => ⟨rfl, rfl, (by decide : 5 + 1 ≤ _), (by decide : 10 + 8 ≤ _)⟩)
    dsimp only [Pt.U, Pt.locs, Pt.cells, Pt.slots] at X286 l286 y286 z286 st286 hQ286
    subst l286 y286 z286
    obtain ⟨bx3_0_286, kx3_0_286, rfl, Nq286, Kc286, P286_0, P286_1, P286_2, P286_3, P286_4, P286_5⟩ := hQ286
    have K286 : Keep h0 T286.heap [] := Keep.trans K284 Kc286 (allS (P := fun x => x ∈ ([] : List Addr) ∨ h0.size ≤ x) (Or.inr sz_b270) all0)
    have Z286 : n0 ≤ T286.heap.size := Nat.le_trans Z0 K286.1
    have g_bx3_0_286 : n0 ≤ bx3_0_286 := Nat.le_trans Z284 P286_0
    have sz_bx3_0_286 : h0.size ≤ bx3_0_286 := Nat.le_trans K284.1 P286_0
    have ne_b270_bx3_0_286 : b270 ≠ bx3_0_286 := Nat.ne_of_lt (Nat.lt_of_lt_of_le P284_0.lt P286_0)
    have ne_bx1_0_271_bx3_0_286 : bx1_0_271 ≠ bx3_0_286 := Nat.ne_of_lt (Nat.lt_of_lt_of_le f287.lt P286_0)
    have ne_bx3_0_273_bx3_0_286 : bx3_0_273 ≠ bx3_0_286 := Nat.ne_of_lt (Nat.lt_of_lt_of_le f288.lt P286_0)
    have ne_bx3_0_275_bx3_0_286 : bx3_0_275 ≠ bx3_0_286 := Nat.ne_of_lt (Nat.lt_of_lt_of_le f289.lt P286_0)
    have ne_bx3_0_279_bx3_0_286 : bx3_0_279 ≠ bx3_0_286 := Nat.ne_of_lt (Nat.lt_of_lt_of_le P284_4.lt P286_0)
    obtain ⟨y290, hy290⟩ : ∃ z : Int64, z = (((y277 + x6) + x8) + x10) := ⟨_, rfl⟩
    rw [← hy290] at P286_4
    obtain ⟨y291, hy291⟩ : ∃ z : Int64, z = ((0 : Int64) + x10) := ⟨_, rfl⟩
    rw [← hy291] at P286_5
    obtain ⟨y292, hy292⟩ : ∃ z : Int64, z = ((((y277 + x6) + x8) - (0 : Int64)) + x10) := ⟨_, rfl⟩
    rw [← hy292] at P286_5
    have N286 := Fr.app N284 Nq286
    let A293 : Array Slot := #[.val (.long q0_0), .second, .val (.long q0_1), .second, .val (.long q0_2), .second, .val (.long q0_3), .second, .val (.long q0_4), .second, .val (.int p0_5), .val (.long x2), .second, .val (.long x4), .second, .val (.long x6), .second, .val (.long x8), .second, .val (.long x10), .second, .val (.int (5 : Int32)), .val (.int x268), .val (.ref b270), .val (.long (0 : Int64)), .second]
    have G294 : ∀ t, Steps p.tables e below (T286.setTop (mkF m 140 A293 [(.int x268)])) t → Steps p.tables e below (s₁.setTop (mkF m 48 A13 [])) t := by
      intro t k
      show Steps p.tables e below (s₁.setTop (mkF m 48 #[.val (.long q0_0), .second, .val (.long q0_1), .second, .val (.long q0_2), .second, .val (.long q0_3), .second, .val (.long q0_4), .second, .val (.int p0_5), .val (.long x2), .second, .val (.long x4), .second, .val (.long x6), .second, .val (.long x8), .second, .val (.long x10), .second, .val (.int x12), .unset, .unset, .unset, .unset] [])) _
      rw [hc20]
      show Steps p.tables e below (s₁.setTop (mkF m 48 A267 [])) _
      refine XS.iload X0.here hx rfl (hb hby at_48) rfl ?_
      refine XS.iconst X0.here hx rfl (hb hby at_50) ?_
      refine XS.iushr X0.here hx rfl (hb hby at_51) rfl ?_
      show Steps p.tables e below (s₁.setTop (mkF m 52 A267 [(.int ((p0_5.toUInt32 >>> ((3 : Int32) &&& 31).toUInt32).toInt32))])) _
      refine XS.bipush X0.here hx rfl (hb hby at_52) ?_
      refine XS.iand X0.here hx rfl (hb hby at_54) rfl ?_
      refine XS.iload X0.here hx rfl (hb hby at_55) rfl ?_
      show Steps p.tables e below (s₁.setTop (mkF m 57 A267 [(.int (5 : Int32)), (.int (((p0_5.toUInt32 >>> ((3 : Int32) &&& 31).toUInt32).toInt32) &&& (7 : Int32)))])) _
      refine XS.iconst X0.here hx rfl (hb hby at_57) ?_
      refine XS.iadd X0.here hx rfl (hb hby at_58) rfl ?_
      refine iremM X0 hx rfl (hb hby at_59) rfl (by decide : ¬ ((6 : Int32) = (0 : Int32))) ?_
      show Steps p.tables e below (s₁.setTop (mkF m 60 A267 [(.int ((((p0_5.toUInt32 >>> ((3 : Int32) &&& 31).toUInt32).toInt32) &&& (7 : Int32)) % (6 : Int32)))])) _
      refine XS.istore X0.here hx rfl (hb hby at_60) rfl (l' := #[.val (.long q0_0), .second, .val (.long q0_1), .second, .val (.long q0_2), .second, .val (.long q0_3), .second, .val (.long q0_4), .second, .val (.int p0_5), .val (.long x2), .second, .val (.long x4), .second, .val (.long x6), .second, .val (.long x8), .second, .val (.long x10), .second, .val (.int (5 : Int32)), .val (.int ((((p0_5.toUInt32 >>> ((3 : Int32) &&& 31).toUInt32).toInt32) &&& (7 : Int32)) % (6 : Int32))), .unset, .unset, .unset]) rfl ?_
      show Steps p.tables e below (s₁.setTop (mkF m 62 #[.val (.long q0_0), .second, .val (.long q0_1), .second, .val (.long q0_2), .second, .val (.long q0_3), .second, .val (.long q0_4), .second, .val (.int p0_5), .val (.long x2), .second, .val (.long x4), .second, .val (.long x6), .second, .val (.long x8), .second, .val (.long x10), .second, .val (.int (5 : Int32)), .val (.int ((((p0_5.toUInt32 >>> ((3 : Int32) &&& 31).toUInt32).toInt32) &&& (7 : Int32)) % (6 : Int32))), .unset, .unset, .unset] [])) _
      rw [← hx268]
      refine st270 _ ?_
      refine XS.dup X270.here hx rfl (hb hby at_65) rfl rfl ?_
      show Steps p.tables e below (T270.setTop (mkF m 66 A269 [(.ref b270), (.ref b270)])) _
      refine st271.trans ?_
      refine XS.astore X271.here hx rfl (hb hby at_69) rfl rfl (l' := A272) rfl ?_
      refine XS.iload X271.here hx rfl (hb hby at_71) rfl ?_
      show Steps p.tables e below (T271.setTop (mkF m 73 A272 [(.int (5 : Int32))])) _
      refine XS.ifNo X271.here hx rfl (hb hby at_73) rfl ((if0 _ _).trans (tlt (by decide : (0 : Int32) < (5 : Int32))).2.2.2) ?_
      refine XS.aload X271.here hx rfl (hb hby at_76) rfl rfl ?_
      refine XS.lload X271.here hx rfl (hb hby at_78) rfl ?_
      show Steps p.tables e below (T271.setTop (mkF m 80 A272 [(.long x2), (.ref b270)])) _
      refine st273.trans ?_
      refine XS.iload X273.here hx rfl (hb hby at_83) rfl ?_
      refine XS.iconst X273.here hx rfl (hb hby at_85) ?_
      show Steps p.tables e below (T273.setTop (mkF m 86 A272 [(.int (1 : Int32)), (.int (5 : Int32))])) _
      refine XS.icmpNo X273.here hx rfl (hb hby at_86) rfl (tlt (by decide : (1 : Int32) < (5 : Int32))).2.2.2 ?_
      refine XS.aload X273.here hx rfl (hb hby at_89) rfl rfl ?_
      refine XS.lload X273.here hx rfl (hb hby at_91) rfl ?_
      show Steps p.tables e below (T273.setTop (mkF m 93 A272 [(.long x4), (.ref b270)])) _
      refine st275.trans ?_
      refine XS.iload X275.here hx rfl (hb hby at_96) rfl ?_
      refine XS.iconst X275.here hx rfl (hb hby at_98) ?_
      show Steps p.tables e below (T275.setTop (mkF m 99 A272 [(.int (2 : Int32)), (.int (5 : Int32))])) _
      refine XS.icmpNo X275.here hx rfl (hb hby at_99) rfl (tlt (by decide : (2 : Int32) < (5 : Int32))).2.2.2 ?_
      refine XS.aload X275.here hx rfl (hb hby at_102) rfl rfl ?_
      refine XS.lload X275.here hx rfl (hb hby at_104) rfl ?_
      show Steps p.tables e below (T275.setTop (mkF m 106 A272 [(.long x6), (.ref b270)])) _
      refine st279.trans ?_
      refine XS.iload X279.here hx rfl (hb hby at_109) rfl ?_
      refine XS.iconst X279.here hx rfl (hb hby at_111) ?_
      show Steps p.tables e below (T279.setTop (mkF m 112 A272 [(.int (3 : Int32)), (.int (5 : Int32))])) _
      refine XS.icmpNo X279.here hx rfl (hb hby at_112) rfl (tlt (by decide : (3 : Int32) < (5 : Int32))).2.2.2 ?_
      refine XS.aload X279.here hx rfl (hb hby at_115) rfl rfl ?_
      refine XS.lload X279.here hx rfl (hb hby at_117) rfl ?_
      show Steps p.tables e below (T279.setTop (mkF m 119 A272 [(.long x8), (.ref b270)])) _
      refine st284.trans ?_
      refine XS.iload X284.here hx rfl (hb hby at_122) rfl ?_
      refine XS.iconst X284.here hx rfl (hb hby at_124) ?_
      show Steps p.tables e below (T284.setTop (mkF m 125 A272 [(.int (4 : Int32)), (.int (5 : Int32))])) _
      refine XS.icmpNo X284.here hx rfl (hb hby at_125) rfl (tlt (by decide : (4 : Int32) < (5 : Int32))).2.2.2 ?_
      refine XS.aload X284.here hx rfl (hb hby at_128) rfl rfl ?_
      refine XS.lload X284.here hx rfl (hb hby at_130) rfl ?_
      show Steps p.tables e below (T284.setTop (mkF m 132 A272 [(.long x10), (.ref b270)])) _
      refine st286.trans ?_
      refine XS.lconst X286.here hx rfl (hb hby at_135) ?_
      refine XS.lstore X286.here hx rfl (hb hby at_136) rfl (l' := A293) rfl ?_
      show Steps p.tables e below (T286.setTop (mkF m 138 A293 [])) _
      refine XS.iload X286.here hx rfl (hb hby at_138) rfl ?_
      exact k
    obtain ⟨v297, hv297⟩ : ∃ z : Int64, z = (if (0 : Int32) < x268 then ((0 : Int64) + x2) else (0 : Int64)) := ⟨_, rfl⟩
    obtain ⟨T298, Lo298, X298, N298, e298, G298⟩ := own_join X286 N286 (h := T286.heap) (mkF m 140 A293 [(.int x268)]) (mkF m 150 #[.val (.long q0_0), .second, .val (.long q0_1), .second, .val (.long q0_2), .second, .val (.long q0_3), .second, .val (.long q0_4), .second, .val (.int p0_5), .val (.long x2), .second, .val (.long x4), .second, .val (.long x6), .second, .val (.long x8), .second, .val (.long x10), .second, .val (.int (5 : Int32)), .val (.int x268), .val (.ref b270), .val (.long v297), .second] []) (by
      by_cases h140_295 : (0 : Int32) < x268
      · let A296 : Array Slot := #[.val (.long q0_0), .second, .val (.long q0_1), .second, .val (.long q0_2), .second, .val (.long q0_3), .second, .val (.long q0_4), .second, .val (.int p0_5), .val (.long x2), .second, .val (.long x4), .second, .val (.long x6), .second, .val (.long x8), .second, .val (.long x10), .second, .val (.int (5 : Int32)), .val (.int x268), .val (.ref b270), .val (.long ((0 : Int64) + x2)), .second]
        refine ⟨T286, _, X286, N286, rfl, fun t k => ?_⟩
        rw [show v297 = ((0 : Int64) + x2) from hv297.trans (if_pos h140_295)] at k
        show Steps p.tables e below (T286.setTop (mkF m 140 A293 [(.int x268)])) _
        refine XS.ifNo X286.here hx rfl (hb hby at_140) rfl ((if0 _ _).trans (tlt h140_295).2.2.2) ?_
        refine XS.lload X286.here hx rfl (hb hby at_143) rfl ?_
        refine XS.lload X286.here hx rfl (hb hby at_145) rfl ?_
        show Steps p.tables e below (T286.setTop (mkF m 147 A293 [(.long x2), (.long (0 : Int64))])) _
        refine XS.ladd X286.here hx rfl (hb hby at_147) rfl ?_
        refine XS.lstore X286.here hx rfl (hb hby at_148) rfl (l' := A296) rfl ?_
        exact k
      · refine ⟨T286, _, X286, N286, rfl, fun t k => ?_⟩
        rw [show v297 = (0 : Int64) from hv297.trans (if_neg h140_295)] at k
        show Steps p.tables e below (T286.setTop (mkF m 140 A293 [(.int x268)])) _
        refine XS.ifYes X286.here hx rfl (pc0 := 140) (pc' := 150) rfl (hb hby at_140) rfl ((if0 _ _).trans (flt h140_295).2.2.2) (by decide) (by decide) ?_
        exact k)
    let A299 : Array Slot := #[.val (.long q0_0), .second, .val (.long q0_1), .second, .val (.long q0_2), .second, .val (.long q0_3), .second, .val (.long q0_4), .second, .val (.int p0_5), .val (.long x2), .second, .val (.long x4), .second, .val (.long x6), .second, .val (.long x8), .second, .val (.long x10), .second, .val (.int (5 : Int32)), .val (.int x268), .val (.ref b270), .val (.long v297), .second]
    have G300 : ∀ t, Steps p.tables e below (T298.setTop (mkF m 153 A299 [(.int (1 : Int32)), (.int x268)])) t → Steps p.tables e below (T298.setTop (mkF m 150 A299 [])) t := by
      intro t k
      show Steps p.tables e below (T298.setTop (mkF m 150 A299 [])) _
      refine XS.iload X298.here hx rfl (hb hby at_150) rfl ?_
      refine XS.iconst X298.here hx rfl (hb hby at_152) ?_
      exact k
    obtain ⟨v303, hv303⟩ : ∃ z : Int64, z = (if (1 : Int32) < x268 then (v297 + x4) else v297) := ⟨_, rfl⟩
    obtain ⟨T304, Lo304, X304, N304, e304, G304⟩ := own_join X298 N298 (h := T286.heap) (mkF m 153 A299 [(.int (1 : Int32)), (.int x268)]) (mkF m 163 #[.val (.long q0_0), .second, .val (.long q0_1), .second, .val (.long q0_2), .second, .val (.long q0_3), .second, .val (.long q0_4), .second, .val (.int p0_5), .val (.long x2), .second, .val (.long x4), .second, .val (.long x6), .second, .val (.long x8), .second, .val (.long x10), .second, .val (.int (5 : Int32)), .val (.int x268), .val (.ref b270), .val (.long v303), .second] []) (by
      by_cases h153_301 : (1 : Int32) < x268
      · let A302 : Array Slot := #[.val (.long q0_0), .second, .val (.long q0_1), .second, .val (.long q0_2), .second, .val (.long q0_3), .second, .val (.long q0_4), .second, .val (.int p0_5), .val (.long x2), .second, .val (.long x4), .second, .val (.long x6), .second, .val (.long x8), .second, .val (.long x10), .second, .val (.int (5 : Int32)), .val (.int x268), .val (.ref b270), .val (.long (v297 + x4)), .second]
        refine ⟨T298, _, X298, N298, e298, fun t k => ?_⟩
        rw [show v303 = (v297 + x4) from hv303.trans (if_pos h153_301)] at k
        show Steps p.tables e below (T298.setTop (mkF m 153 A299 [(.int (1 : Int32)), (.int x268)])) _
        refine XS.icmpNo X298.here hx rfl (hb hby at_153) rfl (tlt h153_301).2.2.2 ?_
        refine XS.lload X298.here hx rfl (hb hby at_156) rfl ?_
        refine XS.lload X298.here hx rfl (hb hby at_158) rfl ?_
        show Steps p.tables e below (T298.setTop (mkF m 160 A299 [(.long x4), (.long v297)])) _
        refine XS.ladd X298.here hx rfl (hb hby at_160) rfl ?_
        refine XS.lstore X298.here hx rfl (hb hby at_161) rfl (l' := A302) rfl ?_
        exact k
      · refine ⟨T298, _, X298, N298, e298, fun t k => ?_⟩
        rw [show v303 = v297 from hv303.trans (if_neg h153_301)] at k
        show Steps p.tables e below (T298.setTop (mkF m 153 A299 [(.int (1 : Int32)), (.int x268)])) _
        refine XS.icmpYes X298.here hx rfl (pc0 := 153) (pc' := 163) rfl (hb hby at_153) rfl (flt h153_301).2.2.2 (by decide) (by decide) ?_
        exact k)
    let A305 : Array Slot := #[.val (.long q0_0), .second, .val (.long q0_1), .second, .val (.long q0_2), .second, .val (.long q0_3), .second, .val (.long q0_4), .second, .val (.int p0_5), .val (.long x2), .second, .val (.long x4), .second, .val (.long x6), .second, .val (.long x8), .second, .val (.long x10), .second, .val (.int (5 : Int32)), .val (.int x268), .val (.ref b270), .val (.long v303), .second]
    have G306 : ∀ t, Steps p.tables e below (T304.setTop (mkF m 166 A305 [(.int (2 : Int32)), (.int x268)])) t → Steps p.tables e below (T304.setTop (mkF m 163 A305 [])) t := by
      intro t k
      show Steps p.tables e below (T304.setTop (mkF m 163 A305 [])) _
      refine XS.iload X304.here hx rfl (hb hby at_163) rfl ?_
      refine XS.iconst X304.here hx rfl (hb hby at_165) ?_
      exact k
    obtain ⟨v309, hv309⟩ : ∃ z : Int64, z = (if (2 : Int32) < x268 then (v303 + x6) else v303) := ⟨_, rfl⟩
    obtain ⟨T310, Lo310, X310, N310, e310, G310⟩ := own_join X304 N304 (h := T286.heap) (mkF m 166 A305 [(.int (2 : Int32)), (.int x268)]) (mkF m 176 #[.val (.long q0_0), .second, .val (.long q0_1), .second, .val (.long q0_2), .second, .val (.long q0_3), .second, .val (.long q0_4), .second, .val (.int p0_5), .val (.long x2), .second, .val (.long x4), .second, .val (.long x6), .second, .val (.long x8), .second, .val (.long x10), .second, .val (.int (5 : Int32)), .val (.int x268), .val (.ref b270), .val (.long v309), .second] []) (by
      by_cases h166_307 : (2 : Int32) < x268
      · let A308 : Array Slot := #[.val (.long q0_0), .second, .val (.long q0_1), .second, .val (.long q0_2), .second, .val (.long q0_3), .second, .val (.long q0_4), .second, .val (.int p0_5), .val (.long x2), .second, .val (.long x4), .second, .val (.long x6), .second, .val (.long x8), .second, .val (.long x10), .second, .val (.int (5 : Int32)), .val (.int x268), .val (.ref b270), .val (.long (v303 + x6)), .second]
        refine ⟨T304, _, X304, N304, e304, fun t k => ?_⟩
        rw [show v309 = (v303 + x6) from hv309.trans (if_pos h166_307)] at k
        show Steps p.tables e below (T304.setTop (mkF m 166 A305 [(.int (2 : Int32)), (.int x268)])) _
        refine XS.icmpNo X304.here hx rfl (hb hby at_166) rfl (tlt h166_307).2.2.2 ?_
        refine XS.lload X304.here hx rfl (hb hby at_169) rfl ?_
        refine XS.lload X304.here hx rfl (hb hby at_171) rfl ?_
        show Steps p.tables e below (T304.setTop (mkF m 173 A305 [(.long x6), (.long v303)])) _
        refine XS.ladd X304.here hx rfl (hb hby at_173) rfl ?_
        refine XS.lstore X304.here hx rfl (hb hby at_174) rfl (l' := A308) rfl ?_
        exact k
      · refine ⟨T304, _, X304, N304, e304, fun t k => ?_⟩
        rw [show v309 = v303 from hv309.trans (if_neg h166_307)] at k
        show Steps p.tables e below (T304.setTop (mkF m 166 A305 [(.int (2 : Int32)), (.int x268)])) _
        refine XS.icmpYes X304.here hx rfl (pc0 := 166) (pc' := 176) rfl (hb hby at_166) rfl (flt h166_307).2.2.2 (by decide) (by decide) ?_
        exact k)
    let A311 : Array Slot := #[.val (.long q0_0), .second, .val (.long q0_1), .second, .val (.long q0_2), .second, .val (.long q0_3), .second, .val (.long q0_4), .second, .val (.int p0_5), .val (.long x2), .second, .val (.long x4), .second, .val (.long x6), .second, .val (.long x8), .second, .val (.long x10), .second, .val (.int (5 : Int32)), .val (.int x268), .val (.ref b270), .val (.long v309), .second]
    have G312 : ∀ t, Steps p.tables e below (T310.setTop (mkF m 179 A311 [(.int (3 : Int32)), (.int x268)])) t → Steps p.tables e below (T310.setTop (mkF m 176 A311 [])) t := by
      intro t k
      show Steps p.tables e below (T310.setTop (mkF m 176 A311 [])) _
      refine XS.iload X310.here hx rfl (hb hby at_176) rfl ?_
      refine XS.iconst X310.here hx rfl (hb hby at_178) ?_
      exact k
    obtain ⟨v315, hv315⟩ : ∃ z : Int64, z = (if (3 : Int32) < x268 then (v309 + x8) else v309) := ⟨_, rfl⟩
    obtain ⟨T316, Lo316, X316, N316, e316, G316⟩ := own_join X310 N310 (h := T286.heap) (mkF m 179 A311 [(.int (3 : Int32)), (.int x268)]) (mkF m 189 #[.val (.long q0_0), .second, .val (.long q0_1), .second, .val (.long q0_2), .second, .val (.long q0_3), .second, .val (.long q0_4), .second, .val (.int p0_5), .val (.long x2), .second, .val (.long x4), .second, .val (.long x6), .second, .val (.long x8), .second, .val (.long x10), .second, .val (.int (5 : Int32)), .val (.int x268), .val (.ref b270), .val (.long v315), .second] []) (by
      by_cases h179_313 : (3 : Int32) < x268
      · let A314 : Array Slot := #[.val (.long q0_0), .second, .val (.long q0_1), .second, .val (.long q0_2), .second, .val (.long q0_3), .second, .val (.long q0_4), .second, .val (.int p0_5), .val (.long x2), .second, .val (.long x4), .second, .val (.long x6), .second, .val (.long x8), .second, .val (.long x10), .second, .val (.int (5 : Int32)), .val (.int x268), .val (.ref b270), .val (.long (v309 + x8)), .second]
        refine ⟨T310, _, X310, N310, e310, fun t k => ?_⟩
        rw [show v315 = (v309 + x8) from hv315.trans (if_pos h179_313)] at k
        show Steps p.tables e below (T310.setTop (mkF m 179 A311 [(.int (3 : Int32)), (.int x268)])) _
        refine XS.icmpNo X310.here hx rfl (hb hby at_179) rfl (tlt h179_313).2.2.2 ?_
        refine XS.lload X310.here hx rfl (hb hby at_182) rfl ?_
        refine XS.lload X310.here hx rfl (hb hby at_184) rfl ?_
        show Steps p.tables e below (T310.setTop (mkF m 186 A311 [(.long x8), (.long v309)])) _
        refine XS.ladd X310.here hx rfl (hb hby at_186) rfl ?_
        refine XS.lstore X310.here hx rfl (hb hby at_187) rfl (l' := A314) rfl ?_
        exact k
      · refine ⟨T310, _, X310, N310, e310, fun t k => ?_⟩
        rw [show v315 = v309 from hv315.trans (if_neg h179_313)] at k
        show Steps p.tables e below (T310.setTop (mkF m 179 A311 [(.int (3 : Int32)), (.int x268)])) _
        refine XS.icmpYes X310.here hx rfl (pc0 := 179) (pc' := 189) rfl (hb hby at_179) rfl (flt h179_313).2.2.2 (by decide) (by decide) ?_
        exact k)
    let A317 : Array Slot := #[.val (.long q0_0), .second, .val (.long q0_1), .second, .val (.long q0_2), .second, .val (.long q0_3), .second, .val (.long q0_4), .second, .val (.int p0_5), .val (.long x2), .second, .val (.long x4), .second, .val (.long x6), .second, .val (.long x8), .second, .val (.long x10), .second, .val (.int (5 : Int32)), .val (.int x268), .val (.ref b270), .val (.long v315), .second]
    have G318 : ∀ t, Steps p.tables e below (T316.setTop (mkF m 192 A317 [(.int (4 : Int32)), (.int x268)])) t → Steps p.tables e below (T316.setTop (mkF m 189 A317 [])) t := by
      intro t k
      show Steps p.tables e below (T316.setTop (mkF m 189 A317 [])) _
      refine XS.iload X316.here hx rfl (hb hby at_189) rfl ?_
      refine XS.iconst X316.here hx rfl (hb hby at_191) ?_
      exact k
    obtain ⟨v321, hv321⟩ : ∃ z : Int64, z = (if (4 : Int32) < x268 then (v315 + x10) else v315) := ⟨_, rfl⟩
    obtain ⟨T322, Lo322, X322, N322, e322, G322⟩ := own_join X316 N316 (h := T286.heap) (mkF m 192 A317 [(.int (4 : Int32)), (.int x268)]) (mkF m 202 #[.val (.long q0_0), .second, .val (.long q0_1), .second, .val (.long q0_2), .second, .val (.long q0_3), .second, .val (.long q0_4), .second, .val (.int p0_5), .val (.long x2), .second, .val (.long x4), .second, .val (.long x6), .second, .val (.long x8), .second, .val (.long x10), .second, .val (.int (5 : Int32)), .val (.int x268), .val (.ref b270), .val (.long v321), .second] []) (by
      by_cases h192_319 : (4 : Int32) < x268
      · let A320 : Array Slot := #[.val (.long q0_0), .second, .val (.long q0_1), .second, .val (.long q0_2), .second, .val (.long q0_3), .second, .val (.long q0_4), .second, .val (.int p0_5), .val (.long x2), .second, .val (.long x4), .second, .val (.long x6), .second, .val (.long x8), .second, .val (.long x10), .second, .val (.int (5 : Int32)), .val (.int x268), .val (.ref b270), .val (.long (v315 + x10)), .second]
        refine ⟨T316, _, X316, N316, e316, fun t k => ?_⟩
        rw [show v321 = (v315 + x10) from hv321.trans (if_pos h192_319)] at k
        show Steps p.tables e below (T316.setTop (mkF m 192 A317 [(.int (4 : Int32)), (.int x268)])) _
        refine XS.icmpNo X316.here hx rfl (hb hby at_192) rfl (tlt h192_319).2.2.2 ?_
        refine XS.lload X316.here hx rfl (hb hby at_195) rfl ?_
        refine XS.lload X316.here hx rfl (hb hby at_197) rfl ?_
        show Steps p.tables e below (T316.setTop (mkF m 199 A317 [(.long x10), (.long v315)])) _
        refine XS.ladd X316.here hx rfl (hb hby at_199) rfl ?_
        refine XS.lstore X316.here hx rfl (hb hby at_200) rfl (l' := A320) rfl ?_
        exact k
      · refine ⟨T316, _, X316, N316, e316, fun t k => ?_⟩
        rw [show v321 = v315 from hv321.trans (if_neg h192_319)] at k
        show Steps p.tables e below (T316.setTop (mkF m 192 A317 [(.int (4 : Int32)), (.int x268)])) _
        refine XS.icmpYes X316.here hx rfl (pc0 := 192) (pc' := 202) rfl (hb hby at_192) rfl (flt h192_319).2.2.2 (by decide) (by decide) ?_
        exact k)
    let A323 : Array Slot := #[.val (.long q0_0), .second, .val (.long q0_1), .second, .val (.long q0_2), .second, .val (.long q0_3), .second, .val (.long q0_4), .second, .val (.int p0_5), .val (.long x2), .second, .val (.long x4), .second, .val (.long x6), .second, .val (.long x8), .second, .val (.long x10), .second, .val (.int (5 : Int32)), .val (.int x268), .val (.ref b270), .val (.long v321), .second]
    obtain ⟨cq324, kq324, q324a, q324b, q324c⟩ := isOf hZ e322 P286_1
    obtain ⟨_, _, ⟨T324, L324, k324, n324⟩, -, X324, ⟨Lc324, hQ324, l324, y324, z324⟩, st324⟩ := X322.virtualBack hx (y := (⟨"com/example/motley/motley/CountTree", "sumBefore", "(I)J"⟩ : MethodName)) (z := (⟨"com/example/motley/motley/CountTree", "sumBefore", "(I)J"⟩ : MethodName)) hown (mvT hZ (ow52 hw)) (mvT hZ (ow48 hw)) (notFace_of_selects (args := #[]) (mvT hZ (ow50 hw))) (mvT hZ (ow50 hw)) (mvT hZ (ow49 hw)) (by decide) (backOf (W := 0) (rm9_9 l Z a0 hw [] b270 x268 bx3_0_286 y290 kx3_0_286 y274 y278 y282 y285 y291 y291 (0 : Int64) y292 T286.heap n0 Z286 (own_p6 ((p0_5.toUInt32 >>> ((3 : Int32) &&& 31).toUInt32).toInt32) x268 hx268) P286_1 P286_2 P286_3 P286_4 P286_5) hZ (ow51 hw) (ow3 hw) (by decide) (by decide)) q324a q324c (g := (mkF m 206 A323 [(.int x268), (.ref b270)])) rfl (by rw [hml]; rfl) (Steps.refl _) (argsL := [(.int x268)]) (rest := []) (lenOf pd__I_J rfl) rfl (by show 2 * 0 + _ ≤ _; exact Nat.le_of_eq rfl) (hb hby at_206) (fun _ _ => ⟨rfl, e322, (by decide : 6 + 0 ≤ _), (by decide : 18 + 0 ≤ _)⟩)
    dsimp only [Pt.U, Pt.locs, Pt.cells, Pt.slots] at X324 l324 y324 z324 st324 hQ324
    subst l324 y324 z324
    obtain ⟨rfl, Nq324, e324⟩ := hQ324
    have N324 := Fr.app N322 Nq324
    obtain ⟨x325, hx325⟩ : ∃ z : Int64, z = (if x268 = (0 : Int32) then (0 : Int64) else (if x268 = (1 : Int32) then ((0 : Int64) + y274) else (if x268 = (2 : Int32) then ((0 : Int64) + y278) else (if x268 = (3 : Int32) then (((0 : Int64) + y282) + y278) else (if x268 = (4 : Int32) then ((0 : Int64) + y285) else (((0 : Int64) + y291) + y285)))))) := ⟨_, rfl⟩
    have G326 : ∀ t, Steps p.tables e below (T324.setTop (mkF m 212 A323 [(.int (lcmpW x325 v321))])) t → Steps p.tables e below (T322.setTop (mkF m 202 A323 [])) t := by
      intro t k
      show Steps p.tables e below (T322.setTop (mkF m 202 A323 [])) _
      refine XS.aload X322.here hx rfl (hb hby at_202) rfl rfl ?_
      refine XS.iload X322.here hx rfl (hb hby at_204) rfl ?_
      refine st324.trans ?_
      show Steps p.tables e below (T324.setTop (mkF m 209 #[.val (.long q0_0), .second, .val (.long q0_1), .second, .val (.long q0_2), .second, .val (.long q0_3), .second, .val (.long q0_4), .second, .val (.int p0_5), .val (.long x2), .second, .val (.long x4), .second, .val (.long x6), .second, .val (.long x8), .second, .val (.long x10), .second, .val (.int (5 : Int32)), .val (.int x268), .val (.ref b270), .val (.long v321), .second] [(.long (if x268 = (0 : Int32) then (0 : Int64) else (if x268 = (1 : Int32) then ((0 : Int64) + y274) else (if x268 = (2 : Int32) then ((0 : Int64) + y278) else (if x268 = (3 : Int32) then (((0 : Int64) + y282) + y278) else (if x268 = (4 : Int32) then ((0 : Int64) + y285) else (((0 : Int64) + y291) + y285)))))))])) _
      rw [← hx325]
      refine XS.lload X324.here hx rfl (hb hby at_209) rfl ?_
      refine XS.lcmp X324.here hx rfl (hb hby at_211) rfl ?_
      exact k
    obtain ⟨v328, hv328⟩ : ∃ z : Int32, z = (if x325 = v321 then (1 : Int32) else (0 : Int32)) := ⟨_, rfl⟩
    obtain ⟨T329, Lo329, X329, N329, e329, G329⟩ := own_join X324 N324 (h := T286.heap) (mkF m 212 A323 [(.int (lcmpW x325 v321))]) (mkF m 220 A323 [(.int v328)]) (by
      by_cases h212_327 : x325 = v321
      · refine ⟨T324, _, X324, N324, e324, fun t k => ?_⟩
        rw [show v328 = (1 : Int32) from hv328.trans (if_pos h212_327)] at k
        show Steps p.tables e below (T324.setTop (mkF m 212 A323 [(.int (lcmpW x325 v321))])) _
        refine XS.ifNo X324.here hx rfl (hb hby at_212) rfl ((if0 _ _).trans (teq ((lw_eq _ _).mpr h212_327)).2) ?_
        refine XS.iconst X324.here hx rfl (hb hby at_215) ?_
        refine XS.goto X324.here hx rfl (pc0 := 216) (pc' := 220) rfl (hb hby at_216) (by decide) (by decide) ?_
        exact k
      · refine ⟨T324, _, X324, N324, e324, fun t k => ?_⟩
        rw [show v328 = (0 : Int32) from hv328.trans (if_neg h212_327)] at k
        show Steps p.tables e below (T324.setTop (mkF m 212 A323 [(.int (lcmpW x325 v321))])) _
        refine XS.ifYes X324.here hx rfl (pc0 := 212) (pc' := 219) rfl (hb hby at_212) rfl ((if0 _ _).trans (feq (fun q => h212_327 ((lw_eq _ _).mp q))).2) (by decide) (by decide) ?_
        refine XS.iconst X324.here hx rfl (hb hby at_219) ?_
        exact k)
    have fin : v328 = (1 : Int32) := by
      exact own_fin6 q0_0 q0_1 q0_2 q0_3 q0_4 p0_5 x2 hx2 x4 hx4 x6 hx6 x8 hx8 x10 hx10 x12 hx12 x268 hx268 y274 hy274 y277 hy277 y278 hy278 y282 hy282 y283 hy283 y285 hy285 y290 hy290 y291 hy291 y292 hy292 v297 hv297 v303 hv303 v309 hv309 v315 hv315 v321 hv321 x325 hx325 v328 hv328 hc20
    obtain ⟨fs, hr, hrun, hended, hW, hsame⟩ := X329.leave (v := some (.int (1 : Int32))) (fun h => by rw [Bd.returns] at h; cases h)
    refine ⟨_, _, pre0 _ ?_, hrun, hended, _, _, rfl, ?_, ⟨_, rfl⟩, hW, hsame.mono (by decide) (by decide)⟩
    · refine G14 _ ?_
      refine G294 _ ?_
      refine G298 _ ?_
      refine G300 _ ?_
      refine G304 _ ?_
      refine G306 _ ?_
      refine G310 _ ?_
      refine G312 _ ?_
      refine G316 _ ?_
      refine G318 _ ?_
      refine G322 _ ?_
      refine G326 _ ?_
      refine G329 _ ?_
      show Steps p.tables e below (T329.setTop (mkF m 220 A323 [(.int v328)])) _
      rw [fin]
      exact retN X329 hx (t := .boolean) Bd.returns (by simp) (hb hby at_220) hr
    · exact ⟨rfl, N329⟩
set_option maxRecDepth 65536 in
set_option maxHeartbeats 40000000 in
theorem comes_1 {Post : Tables → Env → Array Value → State → Outcome → State → Prop} (hpost : ∀ tb e args s v u, (limb_1_1.after args s (.returned v) u = true ∧ limb_1_2.after args s (.returned v) u = true ∧ True) → FrameEnd s (.returned v) u (Jvm.fieldLocs frame_1_writes args s ++ Jvm.arrayLocs frame_1_arrays args s ++ Jvm.staticLocs frame_1_statics s) 24 128 → Post tb e args s (.returned v) u) :
    ArmFor flags0 classFile x code maxLocals ret World_1 tables_1 room_1 Calls_1 rest_1 Pre_1 Post := by
  intro l hfl _ _ p e ha hc hk s m args below hf hA hF happ hP
  obtain ⟨hcalls, hrest, hpre⟩ := hP
  obtain ⟨-, -, -, hnamed, -, -, -, hat⟩ := (Spec.applies_iff hf).mp happ
  obtain ⟨hg, hn⟩ := and_e (Cond.before_iff.mp (show (Jvm.Cond.and given_1 narrow_1).before args s = true from hpre))
  obtain ⟨g1, g2⟩ := and_e hg
  obtain ⟨g3, g4⟩ := and_e g2
  obtain ⟨g5, g6⟩ := and_e g4
  obtain ⟨g7, g8⟩ := and_e g6
  obtain ⟨g9, g10⟩ := and_e g8
  obtain ⟨g11, g12⟩ := and_e g10
  obtain ⟨w0, w1, w2, w3, w4, w5, rfl⟩ : ∃ w0 w1 w2 w3 w4 w5 : Value, args = #[w0, w1, w2, w3, w4, w5] := by
    have hs : args.size = 6 := by simpa [Cond.value, given_1] using g1
    obtain ⟨L⟩ := args
    match L, hs with
    | [w0, w1, w2, w3, w4, w5], _ => exact ⟨w0, w1, w2, w3, w4, w5, rfl⟩
  have hw := fun d (hd : d ∈ tables_1) => atoms_spec (ws := Jvm.Cond.code x code maxLocals ret :: tables_1) hat d (List.mem_cons_of_mem _ hd)
  have hfit : Fit s := fun {y c} hc i hi => by
    obtain ⟨ha, rfl⟩ := Array.getElem?_eq_some_iff.mp hc
    have q := List.all_eq_true.mp ((Array.all_eq_true_iff_forall_mem.mp hF) _ (Array.getElem_mem ha)) i (List.mem_range.mpr hi)
    simpa [Array.getElem?_eq_getElem hi] using q
  obtain ⟨i0, ei0⟩ := isL_v g3
  obtain rfl : w0 = (.long i0) := Option.some.inj ei0
  obtain ⟨i1, ei1⟩ := isL_v g5
  obtain rfl : w1 = (.long i1) := Option.some.inj ei1
  obtain ⟨i2, ei2⟩ := isL_v g7
  obtain rfl : w2 = (.long i2) := Option.some.inj ei2
  obtain ⟨i3, ei3⟩ := isL_v g9
  obtain rfl : w3 = (.long i3) := Option.some.inj ei3
  obtain ⟨i4, ei4⟩ := isL_v g11
  obtain rfl : w4 = (.long i4) := Option.some.inj ei4
  obtain ⟨i5, ei5⟩ := is_v g12
  obtain rfl : w5 = (.int i5) := Option.some.inj ei5
  obtain ⟨n, o, h1, h2, h3, _, L, rfl, ⟨rfl, N⟩, hq⟩ := rm0 l s _ hw tables_1 i0 i1 i2 i3 i4 i5 s.heap s.heap.size (Nat.le_refl _) p e ha hc hk s m _ below hf ((Spec.applies_iff_loose hf).mp happ).1 ⟨rfl, State.Warmed39.refl s, rfl⟩ trivial
  refine ⟨n, _, h1, h2, h3, hpost _ _ _ _ _ _ ⟨Cond.after_iff.mpr rfl, Cond.after_iff.mpr (eq_i res_at (Term.int_eval (1)) rfl), trivial⟩ ⟨hq.1, hq.2.1, (hq.2.2.sift fun y hy => Or.inr (N y hy)).mono (by decide) (by decide)⟩⟩
theorem main_1_1 : Claimed_1_1 := comes_1 fun _ _ _ _ _ _ h hF => ⟨h.1, hF⟩
theorem main_1_2 : Claimed_1_2 := comes_1 fun _ _ _ _ _ _ h hF => ⟨h.2.1, hF⟩
end Jvm.Pilot.@@N@@
namespace Jvm.Pilot.@@N@@
open Jvm Jvm.ClassFile Sem Op Lib Jvm.Free Jvm.Stand Jvm.Pilot.@@N@@.Jvm.D
/-! MADE BY PROGRAM (witnessworld.py) out of the Statement's table words and the real class files: 14 classes; the members and pool entries that the words name. The judged class is class 1, her method 1. -/
namespace start1
open Jvm.ClassFile
def u (s : String) : CpInfo := .utf8 (stringToUtf16 s)
/-- a pool by its gaps: so many unusable entries, then the entry; so many at the end -/
def gap : Nat → List CpInfo → List CpInfo
  | 0, r => r
  | n + 1, r => .unusable :: gap n r
def poolList (es : List (Nat × CpInfo)) (last : Nat) : List CpInfo := es.foldr (fun e r => gap e.1 (e.2 :: r)) (gap last [])
def pool (es : List (Nat × CpInfo)) (last : Nat) : Array CpInfo := ⟨poolList es last⟩
def fileOf (pool : Array CpInfo) (this : Nat) (attrs : Array Attribute := #[]) (ms : Array MethodInfo := #[]) (fl : Nat := 33) (sup : Nat := 0) (ifs : Array Nat := #[]) (fds : Array FieldInfo := #[]) : ClassFile where
  minorVersion := 0
  majorVersion := 65
  constantPool := pool
  accessFlags := fl
  thisClass := this
  superClass := sup
  interfaces := ifs
  fields := fds
  methods := ms
  attributes := attrs
def plain (name : String) (sup : Option ClassId) : Class where
  name := name
  kind := .ordinary
  loader := none
  accessFlags := 33
  super := sup
  interfaces := #[]
  cf := none
  fields := #[]
  methods := #[]
  instanceTypes := #[]
  staticTypes := #[]
  resolved := #[]
  callSites := []
  init := .initialized
  statics := none
  mirror := none

def pool0 : Array CpInfo := pool [(5, u "<init>"), (0, u "()V"), (1, .class_ 10), (1, u "java/lang/Object")] 113

def k0c0 : Code := { maxStack := 0, maxLocals := 1, code := object_method_1_code, exceptionTable := #[], attributes := #[] }
def k0m0 : Method := { name := "<init>", desc := "()V", sig := { parameters := [], returnType := none }, accessFlags := 1, code := some k0c0 }
/-- java/lang/Object -/
def k0 : Class := { plain "java/lang/Object" none with
  accessFlags := 33
  interfaces := #[]
  cf := some (fileOf pool0 8 #[] #[{ accessFlags := 1, nameIndex := 5, descriptorIndex := 6, attributes := #[] }] 33 0 #[] #[])
  fields := #[]
  methods := #[k0m0]
  instanceTypes := #[]
  staticTypes := #[]
  resolved := Array.replicate 124 none
  statics := none }

def pool1 : Array CpInfo := pool [(2, .class_ 4), (0, .nameAndType 5 6), (0, u "java/lang/Object"), (0, u "<init>"), (0, u "()V"), (2, .long 9223372036854775807), (1, .class_ 12), (0, u "com/example/motley/motley/CountTree"), (0, .methodref 11 3), (0, .methodref 11 15), (0, .nameAndType 16 17), (0, u "append"), (0, u "(J)V"), (0, .methodref 11 19), (0, .nameAndType 20 21), (0, u "sumBefore"), (0, u "(I)J"), (0, .class_ 23), (0, u "com/example/motley/motley/CountTreeSumBeforePinLaw"), (2, u "law"), (0, u "(JJJJJI)Z")] 3

def k1m0 : Method := { name := "<init>", desc := "()V", sig := { parameters := [], returnType := none }, accessFlags := 1, code := none }
def k1c1 : Code := { maxStack := 4, maxLocals := 26, code := code, exceptionTable := #[], attributes := #[] }
def k1m1 : Method := { name := "law", desc := "(JJJJJI)Z", sig := { parameters := [.long, .long, .long, .long, .long, .int], returnType := some .boolean }, accessFlags := 9, code := some k1c1 }
/-- com/example/motley/motley/CountTreeSumBeforePinLaw -/
def k1 : Class := { plain "com/example/motley/motley/CountTreeSumBeforePinLaw" (some 0) with
  accessFlags := 49
  interfaces := #[]
  cf := some (fileOf pool1 22 #[] #[{ accessFlags := 1, nameIndex := 5, descriptorIndex := 6, attributes := #[] }, { accessFlags := 9, nameIndex := 26, descriptorIndex := 27, attributes := #[] }] 49 2 #[] #[])
  fields := #[]
  methods := #[k1m0, k1m1]
  instanceTypes := #[]
  staticTypes := #[]
  resolved := Array.replicate 31 none
  statics := none }

def pool2 : Array CpInfo := pool [(1, .methodref 2 3), (0, .class_ 4), (0, .nameAndType 5 6), (0, u "java/lang/Object"), (0, u "<init>"), (0, u "()V"), (0, .fieldref 8 9), (0, .class_ 10), (0, .nameAndType 11 12), (0, u "com/example/motley/motley/CountTree"), (0, u "tree"), (0, u "[J"), (0, .fieldref 8 14), (0, .nameAndType 15 16), (0, u "size"), (0, u "I"), (0, .methodref 18 19), (0, .class_ 20), (0, .nameAndType 21 22), (0, u "java/lang/Math"), (0, u "max"), (0, u "(II)I"), (0, .methodref 24 25), (0, .class_ 26), (0, .nameAndType 27 28), (0, u "java/util/Arrays"), (0, u "copyOf"), (0, u "([JI)[J"), (0, .fieldref 8 30), (0, .nameAndType 31 32), (0, u "total"), (0, u "J"), (0, .methodref 8 34), (0, .nameAndType 35 36), (0, u "sumBefore"), (0, u "(I)J"), (0, .methodref 8 38), (0, .nameAndType 39 40), (0, u "reserve"), (0, u "(I)V"), (0, .methodref 8 42), (0, .nameAndType 43 44), (0, u "add"), (0, u "(IJ)V"), (11, u "append"), (0, u "(J)V")] 6

def k2c0 : Code := { maxStack := 2, maxLocals := 1, code := prog_14_method_1_code, exceptionTable := #[], attributes := #[] }
def k2m0 : Method := { name := "<init>", desc := "()V", sig := { parameters := [], returnType := none }, accessFlags := 0, code := some k2c0 }
def k2c1 : Code := { maxStack := 6, maxLocals := 7, code := prog_14_method_3_code, exceptionTable := #[], attributes := #[] }
def k2m1 : Method := { name := "reserve", desc := "(I)V", sig := { parameters := [.int], returnType := none }, accessFlags := 0, code := some k2c1 }
def k2c2 : Code := { maxStack := 4, maxLocals := 3, code := prog_14_method_4_code, exceptionTable := #[], attributes := #[] }
def k2m2 : Method := { name := "append", desc := "(J)V", sig := { parameters := [.long], returnType := none }, accessFlags := 0, code := some k2c2 }
def k2c3 : Code := { maxStack := 6, maxLocals := 5, code := prog_14_method_7_code, exceptionTable := #[], attributes := #[] }
def k2m3 : Method := { name := "add", desc := "(IJ)V", sig := { parameters := [.int, .long], returnType := none }, accessFlags := 0, code := some k2c3 }
def k2c4 : Code := { maxStack := 5, maxLocals := 5, code := prog_14_method_8_code, exceptionTable := #[], attributes := #[] }
def k2m4 : Method := { name := "sumBefore", desc := "(I)J", sig := { parameters := [.int], returnType := some .long }, accessFlags := 0, code := some k2c4 }
/-- com/example/motley/motley/CountTree -/
def k2 : Class := { plain "com/example/motley/motley/CountTree" (some 0) with
  accessFlags := 48
  interfaces := #[]
  cf := some (fileOf pool2 8 #[] #[{ accessFlags := 0, nameIndex := 5, descriptorIndex := 6, attributes := #[] }, { accessFlags := 0, nameIndex := 39, descriptorIndex := 40, attributes := #[] }, { accessFlags := 0, nameIndex := 56, descriptorIndex := 57, attributes := #[] }, { accessFlags := 0, nameIndex := 43, descriptorIndex := 44, attributes := #[] }, { accessFlags := 0, nameIndex := 35, descriptorIndex := 36, attributes := #[] }] 48 2 #[] #[{ accessFlags := 2, nameIndex := 11, descriptorIndex := 12, attributes := #[] }, { accessFlags := 2, nameIndex := 15, descriptorIndex := 16, attributes := #[] }, { accessFlags := 2, nameIndex := 31, descriptorIndex := 32, attributes := #[] }])
  fields := #[{ name := "tree", type := (.array .long), accessFlags := 2, slot := 0, constantValue := 0 }, { name := "size", type := .int, accessFlags := 2, slot := 1, constantValue := 0 }, { name := "total", type := .long, accessFlags := 2, slot := 2, constantValue := 0 }]
  methods := #[k2m0, k2m1, k2m2, k2m3, k2m4]
  instanceTypes := #[(.array .long), .int, .long]
  staticTypes := #[]
  resolved := Array.replicate 64 none
  statics := none }

def pool3 : Array CpInfo := pool [(1, .class_ 2), (0, u "java/lang/Math"), (1, .class_ 6), (1, u "java/lang/Object"), (0, u "<init>"), (0, u "()V"), (89, .class_ 100), (1, u "java/lang/Math$RandomNumberGeneratorHolder"), (71, u "negativeZeroFloatBits"), (0, u "J"), (2, u "negativeZeroDoubleBits"), (21, u "max"), (2, u "min"), (43, u "$assertionsDisabled"), (0, u "Z"), (88, u "(II)I"), (2, u "twoToTheDoubleScaleDown"), (0, u "D"), (4, u "twoToTheDoubleScaleUp"), (9, u "E"), (3, u "PI"), (2, u "TAU"), (2, u "DEGREES_TO_RADIANS"), (0, u "RADIANS_TO_DEGREES")] 94

def k3m0 : Method := { name := "<init>", desc := "()V", sig := { parameters := [], returnType := none }, accessFlags := 2, code := none }
def k3c1 : Code := { maxStack := 2, maxLocals := 2, code := jdk_29_method_65_code, exceptionTable := #[], attributes := #[] }
def k3m1 : Method := { name := "max", desc := "(II)I", sig := { parameters := [.int, .int], returnType := some .int }, accessFlags := 9, code := some k3c1 }
def k3c2 : Code := { maxStack := 2, maxLocals := 2, code := jdk_29_method_69_code, exceptionTable := #[], attributes := #[] }
def k3m2 : Method := { name := "min", desc := "(II)I", sig := { parameters := [.int, .int], returnType := some .int }, accessFlags := 9, code := some k3c2 }
/-- java/lang/Math -/
def k3 : Class := { plain "java/lang/Math" (some 0) with
  accessFlags := 49
  interfaces := #[]
  cf := some (fileOf pool3 1 #[.nestMembers #[98]] #[{ accessFlags := 2, nameIndex := 7, descriptorIndex := 8, attributes := #[] }, { accessFlags := 9, nameIndex := 198, descriptorIndex := 335, attributes := #[] }, { accessFlags := 9, nameIndex := 201, descriptorIndex := 335, attributes := #[] }] 49 4 #[] #[{ accessFlags := 25, nameIndex := 354, descriptorIndex := 339, attributes := #[] }, { accessFlags := 25, nameIndex := 358, descriptorIndex := 339, attributes := #[] }, { accessFlags := 25, nameIndex := 361, descriptorIndex := 339, attributes := #[] }, { accessFlags := 26, nameIndex := 364, descriptorIndex := 339, attributes := #[] }, { accessFlags := 26, nameIndex := 365, descriptorIndex := 339, attributes := #[] }, { accessFlags := 26, nameIndex := 172, descriptorIndex := 173, attributes := #[] }, { accessFlags := 26, nameIndex := 176, descriptorIndex := 173, attributes := #[] }, { accessFlags := 8, nameIndex := 344, descriptorIndex := 339, attributes := #[] }, { accessFlags := 8, nameIndex := 338, descriptorIndex := 339, attributes := #[] }, { accessFlags := 4120, nameIndex := 245, descriptorIndex := 246, attributes := #[] }])
  fields := #[{ name := "E", type := .double, accessFlags := 25, slot := 0, constantValue := 0 }, { name := "PI", type := .double, accessFlags := 25, slot := 1, constantValue := 0 }, { name := "TAU", type := .double, accessFlags := 25, slot := 2, constantValue := 0 }, { name := "DEGREES_TO_RADIANS", type := .double, accessFlags := 26, slot := 3, constantValue := 0 }, { name := "RADIANS_TO_DEGREES", type := .double, accessFlags := 26, slot := 4, constantValue := 0 }, { name := "negativeZeroFloatBits", type := .long, accessFlags := 26, slot := 5, constantValue := 0 }, { name := "negativeZeroDoubleBits", type := .long, accessFlags := 26, slot := 6, constantValue := 0 }, { name := "twoToTheDoubleScaleUp", type := .double, accessFlags := 8, slot := 7, constantValue := 0 }, { name := "twoToTheDoubleScaleDown", type := .double, accessFlags := 8, slot := 8, constantValue := 0 }, { name := "$assertionsDisabled", type := .boolean, accessFlags := 4120, slot := 9, constantValue := 0 }]
  methods := #[k3m0, k3m1, k3m2]
  instanceTypes := #[]
  staticTypes := #[.double, .double, .double, .double, .double, .long, .long, .double, .double, .boolean]
  resolved := Array.replicate 460 none
  statics := none }

def pool4 : Array CpInfo := pool [(2, .class_ 4), (1, u "java/lang/Object"), (0, u "<init>"), (0, u "()V"), (7, .class_ 16), (1, u "java/util/Arrays"), (57, .class_ 76), (1, u "java/util/Arrays$NaturalOrder"), (36, .class_ 115), (1, u "java/util/Arrays$LegacyMergeSort"), (1, u "Z"), (32, .methodref 151 152), (0, .class_ 153), (0, .nameAndType 154 155), (0, u "java/lang/System"), (0, u "arraycopy"), (0, u "(Ljava/lang/Object;ILjava/lang/Object;II)V"), (146, u "copyOf"), (1, .methodref 305 306), (0, .class_ 307), (0, .nameAndType 308 309), (0, u "java/lang/Math"), (0, u "min"), (0, u "(II)I"), (65, .class_ 376), (0, u "java/util/Arrays$ArrayList"), (68, u "$assertionsDisabled"), (269, u "MIN_ARRAY_SORT_GRAN"), (0, u "I"), (2, u "INSERTIONSORT_THRESHOLD"), (152, u "([JI)[J"), (102, .class_ 976), (0, u "java/util/Arrays$ArrayItr")] 52

def k4m0 : Method := { name := "<init>", desc := "()V", sig := { parameters := [], returnType := none }, accessFlags := 2, code := none }
def k4c1 : Code := { maxStack := 6, maxLocals := 3, code := jdk_65_method_124_code, exceptionTable := #[], attributes := #[] }
def k4m1 : Method := { name := "copyOf", desc := "([JI)[J", sig := { parameters := [(.array .long), .int], returnType := some (.array .long) }, accessFlags := 9, code := some k4c1 }
/-- java/util/Arrays -/
def k4 : Class := { plain "java/util/Arrays" (some 0) with
  accessFlags := 49
  interfaces := #[]
  cf := some (fileOf pool4 14 #[.nestMembers #[975, 375, 113, 74]] #[{ accessFlags := 2, nameIndex := 5, descriptorIndex := 6, attributes := #[] }, { accessFlags := 9, nameIndex := 302, descriptorIndex := 872, attributes := #[] }] 49 2 #[] #[{ accessFlags := 26, nameIndex := 715, descriptorIndex := 716, attributes := #[] }, { accessFlags := 26, nameIndex := 719, descriptorIndex := 716, attributes := #[] }, { accessFlags := 4120, nameIndex := 445, descriptorIndex := 117, attributes := #[] }])
  fields := #[{ name := "MIN_ARRAY_SORT_GRAN", type := .int, accessFlags := 26, slot := 0, constantValue := 0 }, { name := "INSERTIONSORT_THRESHOLD", type := .int, accessFlags := 26, slot := 1, constantValue := 0 }, { name := "$assertionsDisabled", type := .boolean, accessFlags := 4120, slot := 2, constantValue := 0 }]
  methods := #[k4m0, k4m1]
  instanceTypes := #[]
  staticTypes := #[.int, .int, .boolean]
  resolved := Array.replicate 1029 none
  statics := none }

def pool5 : Array CpInfo := pool [(2, .class_ 4), (1, u "java/lang/Object"), (0, u "<init>"), (0, u "()V"), (1, .class_ 10), (1, u "java/lang/System"), (0, u "allowSecurityManager"), (0, u "I"), (16, u "cons"), (0, u "Ljava/io/Console;"), (77, .class_ 110), (1, u "java/lang/System$CallersHolder"), (43, u "initialErrStream"), (0, u "Ljava/io/PrintStream;"), (19, u "security"), (0, u "Ljava/lang/SecurityManager;"), (31, .class_ 209), (0, u "java/lang/System$1"), (7, u "props"), (0, u "Ljava/util/Properties;"), (2, u "lineSeparator"), (0, u "Ljava/lang/String;"), (96, .class_ 321), (1, u "java/lang/System$LoggerFinder"), (5, .class_ 328), (0, u "java/lang/System$Logger"), (67, u "err"), (2, u "out"), (91, u "notSupportedJnuEncoding"), (15, u "in"), (17, u "initialIn"), (0, u "Ljava/io/InputStream;"), (35, u "bootLayer"), (0, u "Ljava/lang/ModuleLayer;"), (99, .class_ 664), (0, u "java/lang/System$2"), (9, u "NEVER"), (2, u "MAYBE"), (49, u "arraycopy"), (0, u "(Ljava/lang/Object;ILjava/lang/Object;II)V"), (72, .class_ 802), (0, u "java/lang/System$Logger$Level")] 31

def k5m0 : Method := { name := "<init>", desc := "()V", sig := { parameters := [], returnType := none }, accessFlags := 2, code := none }
def k5m1 : Method := { name := "arraycopy", desc := "(Ljava/lang/Object;ILjava/lang/Object;II)V", sig := { parameters := [(.object "java/lang/Object"), .int, (.object "java/lang/Object"), .int, .int], returnType := none }, accessFlags := 265, code := none }
/-- java/lang/System -/
def k5 : Class := { plain "java/lang/System" (some 0) with
  accessFlags := 49
  interfaces := #[]
  cf := some (fileOf pool5 8 #[.nestMembers #[319, 327, 801, 108, 663, 208]] #[{ accessFlags := 2, nameIndex := 5, descriptorIndex := 6, attributes := #[] }, { accessFlags := 265, nameIndex := 727, descriptorIndex := 728, attributes := #[] }] 49 2 #[] #[{ accessFlags := 25, nameIndex := 507, descriptorIndex := 526, attributes := #[] }, { accessFlags := 25, nameIndex := 399, descriptorIndex := 155, attributes := #[] }, { accessFlags := 25, nameIndex := 396, descriptorIndex := 155, attributes := #[] }, { accessFlags := 10, nameIndex := 525, descriptorIndex := 526, attributes := #[] }, { accessFlags := 26, nameIndex := 674, descriptorIndex := 12, attributes := #[] }, { accessFlags := 26, nameIndex := 677, descriptorIndex := 12, attributes := #[] }, { accessFlags := 10, nameIndex := 11, descriptorIndex := 12, attributes := #[] }, { accessFlags := 74, nameIndex := 175, descriptorIndex := 176, attributes := #[] }, { accessFlags := 10, nameIndex := 491, descriptorIndex := 222, attributes := #[] }, { accessFlags := 74, nameIndex := 29, descriptorIndex := 30, attributes := #[] }, { accessFlags := 74, nameIndex := 154, descriptorIndex := 155, attributes := #[] }, { accessFlags := 10, nameIndex := 217, descriptorIndex := 218, attributes := #[] }, { accessFlags := 10, nameIndex := 221, descriptorIndex := 222, attributes := #[] }, { accessFlags := 8, nameIndex := 562, descriptorIndex := 563, attributes := #[] }])
  fields := #[{ name := "in", type := (.object "java/io/InputStream"), accessFlags := 25, slot := 0, constantValue := 0 }, { name := "out", type := (.object "java/io/PrintStream"), accessFlags := 25, slot := 1, constantValue := 0 }, { name := "err", type := (.object "java/io/PrintStream"), accessFlags := 25, slot := 2, constantValue := 0 }, { name := "initialIn", type := (.object "java/io/InputStream"), accessFlags := 10, slot := 3, constantValue := 0 }, { name := "NEVER", type := .int, accessFlags := 26, slot := 4, constantValue := 0 }, { name := "MAYBE", type := .int, accessFlags := 26, slot := 5, constantValue := 0 }, { name := "allowSecurityManager", type := .int, accessFlags := 10, slot := 6, constantValue := 0 }, { name := "security", type := (.object "java/lang/SecurityManager"), accessFlags := 74, slot := 7, constantValue := 0 }, { name := "notSupportedJnuEncoding", type := (.object "java/lang/String"), accessFlags := 10, slot := 8, constantValue := 0 }, { name := "cons", type := (.object "java/io/Console"), accessFlags := 74, slot := 9, constantValue := 0 }, { name := "initialErrStream", type := (.object "java/io/PrintStream"), accessFlags := 74, slot := 10, constantValue := 0 }, { name := "props", type := (.object "java/util/Properties"), accessFlags := 10, slot := 11, constantValue := 0 }, { name := "lineSeparator", type := (.object "java/lang/String"), accessFlags := 10, slot := 12, constantValue := 0 }, { name := "bootLayer", type := (.object "java/lang/ModuleLayer"), accessFlags := 8, slot := 13, constantValue := 0 }]
  methods := #[k5m0, k5m1]
  instanceTypes := #[]
  staticTypes := #[(.object "java/io/InputStream"), (.object "java/io/PrintStream"), (.object "java/io/PrintStream"), (.object "java/io/InputStream"), .int, .int, .int, (.object "java/lang/SecurityManager"), (.object "java/lang/String"), (.object "java/io/Console"), (.object "java/io/PrintStream"), (.object "java/util/Properties"), (.object "java/lang/String"), (.object "java/lang/ModuleLayer")]
  resolved := Array.replicate 834 none
  statics := none }

def pool6 : Array CpInfo := pool [(1, u "java/lang/Cloneable"), (0, .class_ 1), (0, u "java/lang/Object"), (0, .class_ 3)] 3

/-- java/lang/Cloneable -/
def k6 : Class := { plain "java/lang/Cloneable" (some 0) with
  accessFlags := 1537
  interfaces := #[]
  cf := some (fileOf pool6 2 #[] #[] 1537 4 #[] #[])
  fields := #[]
  methods := #[]
  instanceTypes := #[]
  staticTypes := #[]
  resolved := Array.replicate 8 none
  statics := none }

def pool7 : Array CpInfo := pool [(1, u "java/io/Serializable"), (0, .class_ 1), (0, u "java/lang/Object"), (0, .class_ 3)] 3

/-- java/io/Serializable -/
def k7 : Class := { plain "java/io/Serializable" (some 0) with
  accessFlags := 1537
  interfaces := #[]
  cf := some (fileOf pool7 2 #[] #[] 1537 4 #[] #[])
  fields := #[]
  methods := #[]
  instanceTypes := #[]
  staticTypes := #[]
  resolved := Array.replicate 8 none
  statics := none }

/-- the primitive byte -/
def k8 : Class := { plain "byte" none with kind := .primitive 'B', accessFlags := 0x411 }
/-- [B -/
def k9 : Class := { plain "[B" (some 0) with kind := .array 8 .byte, interfaces := #[6, 7], accessFlags := 1041 }

/-- the primitive int -/
def k10 : Class := { plain "int" none with kind := .primitive 'I', accessFlags := 0x411 }
/-- [I -/
def k11 : Class := { plain "[I" (some 0) with kind := .array 10 .int, interfaces := #[6, 7], accessFlags := 1041 }

/-- the primitive long -/
def k12 : Class := { plain "long" none with kind := .primitive 'J', accessFlags := 0x411 }
/-- [J -/
def k13 : Class := { plain "[J" (some 0) with kind := .array 12 .long, interfaces := #[6, 7], accessFlags := 1041 }

def heap : Heap := #[]
def classes : Array Class := #[k0, k1, k2, k3, k4, k5, k6, k7, k8, k9, k10, k11, k12, k13]
def interned : List (Array UInt16 × Addr) := []
def slotsUsed : Nat := 0
def theMethod : MethodId := ⟨1, 1⟩
def args0 : Array Value := #[.long 5, .long 5, .long 5, .long 5, .long 5, .int 5]
def aboutOver (below : List Frame) : State where
  vm := { classes := classes, interned := interned.toArray }
  heap := heap
  slotsUsed := slotsUsed
  threads := #[{ frames := .invoking theMethod args0 :: below }]
def below0 : List Frame := [.native { method := ⟨0, 0⟩, args := #[] }]
def about1 : State := aboutOver below0
def p0 : Program := .bare "" "" ""
def e0 : Env := launch0.env 0 0 0
theorem w_frames : about1.frames = Frame.invoking theMethod args0 :: below0 := rfl
set_option maxRecDepth 65536 in
theorem w_args : argsFit about1.vm theMethod args0 = true := by decide +kernel
set_option maxRecDepth 65536 in
theorem w_heap : heapFits about1 = true := by decide +kernel
set_option maxRecDepth 65536 in
theorem w_runnable : about1.curStatus? = some .runnable := by decide +kernel
set_option maxRecDepth 65536 in
theorem w_alone : about1.alone = true := by decide +kernel
set_option maxRecDepth 65536 in
theorem w_named : about1.methodNamed? x = some theMethod := by decide +kernel
set_option maxRecDepth 65536 in
theorem w_hears : about1.hears theMethod below0 = true := by decide +kernel
set_option maxRecDepth 65536 in
theorem w_ripe : about1.ripe theMethod args0 below0 = true := by decide +kernel
theorem w_running : about1.status = .running := rfl
set_option maxRecDepth 65536 in
theorem w_room : about1.hasRoom e0.platform room_1 = true :=
  launch0.hasRoom_least _ room_1 (by decide +kernel) (by decide +kernel) (by decide +kernel) (by decide +kernel) (by decide +kernel) (by decide +kernel)
theorem allAtoms_all (ts : List Jvm.Cond) (a : Array Jvm.Value) (st : Jvm.State) : (allAtoms ts).before a st = ts.all (fun c => c.before a st) := by
  induction ts with
  | nil => rfl
  | cons c t ih =>
    show (Jvm.Cond.and c (allAtoms t)).before a st = _
    rw [Jvm.Cond.before_and, ih, List.all_cons]
def words1 : List Jvm.Cond := Jvm.Cond.code x code maxLocals ret :: tables_1
/-- a 'code' word, met by the world's own term for the bytes: nothing is compared byte by byte -/
theorem code_word {y : MethodName} {bytes : ByteArray} {mx : Nat} {rt : Option FieldType} {a : Array Value} {s : State} {m : MethodId} {meth : Method} {c : Code} (h1 : s.methodNamed? y = some m) (h2 : s.vm.method? m = some meth) (h3 : meth.code = some c) (h4 : c.code = bytes)
    (h5 : (c.maxLocals == mx && c.exceptionTable.isEmpty && decide (c.maxStack ≤ mostOperands) && decide (meth.sig.returnType = rt) && !meth.locks && decide (parseMethodDescriptor y.desc = some meth.sig)) = true) : (Jvm.Cond.code y bytes mx rt).before a s = true := by
  simp only [Bool.and_eq_true, beq_iff_eq, Bool.not_eq_true', decide_eq_true_eq] at h5
  obtain ⟨⟨⟨⟨⟨g1, g2⟩, g3⟩, g4⟩, g5⟩, g6⟩ := h5
  simp [Cond.before, Cond.holds, Cond.value, h1, h2, h3, h4, g1, g2, g3, g4, g5, g6]
def isCode : Jvm.Cond → Bool
  | .code _ _ _ _ => true
  | _ => false
theorem all_split {L : List Jvm.Cond} {P : Jvm.Cond → Bool} (h1 : L.all (fun c => isCode c || P c) = true) (h2 : ∀ c ∈ L.filter isCode, P c = true) : L.all P = true := by
  refine List.all_eq_true.mpr fun c hc => ?_
  have h := List.all_eq_true.mp h1 c hc
  rcases Bool.eq_false_or_eq_true (isCode c) with hi | hi
  · exact h2 c (List.mem_filter.mpr ⟨hc, hi⟩)
  · simpa [hi] using h
set_option maxRecDepth 65536 in
theorem w_c0 : (Jvm.Cond.code x code maxLocals ret).before args0 about1 = true := code_word (m := ⟨1, 1⟩) (meth := k1m1) (c := k1c1) (by decide +kernel) rfl rfl rfl (by decide +kernel)
set_option maxRecDepth 65536 in
theorem w_c1 : (Jvm.Cond.code ({ cls := "com/example/motley/motley/CountTree", name := "<init>", desc := "()V" } : Jvm.MethodName) prog_14_method_1_code (1 : Nat) (Option.none : Option Jvm.ClassFile.FieldType)).before args0 about1 = true := code_word (m := ⟨2, 0⟩) (meth := k2m0) (c := k2c0) (by decide +kernel) rfl rfl rfl (by decide +kernel)
set_option maxRecDepth 65536 in
theorem w_c2 : (Jvm.Cond.code ({ cls := "java/lang/Object", name := "<init>", desc := "()V" } : Jvm.MethodName) object_method_1_code (1 : Nat) (Option.none : Option Jvm.ClassFile.FieldType)).before args0 about1 = true := code_word (m := ⟨0, 0⟩) (meth := k0m0) (c := k0c0) (by decide +kernel) rfl rfl rfl (by decide +kernel)
set_option maxRecDepth 65536 in
theorem w_c3 : (Jvm.Cond.code ({ cls := "com/example/motley/motley/CountTree", name := "append", desc := "(J)V" } : Jvm.MethodName) prog_14_method_4_code (3 : Nat) (Option.none : Option Jvm.ClassFile.FieldType)).before args0 about1 = true := code_word (m := ⟨2, 2⟩) (meth := k2m2) (c := k2c2) (by decide +kernel) rfl rfl rfl (by decide +kernel)
set_option maxRecDepth 65536 in
theorem w_c4 : (Jvm.Cond.code ({ cls := "com/example/motley/motley/CountTree", name := "reserve", desc := "(I)V" } : Jvm.MethodName) prog_14_method_3_code (7 : Nat) (Option.none : Option Jvm.ClassFile.FieldType)).before args0 about1 = true := code_word (m := ⟨2, 1⟩) (meth := k2m1) (c := k2c1) (by decide +kernel) rfl rfl rfl (by decide +kernel)
set_option maxRecDepth 65536 in
theorem w_c5 : (Jvm.Cond.code ({ cls := "java/lang/Math", name := "max", desc := "(II)I" } : Jvm.MethodName) jdk_29_method_65_code (2 : Nat) (Option.some Jvm.ClassFile.FieldType.int)).before args0 about1 = true := code_word (m := ⟨3, 1⟩) (meth := k3m1) (c := k3c1) (by decide +kernel) rfl rfl rfl (by decide +kernel)
set_option maxRecDepth 65536 in
theorem w_c6 : (Jvm.Cond.code ({ cls := "java/util/Arrays", name := "copyOf", desc := "([JI)[J" } : Jvm.MethodName) jdk_65_method_124_code (3 : Nat) (Option.some (Jvm.ClassFile.FieldType.array Jvm.ClassFile.FieldType.long))).before args0 about1 = true := code_word (m := ⟨4, 1⟩) (meth := k4m1) (c := k4c1) (by decide +kernel) rfl rfl rfl (by decide +kernel)
set_option maxRecDepth 65536 in
theorem w_c7 : (Jvm.Cond.code ({ cls := "java/lang/Math", name := "min", desc := "(II)I" } : Jvm.MethodName) jdk_29_method_69_code (2 : Nat) (Option.some Jvm.ClassFile.FieldType.int)).before args0 about1 = true := code_word (m := ⟨3, 2⟩) (meth := k3m2) (c := k3c2) (by decide +kernel) rfl rfl rfl (by decide +kernel)
set_option maxRecDepth 65536 in
theorem w_c8 : (Jvm.Cond.code ({ cls := "com/example/motley/motley/CountTree", name := "add", desc := "(IJ)V" } : Jvm.MethodName) prog_14_method_7_code (5 : Nat) (Option.none : Option Jvm.ClassFile.FieldType)).before args0 about1 = true := code_word (m := ⟨2, 3⟩) (meth := k2m3) (c := k2c3) (by decide +kernel) rfl rfl rfl (by decide +kernel)
set_option maxRecDepth 65536 in
theorem w_c9 : (Jvm.Cond.code ({ cls := "com/example/motley/motley/CountTree", name := "sumBefore", desc := "(I)J" } : Jvm.MethodName) prog_14_method_8_code (5 : Nat) (Option.some Jvm.ClassFile.FieldType.long)).before args0 about1 = true := code_word (m := ⟨2, 4⟩) (meth := k2m4) (c := k2c4) (by decide +kernel) rfl rfl rfl (by decide +kernel)
def codes1 : List Jvm.Cond := [Jvm.Cond.code x code maxLocals ret, Jvm.Cond.code ({ cls := "com/example/motley/motley/CountTree", name := "<init>", desc := "()V" } : Jvm.MethodName) prog_14_method_1_code (1 : Nat) (Option.none : Option Jvm.ClassFile.FieldType), Jvm.Cond.code ({ cls := "java/lang/Object", name := "<init>", desc := "()V" } : Jvm.MethodName) object_method_1_code (1 : Nat) (Option.none : Option Jvm.ClassFile.FieldType), Jvm.Cond.code ({ cls := "com/example/motley/motley/CountTree", name := "append", desc := "(J)V" } : Jvm.MethodName) prog_14_method_4_code (3 : Nat) (Option.none : Option Jvm.ClassFile.FieldType), Jvm.Cond.code ({ cls := "com/example/motley/motley/CountTree", name := "reserve", desc := "(I)V" } : Jvm.MethodName) prog_14_method_3_code (7 : Nat) (Option.none : Option Jvm.ClassFile.FieldType), Jvm.Cond.code ({ cls := "java/lang/Math", name := "max", desc := "(II)I" } : Jvm.MethodName) jdk_29_method_65_code (2 : Nat) (Option.some Jvm.ClassFile.FieldType.int), Jvm.Cond.code ({ cls := "java/util/Arrays", name := "copyOf", desc := "([JI)[J" } : Jvm.MethodName) jdk_65_method_124_code (3 : Nat) (Option.some (Jvm.ClassFile.FieldType.array Jvm.ClassFile.FieldType.long)), Jvm.Cond.code ({ cls := "java/lang/Math", name := "min", desc := "(II)I" } : Jvm.MethodName) jdk_29_method_69_code (2 : Nat) (Option.some Jvm.ClassFile.FieldType.int), Jvm.Cond.code ({ cls := "com/example/motley/motley/CountTree", name := "add", desc := "(IJ)V" } : Jvm.MethodName) prog_14_method_7_code (5 : Nat) (Option.none : Option Jvm.ClassFile.FieldType), Jvm.Cond.code ({ cls := "com/example/motley/motley/CountTree", name := "sumBefore", desc := "(I)J" } : Jvm.MethodName) prog_14_method_8_code (5 : Nat) (Option.some Jvm.ClassFile.FieldType.long)]
set_option maxRecDepth 65536 in
theorem codes_eq : words1.filter isCode = codes1 := rfl
theorem w_codes : ∀ c ∈ words1.filter isCode, c.before args0 about1 = true := by
  rw [codes_eq]
  intro c hc
  simp only [codes1, List.mem_cons, List.not_mem_nil, or_false] at hc
  rcases hc with rfl | rfl | rfl | rfl | rfl | rfl | rfl | rfl | rfl | rfl
  · exact w_c0
  · exact w_c1
  · exact w_c2
  · exact w_c3
  · exact w_c4
  · exact w_c5
  · exact w_c6
  · exact w_c7
  · exact w_c8
  · exact w_c9
set_option maxRecDepth 65536 in
theorem w_t1 : (words1.take 24).all (fun c => isCode c || c.before args0 about1) = true := by decide +kernel
set_option maxRecDepth 65536 in
theorem w_t2 : ((words1.drop 24).take 24).all (fun c => isCode c || c.before args0 about1) = true := by decide +kernel
set_option maxRecDepth 65536 in
theorem w_t3 : ((words1.drop 24).drop 24).all (fun c => isCode c || c.before args0 about1) = true := by decide +kernel
theorem w_tables : (allAtoms (Jvm.Cond.code x code maxLocals ret :: tables_1)).before args0 about1 = true := by
  rw [allAtoms_all]
  show words1.all (fun c => c.before args0 about1) = true
  refine all_split ?_ w_codes
  rw [← List.take_append_drop 24 words1, List.all_append, w_t1, ← List.take_append_drop 24 (words1.drop 24), List.all_append, w_t2, w_t3]
  rfl
set_option maxRecDepth 65536 in
theorem w_case : (Jvm.Cond.and given_1 narrow_1).before args0 about1 = true := by decide +kernel
theorem w_applies : (headSpec (Jvm.Cond.code x code maxLocals ret :: tables_1) room_1).applies x e0.platform about1 = true :=
  (Spec.applies_iff w_frames).mpr ⟨w_running, w_runnable, w_alone, w_named, w_hears, w_ripe, w_room, w_tables⟩
theorem atStart : AtStart classFile x code maxLocals ret World_1 tables_1 room_1 Calls_1 rest_1 Pre_1 launch0 p0 e0 about1 theMethod args0 below0 :=
  ⟨lists_1, trivial, launch0.admits_env _ _ _, launch0.least_env, fairChoices_fair.cas, fairChoices_fair.clock, w_frames, w_args, w_heap, w_applies, trivial, trivial, w_case⟩
end start1
theorem witness_1 : WitnessClaimed_1 := ⟨start1.p0, start1.e0, start1.about1, start1.theMethod, start1.args0, start1.below0, start1.atStart⟩
end Jvm.Pilot.@@N@@
