import JvmDerived
import JvmDerived.Pilot.@@N@@Statement
import JvmDerived.Pilot.@@N@@Code
set_option linter.unusedVariables false
set_option linter.unusedSimpArgs false
namespace Jvm.RoadKit
open Sem ClassFile Op Lib Jvm.Stand Jvm.Free Jvm.LawKit
section New
variable {p : Program} {l : Launch} {e : Env} {R : Room} {s : State} {m : MethodId} {args : Array Value} {below : List Frame} {meth : Method} {c : Code} {T : State} {locs : List Loc} {cells slots : Nat}
theorem retI (X : Stand p l e R s m args below meth c T locs cells slots) (hx : p.tables.exec = Jvm.exec) {pc : Nat} {Ls : Array Slot} {z : Int32} {rest : List Value} (hret : meth.sig.returnType = some .int) (hd : decode c.code pc = .ok (.ireturn, 1)) {fs : List Frame}
    (hl : ∀ (f : JFrame) (acts : List Action), f.method = m → f.locked = none → f.entered = [] → (doReturn e (T.setTop f) acts (some (.int z))).1 = T.setFrames fs) : Steps p.tables e below (T.setTop (mkF m pc Ls (.int z :: rest))) (T.setFrames fs) := by
  have hm' : T.vm.method? m = some meth := X.method'
  have hn : narrow .int (.int z) = .int z := rfl
  show Steps p.tables e below (T.setTop { method := m, pc := pc, locals := Ls, stack := _ :: rest, locked := none }) _
  jvm_step X.here [X.here.top, hx, hd, hm', hret, hn]
  first | (intro acts; rw [hl _ acts rfl rfl rfl]) | rw [hl _ _ rfl rfl rfl]
  exact Steps.refl _
theorem own_retJ (X : Stand p l e R s m args below meth c T locs cells slots) (hx : p.tables.exec = Jvm.exec) {pc : Nat} {Ls : Array Slot} {z : Int64} {rest : List Value} (hret : meth.sig.returnType = some .long) (hd : decode c.code pc = .ok (.lreturn, 1)) {fs : List Frame}
    (hl : ∀ (f : JFrame) (acts : List Action), f.method = m → f.locked = none → f.entered = [] → (doReturn e (T.setTop f) acts (some (.long z))).1 = T.setFrames fs) : Steps p.tables e below (T.setTop (mkF m pc Ls (.long z :: rest))) (T.setFrames fs) := by
  have hm' : T.vm.method? m = some meth := X.method'
  show Steps p.tables e below (T.setTop { method := m, pc := pc, locals := Ls, stack := _ :: rest, locked := none }) _
  jvm_step X.here [X.here.top, hx, hd, hm', hret, narrow]
  first | (intro acts; rw [hl _ acts rfl rfl rfl]) | rw [hl _ _ rfl rfl rfl]
  exact Steps.refl _
theorem own_join {n0 : Nat} (X : Stand p l e R s m args below meth c T locs cells slots) (N : Fr n0 locs) {h : Heap} (g g' : JFrame)
    (H : ∃ (T' : State) (locs' : List Loc), Stand p l e R s m args below meth c T' locs' cells slots ∧ Fr n0 locs' ∧ T'.heap = h ∧ ∀ t, Steps p.tables e below (T'.setTop g') t → Steps p.tables e below (T.setTop g) t) :
    ∃ (T' : State) (locs' : List Loc), Stand p l e R s m args below meth c T' locs' cells slots ∧ Fr n0 locs' ∧ T'.heap = h ∧ ∀ t, Steps p.tables e below (T'.setTop g') t → Steps p.tables e below (T.setTop g) t := H
theorem own_mono (X : Stand p l e R s m args below meth c T locs cells slots) {c' s' : Nat} (h1 : cells ≤ c') (h2 : slots ≤ s') : Stand p l e R s m args below meth c T locs c' s' :=
  ⟨X.admits, X.cas, X.clock, X.frames, X.room, X.hears, X.method, X.code, X.here, X.tail, X.warmed, X.limits, X.bytes, X.same.mono h1 h2⟩
theorem own_lrem {g : JFrame} {target : State} (X : Stand p l e R s m args below meth c T locs cells slots) (hx : p.tables.exec = Jvm.exec) (hg : g.method = m) {x y : Int64} {rest : List Value} (hd : decode c.code g.pc = .ok (.lrem, 1)) (hs : g.stack = .long y :: .long x :: rest) (hy : y ≠ 0)
    (hr : Steps p.tables e below (T.setTop { g with pc := g.pc + 1, stack := .long (x % y) :: rest }) target) : Steps p.tables e below (T.setTop g) target :=
  Jvm.Free.XS.lrem X.here hx hg hd hs hy (by rw [lrem_mod x y]; exact hr)
def Bya (Z : State) (h : Heap) (a : Addr) (z : Int32) (f : Int32 → Int32) : Prop := ∃ c : Cell, Arr Z h a c .byte ∧ c.slots.size = z.toNatClampNeg ∧ ∀ j : Int32, ¬ j < 0 → j < z → c.slots[j.toNatClampNeg]? = some (.int (f j))
theorem Bya.lt {Z : State} {h : Heap} {a : Addr} {z : Int32} {f : Int32 → Int32} (F : Bya Z h a z f) : a < h.size := by obtain ⟨c, A, -⟩ := F; exact A.lt
theorem Bya.ext {Z : State} {h h' : Heap} {a : Addr} {z : Int32} {f : Int32 → Int32} (F : Bya Z h a z f) (E : Ext h h') : Bya Z h' a z f := by obtain ⟨c, A, r⟩ := F; exact ⟨c, A.ext E, r⟩
theorem Bya.other {Z : State} {h h' : Heap} {a b : Addr} {z : Int32} {f : Int32 → Int32} {sl : Nat} {v : Value} (F : Bya Z h b z f) (W : Wr h h' a sl v) (q : b ≠ a) : Bya Z h' b z f := by obtain ⟨c, A, r⟩ := F; exact ⟨c, A.other W q, r⟩
theorem Bya.keep {Z : State} {h h' : Heap} {a : Addr} {z : Int32} {f : Int32 → Int32} {ws : List Addr} (F : Bya Z h a z f) (K : Keep h h' ws) (q : a ∉ ws) : Bya Z h' a z f := by obtain ⟨c, A, r⟩ := F; exact ⟨c, ⟨K.2.1 a c A.1 q, A.2⟩, r⟩
theorem Bya.set {Z : State} {h h' : Heap} {a : Addr} {z j v : Int32} {f : Int32 → Int32} {c : Cell} (A : Arr Z h a c .byte) (S : c.slots.size = z.toNatClampNeg) (H : ∀ j : Int32, ¬ j < 0 → j < z → c.slots[j.toNatClampNeg]? = some (.int (f j))) (hj : ¬ j < 0 ∧ j < z) (W : Wr h h' a j.toNatClampNeg (.int v)) : Bya Z h' a z (fun i => if i = j then v else f i) := by
  refine ⟨_, A.same W, by rw [sz_set]; exact S, fun i h1 h2 => ?_⟩
  by_cases q : i = j
  · rw [get_hit (inb_of S hj) q]; simp [q]
  · rw [get_miss hj.1 h1 q, H i h1 h2]; simp [q]
theorem Bya.of_arv {Z : State} {h : Heap} {a : Addr} {k : ClassId} {z : Int32} {vs : List Value} {es : List Int32} (F : Arv Z h a k .byte z vs (.int (0 : Int32))) (e : vs = es.map Value.int) : Bya Z h a z (fun i => es.getD i.toNatClampNeg 0) := by
  obtain ⟨c, A, -, S, -, H, -⟩ := F
  refine ⟨c, A, S, fun j h1 h2 => ?_⟩
  refine H.at (inb_of S ⟨h1, h2⟩) ?_
  subst e
  simp only [List.getD_eq_getElem?_getD, List.getElem?_map]
  cases es[j.toNatClampNeg]? <;> rfl
theorem own_b1 {x : Int32} (h : x = 1) : ¬ x = 0 := by rw [h]; decide
theorem own_cons {α : Type} {a b : α} {l m : List α} (h1 : a = b) (h2 : l = m) : a :: l = b :: m := by rw [h1, h2]
theorem own_arv {Z : State} {h : Heap} {a : Addr} {k : ClassId} {ty : FieldType} {z : Int32} {vs ws : List Value} {d : Value} (A : Arv Z h a k ty z vs d) (q : ws = vs) : Arv Z h a k ty z ws d := q ▸ A
theorem own_fld {Z : State} {h : Heap} {a : Addr} {C n d : String} {v w : Value} (F : Fld Z h a C n d v) (q : w = v) : Fld Z h a C n d w := q ▸ F
end New
end Jvm.RoadKit
namespace Jvm.Pilot.@@N@@
open Jvm Jvm.ClassFile Sem Op Lib Jvm.Free Jvm.Stand Jvm.LawKit Jvm.RoadKit Bundle Jvm.Pilot.@@N@@.Jvm.D
theorem ow0 {Z : State} {a0 : Array Value} (hw : ∀ d ∈ tables_1, d.before a0 Z = true) : (Jvm.Cond.constantLong "com/example/motley/motley/CountTreeAddPinLaw" (7 : Nat) (288230376151711743 : Int64)).before a0 Z = true := hw _ (List.mem_of_getElem? (i := 0) rfl)
theorem ow1 {Z : State} {a0 : Array Value} (hw : ∀ d ∈ tables_1, d.before a0 Z = true) : (Jvm.Cond.constant "com/example/motley/motley/CountTreeAddPinLaw" (9 : Nat) (2147483647 : Int32)).before a0 Z = true := hw _ (List.mem_of_getElem? (i := 1) rfl)
theorem ow2 {Z : State} {a0 : Array Value} (hw : ∀ d ∈ tables_1, d.before a0 Z = true) : (Jvm.Cond.methodLink "com/example/motley/motley/CountTreeAddPinLaw" (10 : Nat) ({ cls := "com/example/motley/motley/CountTreeAddPinLaw", name := "pick", desc := "(IJJJJJ)J" } : Jvm.MethodName)).before a0 Z = true := hw _ (List.mem_of_getElem? (i := 2) rfl)
theorem ow3 {Z : State} {a0 : Array Value} (hw : ∀ d ∈ tables_1, d.before a0 Z = true) : (Jvm.Cond.static ({ cls := "com/example/motley/motley/CountTreeAddPinLaw", name := "pick", desc := "(IJJJJJ)J" } : Jvm.MethodName)).before a0 Z = true := hw _ (List.mem_of_getElem? (i := 3) rfl)
theorem ow4 {Z : State} {a0 : Array Value} (hw : ∀ d ∈ tables_1, d.before a0 Z = true) : (Jvm.Cond.initialized "com/example/motley/motley/CountTreeAddPinLaw").before a0 Z = true := hw _ (List.mem_of_getElem? (i := 4) rfl)
theorem ow5 {Z : State} {a0 : Array Value} (hw : ∀ d ∈ tables_1, d.before a0 Z = true) : (Jvm.Cond.code ({ cls := "com/example/motley/motley/CountTreeAddPinLaw", name := "pick", desc := "(IJJJJJ)J" } : Jvm.MethodName) method_2_code (11 : Nat) (Option.some Jvm.ClassFile.FieldType.long)).before a0 Z = true := hw _ (List.mem_of_getElem? (i := 5) rfl)
theorem ow6 {Z : State} {a0 : Array Value} (hw : ∀ d ∈ tables_1, d.before a0 Z = true) : (Jvm.Cond.classLink "com/example/motley/motley/CountTreeAddPinLaw" (16 : Nat) "com/example/motley/motley/CountTree").before a0 Z = true := hw _ (List.mem_of_getElem? (i := 6) rfl)
theorem ow7 {Z : State} {a0 : Array Value} (hw : ∀ d ∈ tables_1, d.before a0 Z = true) : (Jvm.Cond.instantiable "com/example/motley/motley/CountTree" (3 : Nat)).before a0 Z = true := hw _ (List.mem_of_getElem? (i := 7) rfl)
theorem ow8 {Z : State} {a0 : Array Value} (hw : ∀ d ∈ tables_1, d.before a0 Z = true) : (Jvm.Cond.initialized "com/example/motley/motley/CountTree").before a0 Z = true := hw _ (List.mem_of_getElem? (i := 8) rfl)
theorem ow9 {Z : State} {a0 : Array Value} (hw : ∀ d ∈ tables_1, d.before a0 Z = true) : (Jvm.Cond.methodLink "com/example/motley/motley/CountTreeAddPinLaw" (18 : Nat) ({ cls := "com/example/motley/motley/CountTree", name := "<init>", desc := "()V" } : Jvm.MethodName)).before a0 Z = true := hw _ (List.mem_of_getElem? (i := 9) rfl)
theorem ow10 {Z : State} {a0 : Array Value} (hw : ∀ d ∈ tables_1, d.before a0 Z = true) : (Jvm.Cond.instanceMethod ({ cls := "com/example/motley/motley/CountTree", name := "<init>", desc := "()V" } : Jvm.MethodName)).before a0 Z = true := hw _ (List.mem_of_getElem? (i := 10) rfl)
theorem ow11 {Z : State} {a0 : Array Value} (hw : ∀ d ∈ tables_1, d.before a0 Z = true) : (Jvm.Cond.code ({ cls := "com/example/motley/motley/CountTree", name := "<init>", desc := "()V" } : Jvm.MethodName) prog_14_method_1_code (1 : Nat) (Option.none : Option Jvm.ClassFile.FieldType)).before a0 Z = true := hw _ (List.mem_of_getElem? (i := 11) rfl)
theorem ow12 {Z : State} {a0 : Array Value} (hw : ∀ d ∈ tables_1, d.before a0 Z = true) : (Jvm.Cond.methodLink "com/example/motley/motley/CountTree" (1 : Nat) ({ cls := "java/lang/Object", name := "<init>", desc := "()V" } : Jvm.MethodName)).before a0 Z = true := hw _ (List.mem_of_getElem? (i := 12) rfl)
theorem ow13 {Z : State} {a0 : Array Value} (hw : ∀ d ∈ tables_1, d.before a0 Z = true) : (Jvm.Cond.instanceMethod ({ cls := "java/lang/Object", name := "<init>", desc := "()V" } : Jvm.MethodName)).before a0 Z = true := hw _ (List.mem_of_getElem? (i := 13) rfl)
theorem ow14 {Z : State} {a0 : Array Value} (hw : ∀ d ∈ tables_1, d.before a0 Z = true) : (Jvm.Cond.code ({ cls := "java/lang/Object", name := "<init>", desc := "()V" } : Jvm.MethodName) object_method_1_code (1 : Nat) (Option.none : Option Jvm.ClassFile.FieldType)).before a0 Z = true := hw _ (List.mem_of_getElem? (i := 14) rfl)
theorem ow15 {Z : State} {a0 : Array Value} (hw : ∀ d ∈ tables_1, d.before a0 Z = true) : (Jvm.Cond.arrayClass Jvm.ClassFile.FieldType.long).before a0 Z = true := hw _ (List.mem_of_getElem? (i := 15) rfl)
theorem ow16 {Z : State} {a0 : Array Value} (hw : ∀ d ∈ tables_1, d.before a0 Z = true) : (Jvm.Cond.fieldLink "com/example/motley/motley/CountTree" (7 : Nat) "com/example/motley/motley/CountTree" "tree" "[J").before a0 Z = true := hw _ (List.mem_of_getElem? (i := 16) rfl)
theorem ow17 {Z : State} {a0 : Array Value} (hw : ∀ d ∈ tables_1, d.before a0 Z = true) : (Jvm.Cond.lays "com/example/motley/motley/CountTree" "com/example/motley/motley/CountTree" "tree" "[J").before a0 Z = true := hw _ (List.mem_of_getElem? (i := 17) rfl)
theorem ow18 {Z : State} {a0 : Array Value} (hw : ∀ d ∈ tables_1, d.before a0 Z = true) : (Jvm.Cond.methodLink "com/example/motley/motley/CountTreeAddPinLaw" (19 : Nat) ({ cls := "com/example/motley/motley/CountTree", name := "append", desc := "(J)V" } : Jvm.MethodName)).before a0 Z = true := hw _ (List.mem_of_getElem? (i := 18) rfl)
theorem ow19 {Z : State} {a0 : Array Value} (hw : ∀ d ∈ tables_1, d.before a0 Z = true) : (Jvm.Cond.declares ({ cls := "com/example/motley/motley/CountTree", name := "append", desc := "(J)V" } : Jvm.MethodName)).before a0 Z = true := hw _ (List.mem_of_getElem? (i := 19) rfl)
theorem ow20 {Z : State} {a0 : Array Value} (hw : ∀ d ∈ tables_1, d.before a0 Z = true) : (Jvm.Cond.instanceMethod ({ cls := "com/example/motley/motley/CountTree", name := "append", desc := "(J)V" } : Jvm.MethodName)).before a0 Z = true := hw _ (List.mem_of_getElem? (i := 20) rfl)
theorem ow21 {Z : State} {a0 : Array Value} (hw : ∀ d ∈ tables_1, d.before a0 Z = true) : (Jvm.Cond.selects "com/example/motley/motley/CountTree" ({ cls := "com/example/motley/motley/CountTree", name := "append", desc := "(J)V" } : Jvm.MethodName) ({ cls := "com/example/motley/motley/CountTree", name := "append", desc := "(J)V" } : Jvm.MethodName)).before a0 Z = true := hw _ (List.mem_of_getElem? (i := 21) rfl)
theorem ow22 {Z : State} {a0 : Array Value} (hw : ∀ d ∈ tables_1, d.before a0 Z = true) : (Jvm.Cond.code ({ cls := "com/example/motley/motley/CountTree", name := "append", desc := "(J)V" } : Jvm.MethodName) prog_14_method_4_code (3 : Nat) (Option.none : Option Jvm.ClassFile.FieldType)).before a0 Z = true := hw _ (List.mem_of_getElem? (i := 22) rfl)
theorem ow23 {Z : State} {a0 : Array Value} (hw : ∀ d ∈ tables_1, d.before a0 Z = true) : (Jvm.Cond.methodLink "com/example/motley/motley/CountTree" (37 : Nat) ({ cls := "com/example/motley/motley/CountTree", name := "reserve", desc := "(I)V" } : Jvm.MethodName)).before a0 Z = true := hw _ (List.mem_of_getElem? (i := 23) rfl)
theorem ow24 {Z : State} {a0 : Array Value} (hw : ∀ d ∈ tables_1, d.before a0 Z = true) : (Jvm.Cond.declares ({ cls := "com/example/motley/motley/CountTree", name := "reserve", desc := "(I)V" } : Jvm.MethodName)).before a0 Z = true := hw _ (List.mem_of_getElem? (i := 24) rfl)
theorem ow25 {Z : State} {a0 : Array Value} (hw : ∀ d ∈ tables_1, d.before a0 Z = true) : (Jvm.Cond.instanceMethod ({ cls := "com/example/motley/motley/CountTree", name := "reserve", desc := "(I)V" } : Jvm.MethodName)).before a0 Z = true := hw _ (List.mem_of_getElem? (i := 25) rfl)
theorem ow26 {Z : State} {a0 : Array Value} (hw : ∀ d ∈ tables_1, d.before a0 Z = true) : (Jvm.Cond.selects "com/example/motley/motley/CountTree" ({ cls := "com/example/motley/motley/CountTree", name := "reserve", desc := "(I)V" } : Jvm.MethodName) ({ cls := "com/example/motley/motley/CountTree", name := "reserve", desc := "(I)V" } : Jvm.MethodName)).before a0 Z = true := hw _ (List.mem_of_getElem? (i := 26) rfl)
theorem ow27 {Z : State} {a0 : Array Value} (hw : ∀ d ∈ tables_1, d.before a0 Z = true) : (Jvm.Cond.code ({ cls := "com/example/motley/motley/CountTree", name := "reserve", desc := "(I)V" } : Jvm.MethodName) prog_14_method_3_code (7 : Nat) (Option.none : Option Jvm.ClassFile.FieldType)).before a0 Z = true := hw _ (List.mem_of_getElem? (i := 27) rfl)
theorem ow28 {Z : State} {a0 : Array Value} (hw : ∀ d ∈ tables_1, d.before a0 Z = true) : (Jvm.Cond.fieldLink "com/example/motley/motley/CountTree" (13 : Nat) "com/example/motley/motley/CountTree" "size" "I").before a0 Z = true := hw _ (List.mem_of_getElem? (i := 28) rfl)
theorem ow29 {Z : State} {a0 : Array Value} (hw : ∀ d ∈ tables_1, d.before a0 Z = true) : (Jvm.Cond.lays "com/example/motley/motley/CountTree" "com/example/motley/motley/CountTree" "size" "I").before a0 Z = true := hw _ (List.mem_of_getElem? (i := 29) rfl)
theorem ow30 {Z : State} {a0 : Array Value} (hw : ∀ d ∈ tables_1, d.before a0 Z = true) : (Jvm.Cond.methodLink "com/example/motley/motley/CountTree" (17 : Nat) ({ cls := "java/lang/Math", name := "max", desc := "(II)I" } : Jvm.MethodName)).before a0 Z = true := hw _ (List.mem_of_getElem? (i := 30) rfl)
theorem ow31 {Z : State} {a0 : Array Value} (hw : ∀ d ∈ tables_1, d.before a0 Z = true) : (Jvm.Cond.static ({ cls := "java/lang/Math", name := "max", desc := "(II)I" } : Jvm.MethodName)).before a0 Z = true := hw _ (List.mem_of_getElem? (i := 31) rfl)
theorem ow32 {Z : State} {a0 : Array Value} (hw : ∀ d ∈ tables_1, d.before a0 Z = true) : (Jvm.Cond.initialized "java/lang/Math").before a0 Z = true := hw _ (List.mem_of_getElem? (i := 32) rfl)
theorem ow33 {Z : State} {a0 : Array Value} (hw : ∀ d ∈ tables_1, d.before a0 Z = true) : (Jvm.Cond.code ({ cls := "java/lang/Math", name := "max", desc := "(II)I" } : Jvm.MethodName) jdk_29_method_65_code (2 : Nat) (Option.some Jvm.ClassFile.FieldType.int)).before a0 Z = true := hw _ (List.mem_of_getElem? (i := 33) rfl)
theorem ow34 {Z : State} {a0 : Array Value} (hw : ∀ d ∈ tables_1, d.before a0 Z = true) : (Jvm.Cond.methodLink "com/example/motley/motley/CountTree" (23 : Nat) ({ cls := "java/util/Arrays", name := "copyOf", desc := "([JI)[J" } : Jvm.MethodName)).before a0 Z = true := hw _ (List.mem_of_getElem? (i := 34) rfl)
theorem ow35 {Z : State} {a0 : Array Value} (hw : ∀ d ∈ tables_1, d.before a0 Z = true) : (Jvm.Cond.static ({ cls := "java/util/Arrays", name := "copyOf", desc := "([JI)[J" } : Jvm.MethodName)).before a0 Z = true := hw _ (List.mem_of_getElem? (i := 35) rfl)
theorem ow36 {Z : State} {a0 : Array Value} (hw : ∀ d ∈ tables_1, d.before a0 Z = true) : (Jvm.Cond.initialized "java/util/Arrays").before a0 Z = true := hw _ (List.mem_of_getElem? (i := 36) rfl)
theorem ow37 {Z : State} {a0 : Array Value} (hw : ∀ d ∈ tables_1, d.before a0 Z = true) : (Jvm.Cond.code ({ cls := "java/util/Arrays", name := "copyOf", desc := "([JI)[J" } : Jvm.MethodName) jdk_65_method_124_code (3 : Nat) (Option.some (Jvm.ClassFile.FieldType.array Jvm.ClassFile.FieldType.long))).before a0 Z = true := hw _ (List.mem_of_getElem? (i := 37) rfl)
theorem ow38 {Z : State} {a0 : Array Value} (hw : ∀ d ∈ tables_1, d.before a0 Z = true) : (Jvm.Cond.methodLink "java/util/Arrays" (304 : Nat) ({ cls := "java/lang/Math", name := "min", desc := "(II)I" } : Jvm.MethodName)).before a0 Z = true := hw _ (List.mem_of_getElem? (i := 38) rfl)
theorem ow39 {Z : State} {a0 : Array Value} (hw : ∀ d ∈ tables_1, d.before a0 Z = true) : (Jvm.Cond.static ({ cls := "java/lang/Math", name := "min", desc := "(II)I" } : Jvm.MethodName)).before a0 Z = true := hw _ (List.mem_of_getElem? (i := 39) rfl)
theorem ow40 {Z : State} {a0 : Array Value} (hw : ∀ d ∈ tables_1, d.before a0 Z = true) : (Jvm.Cond.code ({ cls := "java/lang/Math", name := "min", desc := "(II)I" } : Jvm.MethodName) jdk_29_method_69_code (2 : Nat) (Option.some Jvm.ClassFile.FieldType.int)).before a0 Z = true := hw _ (List.mem_of_getElem? (i := 40) rfl)
theorem ow41 {Z : State} {a0 : Array Value} (hw : ∀ d ∈ tables_1, d.before a0 Z = true) : (Jvm.Cond.methodLink "java/util/Arrays" (150 : Nat) ({ cls := "java/lang/System", name := "arraycopy", desc := "(Ljava/lang/Object;ILjava/lang/Object;II)V" } : Jvm.MethodName)).before a0 Z = true := hw _ (List.mem_of_getElem? (i := 41) rfl)
theorem ow42 {Z : State} {a0 : Array Value} (hw : ∀ d ∈ tables_1, d.before a0 Z = true) : (Jvm.Cond.static ({ cls := "java/lang/System", name := "arraycopy", desc := "(Ljava/lang/Object;ILjava/lang/Object;II)V" } : Jvm.MethodName)).before a0 Z = true := hw _ (List.mem_of_getElem? (i := 42) rfl)
theorem ow43 {Z : State} {a0 : Array Value} (hw : ∀ d ∈ tables_1, d.before a0 Z = true) : (Jvm.Cond.initialized "java/lang/System").before a0 Z = true := hw _ (List.mem_of_getElem? (i := 43) rfl)
theorem ow44 {Z : State} {a0 : Array Value} (hw : ∀ d ∈ tables_1, d.before a0 Z = true) : (Jvm.Cond.native ({ cls := "java/lang/System", name := "arraycopy", desc := "(Ljava/lang/Object;ILjava/lang/Object;II)V" } : Jvm.MethodName)).before a0 Z = true := hw _ (List.mem_of_getElem? (i := 44) rfl)
theorem ow45 {Z : State} {a0 : Array Value} (hw : ∀ d ∈ tables_1, d.before a0 Z = true) : (Jvm.Cond.methodLink "com/example/motley/motley/CountTree" (41 : Nat) ({ cls := "com/example/motley/motley/CountTree", name := "add", desc := "(IJ)V" } : Jvm.MethodName)).before a0 Z = true := hw _ (List.mem_of_getElem? (i := 45) rfl)
theorem ow46 {Z : State} {a0 : Array Value} (hw : ∀ d ∈ tables_1, d.before a0 Z = true) : (Jvm.Cond.declares ({ cls := "com/example/motley/motley/CountTree", name := "add", desc := "(IJ)V" } : Jvm.MethodName)).before a0 Z = true := hw _ (List.mem_of_getElem? (i := 46) rfl)
theorem ow47 {Z : State} {a0 : Array Value} (hw : ∀ d ∈ tables_1, d.before a0 Z = true) : (Jvm.Cond.instanceMethod ({ cls := "com/example/motley/motley/CountTree", name := "add", desc := "(IJ)V" } : Jvm.MethodName)).before a0 Z = true := hw _ (List.mem_of_getElem? (i := 47) rfl)
theorem ow48 {Z : State} {a0 : Array Value} (hw : ∀ d ∈ tables_1, d.before a0 Z = true) : (Jvm.Cond.selects "com/example/motley/motley/CountTree" ({ cls := "com/example/motley/motley/CountTree", name := "add", desc := "(IJ)V" } : Jvm.MethodName) ({ cls := "com/example/motley/motley/CountTree", name := "add", desc := "(IJ)V" } : Jvm.MethodName)).before a0 Z = true := hw _ (List.mem_of_getElem? (i := 48) rfl)
theorem ow49 {Z : State} {a0 : Array Value} (hw : ∀ d ∈ tables_1, d.before a0 Z = true) : (Jvm.Cond.code ({ cls := "com/example/motley/motley/CountTree", name := "add", desc := "(IJ)V" } : Jvm.MethodName) prog_14_method_7_code (5 : Nat) (Option.none : Option Jvm.ClassFile.FieldType)).before a0 Z = true := hw _ (List.mem_of_getElem? (i := 49) rfl)
theorem ow50 {Z : State} {a0 : Array Value} (hw : ∀ d ∈ tables_1, d.before a0 Z = true) : (Jvm.Cond.fieldLink "com/example/motley/motley/CountTree" (29 : Nat) "com/example/motley/motley/CountTree" "total" "J").before a0 Z = true := hw _ (List.mem_of_getElem? (i := 50) rfl)
theorem ow51 {Z : State} {a0 : Array Value} (hw : ∀ d ∈ tables_1, d.before a0 Z = true) : (Jvm.Cond.lays "com/example/motley/motley/CountTree" "com/example/motley/motley/CountTree" "total" "J").before a0 Z = true := hw _ (List.mem_of_getElem? (i := 51) rfl)
theorem ow52 {Z : State} {a0 : Array Value} (hw : ∀ d ∈ tables_1, d.before a0 Z = true) : (Jvm.Cond.methodLink "com/example/motley/motley/CountTree" (33 : Nat) ({ cls := "com/example/motley/motley/CountTree", name := "sumBefore", desc := "(I)J" } : Jvm.MethodName)).before a0 Z = true := hw _ (List.mem_of_getElem? (i := 52) rfl)
theorem ow53 {Z : State} {a0 : Array Value} (hw : ∀ d ∈ tables_1, d.before a0 Z = true) : (Jvm.Cond.declares ({ cls := "com/example/motley/motley/CountTree", name := "sumBefore", desc := "(I)J" } : Jvm.MethodName)).before a0 Z = true := hw _ (List.mem_of_getElem? (i := 53) rfl)
theorem ow54 {Z : State} {a0 : Array Value} (hw : ∀ d ∈ tables_1, d.before a0 Z = true) : (Jvm.Cond.instanceMethod ({ cls := "com/example/motley/motley/CountTree", name := "sumBefore", desc := "(I)J" } : Jvm.MethodName)).before a0 Z = true := hw _ (List.mem_of_getElem? (i := 54) rfl)
theorem ow55 {Z : State} {a0 : Array Value} (hw : ∀ d ∈ tables_1, d.before a0 Z = true) : (Jvm.Cond.selects "com/example/motley/motley/CountTree" ({ cls := "com/example/motley/motley/CountTree", name := "sumBefore", desc := "(I)J" } : Jvm.MethodName) ({ cls := "com/example/motley/motley/CountTree", name := "sumBefore", desc := "(I)J" } : Jvm.MethodName)).before a0 Z = true := hw _ (List.mem_of_getElem? (i := 55) rfl)
theorem ow56 {Z : State} {a0 : Array Value} (hw : ∀ d ∈ tables_1, d.before a0 Z = true) : (Jvm.Cond.code ({ cls := "com/example/motley/motley/CountTree", name := "sumBefore", desc := "(I)J" } : Jvm.MethodName) prog_14_method_8_code (5 : Nat) (Option.some Jvm.ClassFile.FieldType.long)).before a0 Z = true := hw _ (List.mem_of_getElem? (i := 56) rfl)
theorem ow57 {Z : State} {a0 : Array Value} (hw : ∀ d ∈ tables_1, d.before a0 Z = true) : (Jvm.Cond.methodLink "com/example/motley/motley/CountTreeAddPinLaw" (23 : Nat) ({ cls := "com/example/motley/motley/CountTree", name := "add", desc := "(IJ)V" } : Jvm.MethodName)).before a0 Z = true := hw _ (List.mem_of_getElem? (i := 57) rfl)
theorem ow58 {Z : State} {a0 : Array Value} (hw : ∀ d ∈ tables_1, d.before a0 Z = true) : (Jvm.Cond.methodLink "com/example/motley/motley/CountTreeAddPinLaw" (27 : Nat) ({ cls := "com/example/motley/motley/CountTree", name := "total", desc := "()J" } : Jvm.MethodName)).before a0 Z = true := hw _ (List.mem_of_getElem? (i := 58) rfl)
theorem ow59 {Z : State} {a0 : Array Value} (hw : ∀ d ∈ tables_1, d.before a0 Z = true) : (Jvm.Cond.declares ({ cls := "com/example/motley/motley/CountTree", name := "total", desc := "()J" } : Jvm.MethodName)).before a0 Z = true := hw _ (List.mem_of_getElem? (i := 59) rfl)
theorem ow60 {Z : State} {a0 : Array Value} (hw : ∀ d ∈ tables_1, d.before a0 Z = true) : (Jvm.Cond.instanceMethod ({ cls := "com/example/motley/motley/CountTree", name := "total", desc := "()J" } : Jvm.MethodName)).before a0 Z = true := hw _ (List.mem_of_getElem? (i := 60) rfl)
theorem ow61 {Z : State} {a0 : Array Value} (hw : ∀ d ∈ tables_1, d.before a0 Z = true) : (Jvm.Cond.selects "com/example/motley/motley/CountTree" ({ cls := "com/example/motley/motley/CountTree", name := "total", desc := "()J" } : Jvm.MethodName) ({ cls := "com/example/motley/motley/CountTree", name := "total", desc := "()J" } : Jvm.MethodName)).before a0 Z = true := hw _ (List.mem_of_getElem? (i := 61) rfl)
theorem ow62 {Z : State} {a0 : Array Value} (hw : ∀ d ∈ tables_1, d.before a0 Z = true) : (Jvm.Cond.code ({ cls := "com/example/motley/motley/CountTree", name := "total", desc := "()J" } : Jvm.MethodName) prog_14_method_5_code (1 : Nat) (Option.some Jvm.ClassFile.FieldType.long)).before a0 Z = true := hw _ (List.mem_of_getElem? (i := 62) rfl)
theorem ow63 {Z : State} {a0 : Array Value} (hw : ∀ d ∈ tables_1, d.before a0 Z = true) : (Jvm.Cond.methodLink "com/example/motley/motley/CountTreeAddPinLaw" (31 : Nat) ({ cls := "com/example/motley/motley/CountTree", name := "get", desc := "(I)J" } : Jvm.MethodName)).before a0 Z = true := hw _ (List.mem_of_getElem? (i := 63) rfl)
theorem ow64 {Z : State} {a0 : Array Value} (hw : ∀ d ∈ tables_1, d.before a0 Z = true) : (Jvm.Cond.declares ({ cls := "com/example/motley/motley/CountTree", name := "get", desc := "(I)J" } : Jvm.MethodName)).before a0 Z = true := hw _ (List.mem_of_getElem? (i := 64) rfl)
theorem ow65 {Z : State} {a0 : Array Value} (hw : ∀ d ∈ tables_1, d.before a0 Z = true) : (Jvm.Cond.instanceMethod ({ cls := "com/example/motley/motley/CountTree", name := "get", desc := "(I)J" } : Jvm.MethodName)).before a0 Z = true := hw _ (List.mem_of_getElem? (i := 65) rfl)
theorem ow66 {Z : State} {a0 : Array Value} (hw : ∀ d ∈ tables_1, d.before a0 Z = true) : (Jvm.Cond.selects "com/example/motley/motley/CountTree" ({ cls := "com/example/motley/motley/CountTree", name := "get", desc := "(I)J" } : Jvm.MethodName) ({ cls := "com/example/motley/motley/CountTree", name := "get", desc := "(I)J" } : Jvm.MethodName)).before a0 Z = true := hw _ (List.mem_of_getElem? (i := 66) rfl)
theorem ow67 {Z : State} {a0 : Array Value} (hw : ∀ d ∈ tables_1, d.before a0 Z = true) : (Jvm.Cond.code ({ cls := "com/example/motley/motley/CountTree", name := "get", desc := "(I)J" } : Jvm.MethodName) prog_14_method_6_code (2 : Nat) (Option.some Jvm.ClassFile.FieldType.long)).before a0 Z = true := hw _ (List.mem_of_getElem? (i := 67) rfl)
theorem ow68 {Z : State} {a0 : Array Value} (hw : ∀ d ∈ tables_1, d.before a0 Z = true) : (Jvm.Cond.methodLink "com/example/motley/motley/CountTreeAddPinLaw" (35 : Nat) ({ cls := "com/example/motley/motley/CountTree", name := "sumBefore", desc := "(I)J" } : Jvm.MethodName)).before a0 Z = true := hw _ (List.mem_of_getElem? (i := 68) rfl)
theorem ow69 {Z : State} {a0 : Array Value} (hw : ∀ d ∈ tables_1, d.before a0 Z = true) : (Jvm.Cond.methodLink "com/example/motley/motley/CountTreeAddPinLaw" (38 : Nat) ({ cls := "com/example/motley/motley/CountTreeAddPinLaw", name := "prefix", desc := "(IJJJJJ)J" } : Jvm.MethodName)).before a0 Z = true := hw _ (List.mem_of_getElem? (i := 69) rfl)
theorem ow70 {Z : State} {a0 : Array Value} (hw : ∀ d ∈ tables_1, d.before a0 Z = true) : (Jvm.Cond.static ({ cls := "com/example/motley/motley/CountTreeAddPinLaw", name := "prefix", desc := "(IJJJJJ)J" } : Jvm.MethodName)).before a0 Z = true := hw _ (List.mem_of_getElem? (i := 70) rfl)
theorem ow71 {Z : State} {a0 : Array Value} (hw : ∀ d ∈ tables_1, d.before a0 Z = true) : (Jvm.Cond.code ({ cls := "com/example/motley/motley/CountTreeAddPinLaw", name := "prefix", desc := "(IJJJJJ)J" } : Jvm.MethodName) method_3_code (13 : Nat) (Option.some Jvm.ClassFile.FieldType.long)).before a0 Z = true := hw _ (List.mem_of_getElem? (i := 71) rfl)
theorem d1_0 : decode method_2_code 0 = .ok (.iload_n 0, 1) := by decide +kernel
theorem d1_1 : decode method_2_code 1 = .ok (.ifCond .ne 5, 3) := by decide +kernel
theorem d1_4 : decode method_2_code 4 = .ok (.lload_n 1, 1) := by decide +kernel
theorem d1_5 : decode method_2_code 5 = .ok (.lreturn, 1) := by decide +kernel
theorem d1_6 : decode method_2_code 6 = .ok (.iload_n 0, 1) := by decide +kernel
theorem d1_7 : decode method_2_code 7 = .ok (.iconst 1, 1) := by decide +kernel
theorem d1_8 : decode method_2_code 8 = .ok (.if_icmp .ne 5, 3) := by decide +kernel
theorem d1_11 : decode method_2_code 11 = .ok (.lload_n 3, 1) := by decide +kernel
theorem d1_12 : decode method_2_code 12 = .ok (.lreturn, 1) := by decide +kernel
theorem d1_13 : decode method_2_code 13 = .ok (.iload_n 0, 1) := by decide +kernel
theorem d1_14 : decode method_2_code 14 = .ok (.iconst 2, 1) := by decide +kernel
theorem d1_15 : decode method_2_code 15 = .ok (.if_icmp .ne 6, 3) := by decide +kernel
theorem d1_18 : decode method_2_code 18 = .ok (.lload 5, 2) := by decide +kernel
theorem d1_20 : decode method_2_code 20 = .ok (.lreturn, 1) := by decide +kernel
theorem d1_21 : decode method_2_code 21 = .ok (.iload_n 0, 1) := by decide +kernel
theorem d1_22 : decode method_2_code 22 = .ok (.iconst 3, 1) := by decide +kernel
theorem d1_23 : decode method_2_code 23 = .ok (.if_icmp .ne 6, 3) := by decide +kernel
theorem d1_26 : decode method_2_code 26 = .ok (.lload 7, 2) := by decide +kernel
theorem d1_28 : decode method_2_code 28 = .ok (.lreturn, 1) := by decide +kernel
theorem d1_29 : decode method_2_code 29 = .ok (.lload 9, 2) := by decide +kernel
theorem d1_31 : decode method_2_code 31 = .ok (.lreturn, 1) := by decide +kernel
theorem pn_1 : plainName "com/example/motley/motley/CountTreeAddPinLaw" = true := by first | (simp [plainName, overriddenIn]; done) | decide +kernel
theorem ef_rm1 (m : MethodId) (y0 : Int32) (y1 : Int64) (y2 : Int64) (y3 : Int64) (y4 : Int64) (y5 : Int64) : entryFrame m #[(.int y0), (.long y1), (.long y2), (.long y3), (.long y4), (.long y5)] 11 = mkF m 0 #[.val (.int y0), .val (.long y1), .second, .val (.long y2), .second, .val (.long y3), .second, .val (.long y4), .second, .val (.long y5), .second] [] := by first | (simp [entryFrame, mkF, argsToLocals, Value.category]; done) | rfl
def Q_rm1 (Z : State) (p1_0 : Int32) (q1_1 : Int64) (q1_2 : Int64) (q1_3 : Int64) (q1_4 : Int64) (q1_5 : Int64) (h0 : Heap) (n0 : Nat) (v : Option Value) (h : Heap) (L : List Loc) : Prop := v = some (.long (if p1_0 = (0 : Int32) then q1_1 else (if p1_0 = (1 : Int32) then q1_2 else (if p1_0 = (2 : Int32) then q1_3 else (if p1_0 = (3 : Int32) then q1_4 else q1_5))))) ∧ Fr n0 L ∧ h = h0
set_option maxRecDepth 65536 in
set_option maxHeartbeats 40000000 in
theorem rm1 (l : Launch) (Z : State) (a0 : Array Value) (hw : ∀ d ∈ tables_1, d.before a0 Z = true) (ws : List Jvm.Cond) (p1_0 : Int32) (q1_1 : Int64) (q1_2 : Int64) (q1_3 : Int64) (q1_4 : Int64) (q1_5 : Int64) (h0 : Heap) (n0 : Nat) (Z0 : n0 ≤ h0.size) :
    MetFree l (⟨"com/example/motley/motley/CountTreeAddPinLaw", "pick", "(IJJJJJ)J"⟩ : MethodName) (head1 (Jvm.Cond.code (⟨"com/example/motley/motley/CountTreeAddPinLaw", "pick", "(IJJJJJ)J"⟩ : MethodName) method_2_code 11 (some .long) :: ws) ({ frames := 0, cells := 0, slots := 0, locals := 0 } : Room)) (fun a U => a = #[(.int p1_0), (.long q1_1), (.long q1_2), (.long q1_3), (.long q1_4), (.long q1_5)] ∧ Z.Warmed39 U.vm ∧ U.heap = h0) (fun _ _ _ _ _ => True) (fun _ U o U' => ∃ v L, o = .returned v ∧ Q_rm1 Z p1_0 q1_1 q1_2 q1_3 q1_4 q1_5 h0 n0 v U'.heap L ∧ FrameEnd U o U' L ({ frames := 0, cells := 0, slots := 0, locals := 0 } : Room).cells ({ frames := 0, cells := 0, slots := 0, locals := 0 } : Room).slots) := by
  refine MetFree.of_bodySF (plainFor_of_name pn_1) hisR ?_
  intro p e s m args below meth c s₁ Bd hml0 hP hK
  obtain ⟨rfl, hZ, hh⟩ := hP
  have hx := Bd.exec
  have hby := Bd.bytes
  have hml : c.maxLocals = 11 := hml0
  have hown : s.vm.findClass "com/example/motley/motley/CountTreeAddPinLaw" = some m.cls := findClass_of_methodNamed Bd.named
  have hnm := (name_of_methodNamed Bd.named Bd.method).1
  have X0 : Stand p l e ({ frames := 0, cells := 0, slots := 0, locals := 0 } : Room) s m #[(.int p1_0), (.long q1_1), (.long q1_2), (.long q1_3), (.long q1_4), (.long q1_5)] below meth c s₁ [] 0 0 := Stand.of_body Bd
  have e0 : s₁.heap = h0 := by rw [← hh, Bd.state]; rfl
  have N0 := Fr.nil n0
  have pre0 : ∀ t, Steps p.tables e below (s₁.setTop (mkF m 0 #[.val (.int p1_0), .val (.long q1_1), .second, .val (.long q1_2), .second, .val (.long q1_3), .second, .val (.long q1_4), .second, .val (.long q1_5), .second] [])) t → Steps p.tables e below (s₁.setTop (entryFrame m #[(.int p1_0), (.long q1_1), (.long q1_2), (.long q1_3), (.long q1_4), (.long q1_5)] 11)) t := fun t k => castTop (ef_rm1 m p1_0 q1_1 q1_2 q1_3 q1_4 q1_5) k
  have G1 : ∀ t, Steps p.tables e below (s₁.setTop (mkF m 1 #[.val (.int p1_0), .val (.long q1_1), .second, .val (.long q1_2), .second, .val (.long q1_3), .second, .val (.long q1_4), .second, .val (.long q1_5), .second] [(.int p1_0)])) t → Steps p.tables e below (s₁.setTop (mkF m 0 #[.val (.int p1_0), .val (.long q1_1), .second, .val (.long q1_2), .second, .val (.long q1_3), .second, .val (.long q1_4), .second, .val (.long q1_5), .second] [])) t := by
    intro t k
    show Steps p.tables e below (s₁.setTop (mkF m 0 #[.val (.int p1_0), .val (.long q1_1), .second, .val (.long q1_2), .second, .val (.long q1_3), .second, .val (.long q1_4), .second, .val (.long q1_5), .second] [])) _
    refine XS.iloadN X0.here hx rfl (hb hby d1_0) rfl ?_
    exact k
  by_cases h1_2 : p1_0 = (0 : Int32)
  · obtain ⟨fs, hr, hrun, hended, hW, hsame⟩ := X0.leave (v := some (.long q1_1)) (fun h => by rw [Bd.returns] at h; cases h)
    refine ⟨_, _, pre0 _ ?_, hrun, hended, _, _, rfl, ?_, ⟨_, rfl⟩, hW, hsame.mono (by decide) (by decide)⟩
    · refine G1 _ ?_
      show Steps p.tables e below (s₁.setTop (mkF m 1 #[.val (.int p1_0), .val (.long q1_1), .second, .val (.long q1_2), .second, .val (.long q1_3), .second, .val (.long q1_4), .second, .val (.long q1_5), .second] [(.int p1_0)])) _
      refine XS.ifNo X0.here hx rfl (hb hby d1_1) rfl ((if0 _ _).trans (teq h1_2).2) ?_
      refine XS.lloadN X0.here hx rfl (hb hby d1_4) rfl ?_
      show Steps p.tables e below (s₁.setTop (mkF m 5 #[.val (.int p1_0), .val (.long q1_1), .second, .val (.long q1_2), .second, .val (.long q1_3), .second, .val (.long q1_4), .second, .val (.long q1_5), .second] [(.long q1_1)])) _
      exact own_retJ X0 hx Bd.returns (hb hby d1_5) hr
    · show Q_rm1 Z p1_0 q1_1 q1_2 q1_3 q1_4 q1_5 h0 n0 _ s₁.heap _
      rw [e0]
      exact ⟨(congrArg (fun z => some (Value.long z)) (if_pos h1_2).symm), N0, rfl⟩
  · have G3 : ∀ t, Steps p.tables e below (s₁.setTop (mkF m 8 #[.val (.int p1_0), .val (.long q1_1), .second, .val (.long q1_2), .second, .val (.long q1_3), .second, .val (.long q1_4), .second, .val (.long q1_5), .second] [(.int (1 : Int32)), (.int p1_0)])) t → Steps p.tables e below (s₁.setTop (mkF m 1 #[.val (.int p1_0), .val (.long q1_1), .second, .val (.long q1_2), .second, .val (.long q1_3), .second, .val (.long q1_4), .second, .val (.long q1_5), .second] [(.int p1_0)])) t := by
      intro t k
      show Steps p.tables e below (s₁.setTop (mkF m 1 #[.val (.int p1_0), .val (.long q1_1), .second, .val (.long q1_2), .second, .val (.long q1_3), .second, .val (.long q1_4), .second, .val (.long q1_5), .second] [(.int p1_0)])) _
      refine XS.ifYes X0.here hx rfl (pc0 := 1) (pc' := 6) rfl (hb hby d1_1) rfl ((if0 _ _).trans (feq h1_2).2) (by decide) (by decide) ?_
      refine XS.iloadN X0.here hx rfl (hb hby d1_6) rfl ?_
      refine XS.iconst X0.here hx rfl (hb hby d1_7) ?_
      exact k
    by_cases h8_4 : p1_0 = (1 : Int32)
    · obtain ⟨fs, hr, hrun, hended, hW, hsame⟩ := X0.leave (v := some (.long q1_2)) (fun h => by rw [Bd.returns] at h; cases h)
      refine ⟨_, _, pre0 _ ?_, hrun, hended, _, _, rfl, ?_, ⟨_, rfl⟩, hW, hsame.mono (by decide) (by decide)⟩
      · refine G1 _ ?_
        refine G3 _ ?_
        show Steps p.tables e below (s₁.setTop (mkF m 8 #[.val (.int p1_0), .val (.long q1_1), .second, .val (.long q1_2), .second, .val (.long q1_3), .second, .val (.long q1_4), .second, .val (.long q1_5), .second] [(.int (1 : Int32)), (.int p1_0)])) _
        refine XS.icmpNo X0.here hx rfl (hb hby d1_8) rfl (teq h8_4).2 ?_
        refine XS.lloadN X0.here hx rfl (hb hby d1_11) rfl ?_
        show Steps p.tables e below (s₁.setTop (mkF m 12 #[.val (.int p1_0), .val (.long q1_1), .second, .val (.long q1_2), .second, .val (.long q1_3), .second, .val (.long q1_4), .second, .val (.long q1_5), .second] [(.long q1_2)])) _
        exact own_retJ X0 hx Bd.returns (hb hby d1_12) hr
      · show Q_rm1 Z p1_0 q1_1 q1_2 q1_3 q1_4 q1_5 h0 n0 _ s₁.heap _
        rw [e0]
        exact ⟨(congrArg (fun z => some (Value.long z)) ((if_neg h1_2).trans (if_pos h8_4)).symm), N0, rfl⟩
    · have G5 : ∀ t, Steps p.tables e below (s₁.setTop (mkF m 15 #[.val (.int p1_0), .val (.long q1_1), .second, .val (.long q1_2), .second, .val (.long q1_3), .second, .val (.long q1_4), .second, .val (.long q1_5), .second] [(.int (2 : Int32)), (.int p1_0)])) t → Steps p.tables e below (s₁.setTop (mkF m 8 #[.val (.int p1_0), .val (.long q1_1), .second, .val (.long q1_2), .second, .val (.long q1_3), .second, .val (.long q1_4), .second, .val (.long q1_5), .second] [(.int (1 : Int32)), (.int p1_0)])) t := by
        intro t k
        show Steps p.tables e below (s₁.setTop (mkF m 8 #[.val (.int p1_0), .val (.long q1_1), .second, .val (.long q1_2), .second, .val (.long q1_3), .second, .val (.long q1_4), .second, .val (.long q1_5), .second] [(.int (1 : Int32)), (.int p1_0)])) _
        refine XS.icmpYes X0.here hx rfl (pc0 := 8) (pc' := 13) rfl (hb hby d1_8) rfl (feq h8_4).2 (by decide) (by decide) ?_
        refine XS.iloadN X0.here hx rfl (hb hby d1_13) rfl ?_
        refine XS.iconst X0.here hx rfl (hb hby d1_14) ?_
        exact k
      by_cases h15_6 : p1_0 = (2 : Int32)
      · obtain ⟨fs, hr, hrun, hended, hW, hsame⟩ := X0.leave (v := some (.long q1_3)) (fun h => by rw [Bd.returns] at h; cases h)
        refine ⟨_, _, pre0 _ ?_, hrun, hended, _, _, rfl, ?_, ⟨_, rfl⟩, hW, hsame.mono (by decide) (by decide)⟩
        · refine G1 _ ?_
          refine G3 _ ?_
          refine G5 _ ?_
          show Steps p.tables e below (s₁.setTop (mkF m 15 #[.val (.int p1_0), .val (.long q1_1), .second, .val (.long q1_2), .second, .val (.long q1_3), .second, .val (.long q1_4), .second, .val (.long q1_5), .second] [(.int (2 : Int32)), (.int p1_0)])) _
          refine XS.icmpNo X0.here hx rfl (hb hby d1_15) rfl (teq h15_6).2 ?_
          refine XS.lload X0.here hx rfl (hb hby d1_18) rfl ?_
          show Steps p.tables e below (s₁.setTop (mkF m 20 #[.val (.int p1_0), .val (.long q1_1), .second, .val (.long q1_2), .second, .val (.long q1_3), .second, .val (.long q1_4), .second, .val (.long q1_5), .second] [(.long q1_3)])) _
          exact own_retJ X0 hx Bd.returns (hb hby d1_20) hr
        · show Q_rm1 Z p1_0 q1_1 q1_2 q1_3 q1_4 q1_5 h0 n0 _ s₁.heap _
          rw [e0]
          exact ⟨(congrArg (fun z => some (Value.long z)) ((if_neg h1_2).trans ((if_neg h8_4).trans (if_pos h15_6))).symm), N0, rfl⟩
      · have G7 : ∀ t, Steps p.tables e below (s₁.setTop (mkF m 23 #[.val (.int p1_0), .val (.long q1_1), .second, .val (.long q1_2), .second, .val (.long q1_3), .second, .val (.long q1_4), .second, .val (.long q1_5), .second] [(.int (3 : Int32)), (.int p1_0)])) t → Steps p.tables e below (s₁.setTop (mkF m 15 #[.val (.int p1_0), .val (.long q1_1), .second, .val (.long q1_2), .second, .val (.long q1_3), .second, .val (.long q1_4), .second, .val (.long q1_5), .second] [(.int (2 : Int32)), (.int p1_0)])) t := by
          intro t k
          show Steps p.tables e below (s₁.setTop (mkF m 15 #[.val (.int p1_0), .val (.long q1_1), .second, .val (.long q1_2), .second, .val (.long q1_3), .second, .val (.long q1_4), .second, .val (.long q1_5), .second] [(.int (2 : Int32)), (.int p1_0)])) _
          refine XS.icmpYes X0.here hx rfl (pc0 := 15) (pc' := 21) rfl (hb hby d1_15) rfl (feq h15_6).2 (by decide) (by decide) ?_
          refine XS.iloadN X0.here hx rfl (hb hby d1_21) rfl ?_
          refine XS.iconst X0.here hx rfl (hb hby d1_22) ?_
          exact k
        by_cases h23_8 : p1_0 = (3 : Int32)
        · obtain ⟨fs, hr, hrun, hended, hW, hsame⟩ := X0.leave (v := some (.long q1_4)) (fun h => by rw [Bd.returns] at h; cases h)
          refine ⟨_, _, pre0 _ ?_, hrun, hended, _, _, rfl, ?_, ⟨_, rfl⟩, hW, hsame.mono (by decide) (by decide)⟩
          · refine G1 _ ?_
            refine G3 _ ?_
            refine G5 _ ?_
            refine G7 _ ?_
            show Steps p.tables e below (s₁.setTop (mkF m 23 #[.val (.int p1_0), .val (.long q1_1), .second, .val (.long q1_2), .second, .val (.long q1_3), .second, .val (.long q1_4), .second, .val (.long q1_5), .second] [(.int (3 : Int32)), (.int p1_0)])) _
            refine XS.icmpNo X0.here hx rfl (hb hby d1_23) rfl (teq h23_8).2 ?_
            refine XS.lload X0.here hx rfl (hb hby d1_26) rfl ?_
            show Steps p.tables e below (s₁.setTop (mkF m 28 #[.val (.int p1_0), .val (.long q1_1), .second, .val (.long q1_2), .second, .val (.long q1_3), .second, .val (.long q1_4), .second, .val (.long q1_5), .second] [(.long q1_4)])) _
            exact own_retJ X0 hx Bd.returns (hb hby d1_28) hr
          · show Q_rm1 Z p1_0 q1_1 q1_2 q1_3 q1_4 q1_5 h0 n0 _ s₁.heap _
            rw [e0]
            exact ⟨(congrArg (fun z => some (Value.long z)) ((if_neg h1_2).trans ((if_neg h8_4).trans ((if_neg h15_6).trans (if_pos h23_8)))).symm), N0, rfl⟩
        · obtain ⟨fs, hr, hrun, hended, hW, hsame⟩ := X0.leave (v := some (.long q1_5)) (fun h => by rw [Bd.returns] at h; cases h)
          refine ⟨_, _, pre0 _ ?_, hrun, hended, _, _, rfl, ?_, ⟨_, rfl⟩, hW, hsame.mono (by decide) (by decide)⟩
          · refine G1 _ ?_
            refine G3 _ ?_
            refine G5 _ ?_
            refine G7 _ ?_
            show Steps p.tables e below (s₁.setTop (mkF m 23 #[.val (.int p1_0), .val (.long q1_1), .second, .val (.long q1_2), .second, .val (.long q1_3), .second, .val (.long q1_4), .second, .val (.long q1_5), .second] [(.int (3 : Int32)), (.int p1_0)])) _
            refine XS.icmpYes X0.here hx rfl (pc0 := 23) (pc' := 29) rfl (hb hby d1_23) rfl (feq h23_8).2 (by decide) (by decide) ?_
            refine XS.lload X0.here hx rfl (hb hby d1_29) rfl ?_
            show Steps p.tables e below (s₁.setTop (mkF m 31 #[.val (.int p1_0), .val (.long q1_1), .second, .val (.long q1_2), .second, .val (.long q1_3), .second, .val (.long q1_4), .second, .val (.long q1_5), .second] [(.long q1_5)])) _
            exact own_retJ X0 hx Bd.returns (hb hby d1_31) hr
          · show Q_rm1 Z p1_0 q1_1 q1_2 q1_3 q1_4 q1_5 h0 n0 _ s₁.heap _
            rw [e0]
            exact ⟨(congrArg (fun z => some (Value.long z)) ((if_neg h1_2).trans ((if_neg h8_4).trans ((if_neg h15_6).trans (if_neg h23_8)))).symm), N0, rfl⟩
theorem d13_0 : decode method_3_code 0 = .ok (.lconst 0, 1) := by decide +kernel
theorem d13_1 : decode method_3_code 1 = .ok (.lstore 11, 2) := by decide +kernel
theorem d13_3 : decode method_3_code 3 = .ok (.iload_n 0, 1) := by decide +kernel
theorem d13_4 : decode method_3_code 4 = .ok (.ifCond .le 9, 3) := by decide +kernel
theorem d13_7 : decode method_3_code 7 = .ok (.lload 11, 2) := by decide +kernel
theorem d13_9 : decode method_3_code 9 = .ok (.lload_n 1, 1) := by decide +kernel
theorem d13_10 : decode method_3_code 10 = .ok (.ladd, 1) := by decide +kernel
theorem d13_11 : decode method_3_code 11 = .ok (.lstore 11, 2) := by decide +kernel
theorem d13_13 : decode method_3_code 13 = .ok (.iload_n 0, 1) := by decide +kernel
theorem d13_14 : decode method_3_code 14 = .ok (.iconst 1, 1) := by decide +kernel
theorem d13_15 : decode method_3_code 15 = .ok (.if_icmp .le 9, 3) := by decide +kernel
theorem d13_18 : decode method_3_code 18 = .ok (.lload 11, 2) := by decide +kernel
theorem d13_20 : decode method_3_code 20 = .ok (.lload_n 3, 1) := by decide +kernel
theorem d13_21 : decode method_3_code 21 = .ok (.ladd, 1) := by decide +kernel
theorem d13_22 : decode method_3_code 22 = .ok (.lstore 11, 2) := by decide +kernel
theorem d13_24 : decode method_3_code 24 = .ok (.iload_n 0, 1) := by decide +kernel
theorem d13_25 : decode method_3_code 25 = .ok (.iconst 2, 1) := by decide +kernel
theorem d13_26 : decode method_3_code 26 = .ok (.if_icmp .le 10, 3) := by decide +kernel
theorem d13_29 : decode method_3_code 29 = .ok (.lload 11, 2) := by decide +kernel
theorem d13_31 : decode method_3_code 31 = .ok (.lload 5, 2) := by decide +kernel
theorem d13_33 : decode method_3_code 33 = .ok (.ladd, 1) := by decide +kernel
theorem d13_34 : decode method_3_code 34 = .ok (.lstore 11, 2) := by decide +kernel
theorem d13_36 : decode method_3_code 36 = .ok (.iload_n 0, 1) := by decide +kernel
theorem d13_37 : decode method_3_code 37 = .ok (.iconst 3, 1) := by decide +kernel
theorem d13_38 : decode method_3_code 38 = .ok (.if_icmp .le 10, 3) := by decide +kernel
theorem d13_41 : decode method_3_code 41 = .ok (.lload 11, 2) := by decide +kernel
theorem d13_43 : decode method_3_code 43 = .ok (.lload 7, 2) := by decide +kernel
theorem d13_45 : decode method_3_code 45 = .ok (.ladd, 1) := by decide +kernel
theorem d13_46 : decode method_3_code 46 = .ok (.lstore 11, 2) := by decide +kernel
theorem d13_48 : decode method_3_code 48 = .ok (.iload_n 0, 1) := by decide +kernel
theorem d13_49 : decode method_3_code 49 = .ok (.iconst 4, 1) := by decide +kernel
theorem d13_50 : decode method_3_code 50 = .ok (.if_icmp .le 10, 3) := by decide +kernel
theorem d13_53 : decode method_3_code 53 = .ok (.lload 11, 2) := by decide +kernel
theorem d13_55 : decode method_3_code 55 = .ok (.lload 9, 2) := by decide +kernel
theorem d13_57 : decode method_3_code 57 = .ok (.ladd, 1) := by decide +kernel
theorem d13_58 : decode method_3_code 58 = .ok (.lstore 11, 2) := by decide +kernel
theorem d13_60 : decode method_3_code 60 = .ok (.lload 11, 2) := by decide +kernel
theorem d13_62 : decode method_3_code 62 = .ok (.lreturn, 1) := by decide +kernel
theorem pn_13 : plainName "com/example/motley/motley/CountTreeAddPinLaw" = true := by first | (simp [plainName, overriddenIn]; done) | decide +kernel
theorem ef_rm13 (m : MethodId) (y0 : Int32) (y1 : Int64) (y2 : Int64) (y3 : Int64) (y4 : Int64) (y5 : Int64) : entryFrame m #[(.int y0), (.long y1), (.long y2), (.long y3), (.long y4), (.long y5)] 13 = mkF m 0 #[.val (.int y0), .val (.long y1), .second, .val (.long y2), .second, .val (.long y3), .second, .val (.long y4), .second, .val (.long y5), .second, .unset, .unset] [] := by first | (simp [entryFrame, mkF, argsToLocals, Value.category]; done) | rfl
def Q_rm13 (Z : State) (p13_0 : Int32) (q13_1 : Int64) (q13_2 : Int64) (q13_3 : Int64) (q13_4 : Int64) (q13_5 : Int64) (h0 : Heap) (n0 : Nat) (v : Option Value) (h : Heap) (L : List Loc) : Prop := v = some (.long (if (4 : Int32) < p13_0 then ((if (3 : Int32) < p13_0 then ((if (2 : Int32) < p13_0 then ((if (1 : Int32) < p13_0 then ((if (0 : Int32) < p13_0 then ((0 : Int64) + q13_1) else (0 : Int64)) + q13_2) else (if (0 : Int32) < p13_0 then ((0 : Int64) + q13_1) else (0 : Int64))) + q13_3) else (if (1 : Int32) < p13_0 then ((if (0 : Int32) < p13_0 then ((0 : Int64) + q13_1) else (0 : Int64)) + q13_2) else (if (0 : Int32) < p13_0 then ((0 : Int64) + q13_1) else (0 : Int64)))) + q13_4) else (if (2 : Int32) < p13_0 then ((if (1 : Int32) < p13_0 then ((if (0 : Int32) < p13_0 then ((0 : Int64) + q13_1) else (0 : Int64)) + q13_2) else (if (0 : Int32) < p13_0 then ((0 : Int64) + q13_1) else (0 : Int64))) + q13_3) else (if (1 : Int32) < p13_0 then ((if (0 : Int32) < p13_0 then ((0 : Int64) + q13_1) else (0 : Int64)) + q13_2) else (if (0 : Int32) < p13_0 then ((0 : Int64) + q13_1) else (0 : Int64))))) + q13_5) else (if (3 : Int32) < p13_0 then ((if (2 : Int32) < p13_0 then ((if (1 : Int32) < p13_0 then ((if (0 : Int32) < p13_0 then ((0 : Int64) + q13_1) else (0 : Int64)) + q13_2) else (if (0 : Int32) < p13_0 then ((0 : Int64) + q13_1) else (0 : Int64))) + q13_3) else (if (1 : Int32) < p13_0 then ((if (0 : Int32) < p13_0 then ((0 : Int64) + q13_1) else (0 : Int64)) + q13_2) else (if (0 : Int32) < p13_0 then ((0 : Int64) + q13_1) else (0 : Int64)))) + q13_4) else (if (2 : Int32) < p13_0 then ((if (1 : Int32) < p13_0 then ((if (0 : Int32) < p13_0 then ((0 : Int64) + q13_1) else (0 : Int64)) + q13_2) else (if (0 : Int32) < p13_0 then ((0 : Int64) + q13_1) else (0 : Int64))) + q13_3) else (if (1 : Int32) < p13_0 then ((if (0 : Int32) < p13_0 then ((0 : Int64) + q13_1) else (0 : Int64)) + q13_2) else (if (0 : Int32) < p13_0 then ((0 : Int64) + q13_1) else (0 : Int64))))))) ∧ Fr n0 L ∧ h = h0
set_option maxRecDepth 65536 in
set_option maxHeartbeats 40000000 in
theorem rm13 (l : Launch) (Z : State) (a0 : Array Value) (hw : ∀ d ∈ tables_1, d.before a0 Z = true) (ws : List Jvm.Cond) (p13_0 : Int32) (q13_1 : Int64) (q13_2 : Int64) (q13_3 : Int64) (q13_4 : Int64) (q13_5 : Int64) (h0 : Heap) (n0 : Nat) (Z0 : n0 ≤ h0.size) :
    MetFree l (⟨"com/example/motley/motley/CountTreeAddPinLaw", "prefix", "(IJJJJJ)J"⟩ : MethodName) (head1 (Jvm.Cond.code (⟨"com/example/motley/motley/CountTreeAddPinLaw", "prefix", "(IJJJJJ)J"⟩ : MethodName) method_3_code 13 (some .long) :: ws) ({ frames := 0, cells := 0, slots := 0, locals := 0 } : Room)) (fun a U => a = #[(.int p13_0), (.long q13_1), (.long q13_2), (.long q13_3), (.long q13_4), (.long q13_5)] ∧ Z.Warmed39 U.vm ∧ U.heap = h0) (fun _ _ _ _ _ => True) (fun _ U o U' => ∃ v L, o = .returned v ∧ Q_rm13 Z p13_0 q13_1 q13_2 q13_3 q13_4 q13_5 h0 n0 v U'.heap L ∧ FrameEnd U o U' L ({ frames := 0, cells := 0, slots := 0, locals := 0 } : Room).cells ({ frames := 0, cells := 0, slots := 0, locals := 0 } : Room).slots) := by
  refine MetFree.of_bodySF (plainFor_of_name pn_13) hisR ?_
  intro p e s m args below meth c s₁ Bd hml0 hP hK
  obtain ⟨rfl, hZ, hh⟩ := hP
  have hx := Bd.exec
  have hby := Bd.bytes
  have hml : c.maxLocals = 13 := hml0
  have hown : s.vm.findClass "com/example/motley/motley/CountTreeAddPinLaw" = some m.cls := findClass_of_methodNamed Bd.named
  have hnm := (name_of_methodNamed Bd.named Bd.method).1
  have X0 : Stand p l e ({ frames := 0, cells := 0, slots := 0, locals := 0 } : Room) s m #[(.int p13_0), (.long q13_1), (.long q13_2), (.long q13_3), (.long q13_4), (.long q13_5)] below meth c s₁ [] 0 0 := Stand.of_body Bd
  have e0 : s₁.heap = h0 := by rw [← hh, Bd.state]; rfl
  have N0 := Fr.nil n0
  have pre0 : ∀ t, Steps p.tables e below (s₁.setTop (mkF m 0 #[.val (.int p13_0), .val (.long q13_1), .second, .val (.long q13_2), .second, .val (.long q13_3), .second, .val (.long q13_4), .second, .val (.long q13_5), .second, .unset, .unset] [])) t → Steps p.tables e below (s₁.setTop (entryFrame m #[(.int p13_0), (.long q13_1), (.long q13_2), (.long q13_3), (.long q13_4), (.long q13_5)] 13)) t := fun t k => castTop (ef_rm13 m p13_0 q13_1 q13_2 q13_3 q13_4 q13_5) k
  have G1 : ∀ t, Steps p.tables e below (s₁.setTop (mkF m 4 #[.val (.int p13_0), .val (.long q13_1), .second, .val (.long q13_2), .second, .val (.long q13_3), .second, .val (.long q13_4), .second, .val (.long q13_5), .second, .val (.long (0 : Int64)), .second] [(.int p13_0)])) t → Steps p.tables e below (s₁.setTop (mkF m 0 #[.val (.int p13_0), .val (.long q13_1), .second, .val (.long q13_2), .second, .val (.long q13_3), .second, .val (.long q13_4), .second, .val (.long q13_5), .second, .unset, .unset] [])) t := by
    intro t k
    show Steps p.tables e below (s₁.setTop (mkF m 0 #[.val (.int p13_0), .val (.long q13_1), .second, .val (.long q13_2), .second, .val (.long q13_3), .second, .val (.long q13_4), .second, .val (.long q13_5), .second, .unset, .unset] [])) _
    refine XS.lconst X0.here hx rfl (hb hby d13_0) ?_
    refine XS.lstore X0.here hx rfl (hb hby d13_1) rfl (l' := #[.val (.int p13_0), .val (.long q13_1), .second, .val (.long q13_2), .second, .val (.long q13_3), .second, .val (.long q13_4), .second, .val (.long q13_5), .second, .val (.long (0 : Int64)), .second]) rfl ?_
    refine XS.iloadN X0.here hx rfl (hb hby d13_3) rfl ?_
    exact k
  obtain ⟨v3, hv3⟩ : ∃ z : Int64, z = (if (0 : Int32) < p13_0 then ((0 : Int64) + q13_1) else (0 : Int64)) := ⟨_, rfl⟩
  obtain ⟨T4, Lo4, X4, N4, e4, G4⟩ := own_join X0 N0 (h := h0) (mkF m 4 #[.val (.int p13_0), .val (.long q13_1), .second, .val (.long q13_2), .second, .val (.long q13_3), .second, .val (.long q13_4), .second, .val (.long q13_5), .second, .val (.long (0 : Int64)), .second] [(.int p13_0)]) (mkF m 13 #[.val (.int p13_0), .val (.long q13_1), .second, .val (.long q13_2), .second, .val (.long q13_3), .second, .val (.long q13_4), .second, .val (.long q13_5), .second, .val (.long v3), .second] []) (by
    by_cases h4_2 : (0 : Int32) < p13_0
    · refine ⟨s₁, _, X0, N0, e0, fun t k => ?_⟩
      rw [show v3 = ((0 : Int64) + q13_1) from hv3.trans (if_pos h4_2)] at k
      show Steps p.tables e below (s₁.setTop (mkF m 4 #[.val (.int p13_0), .val (.long q13_1), .second, .val (.long q13_2), .second, .val (.long q13_3), .second, .val (.long q13_4), .second, .val (.long q13_5), .second, .val (.long (0 : Int64)), .second] [(.int p13_0)])) _
      refine XS.ifNo X0.here hx rfl (hb hby d13_4) rfl ((if0 _ _).trans (tlt h4_2).2.2.2) ?_
      refine XS.lload X0.here hx rfl (hb hby d13_7) rfl ?_
      refine XS.lloadN X0.here hx rfl (hb hby d13_9) rfl ?_
      show Steps p.tables e below (s₁.setTop (mkF m 10 #[.val (.int p13_0), .val (.long q13_1), .second, .val (.long q13_2), .second, .val (.long q13_3), .second, .val (.long q13_4), .second, .val (.long q13_5), .second, .val (.long (0 : Int64)), .second] [(.long q13_1), (.long (0 : Int64))])) _
      refine XS.ladd X0.here hx rfl (hb hby d13_10) rfl ?_
      refine XS.lstore X0.here hx rfl (hb hby d13_11) rfl (l' := #[.val (.int p13_0), .val (.long q13_1), .second, .val (.long q13_2), .second, .val (.long q13_3), .second, .val (.long q13_4), .second, .val (.long q13_5), .second, .val (.long ((0 : Int64) + q13_1)), .second]) rfl ?_
      exact k
    · refine ⟨s₁, _, X0, N0, e0, fun t k => ?_⟩
      rw [show v3 = (0 : Int64) from hv3.trans (if_neg h4_2)] at k
      show Steps p.tables e below (s₁.setTop (mkF m 4 #[.val (.int p13_0), .val (.long q13_1), .second, .val (.long q13_2), .second, .val (.long q13_3), .second, .val (.long q13_4), .second, .val (.long q13_5), .second, .val (.long (0 : Int64)), .second] [(.int p13_0)])) _
      refine XS.ifYes X0.here hx rfl (pc0 := 4) (pc' := 13) rfl (hb hby d13_4) rfl ((if0 _ _).trans (flt h4_2).2.2.2) (by decide) (by decide) ?_
      exact k)
  have G5 : ∀ t, Steps p.tables e below (T4.setTop (mkF m 15 #[.val (.int p13_0), .val (.long q13_1), .second, .val (.long q13_2), .second, .val (.long q13_3), .second, .val (.long q13_4), .second, .val (.long q13_5), .second, .val (.long v3), .second] [(.int (1 : Int32)), (.int p13_0)])) t → Steps p.tables e below (T4.setTop (mkF m 13 #[.val (.int p13_0), .val (.long q13_1), .second, .val (.long q13_2), .second, .val (.long q13_3), .second, .val (.long q13_4), .second, .val (.long q13_5), .second, .val (.long v3), .second] [])) t := by
    intro t k
    show Steps p.tables e below (T4.setTop (mkF m 13 #[.val (.int p13_0), .val (.long q13_1), .second, .val (.long q13_2), .second, .val (.long q13_3), .second, .val (.long q13_4), .second, .val (.long q13_5), .second, .val (.long v3), .second] [])) _
    refine XS.iloadN X4.here hx rfl (hb hby d13_13) rfl ?_
    refine XS.iconst X4.here hx rfl (hb hby d13_14) ?_
    exact k
  obtain ⟨v7, hv7⟩ : ∃ z : Int64, z = (if (1 : Int32) < p13_0 then (v3 + q13_2) else v3) := ⟨_, rfl⟩
  obtain ⟨T8, Lo8, X8, N8, e8, G8⟩ := own_join X4 N4 (h := h0) (mkF m 15 #[.val (.int p13_0), .val (.long q13_1), .second, .val (.long q13_2), .second, .val (.long q13_3), .second, .val (.long q13_4), .second, .val (.long q13_5), .second, .val (.long v3), .second] [(.int (1 : Int32)), (.int p13_0)]) (mkF m 24 #[.val (.int p13_0), .val (.long q13_1), .second, .val (.long q13_2), .second, .val (.long q13_3), .second, .val (.long q13_4), .second, .val (.long q13_5), .second, .val (.long v7), .second] []) (by
    by_cases h15_6 : (1 : Int32) < p13_0
    · refine ⟨T4, _, X4, N4, e4, fun t k => ?_⟩
      rw [show v7 = (v3 + q13_2) from hv7.trans (if_pos h15_6)] at k
      show Steps p.tables e below (T4.setTop (mkF m 15 #[.val (.int p13_0), .val (.long q13_1), .second, .val (.long q13_2), .second, .val (.long q13_3), .second, .val (.long q13_4), .second, .val (.long q13_5), .second, .val (.long v3), .second] [(.int (1 : Int32)), (.int p13_0)])) _
      refine XS.icmpNo X4.here hx rfl (hb hby d13_15) rfl (tlt h15_6).2.2.2 ?_
      refine XS.lload X4.here hx rfl (hb hby d13_18) rfl ?_
      refine XS.lloadN X4.here hx rfl (hb hby d13_20) rfl ?_
      show Steps p.tables e below (T4.setTop (mkF m 21 #[.val (.int p13_0), .val (.long q13_1), .second, .val (.long q13_2), .second, .val (.long q13_3), .second, .val (.long q13_4), .second, .val (.long q13_5), .second, .val (.long v3), .second] [(.long q13_2), (.long v3)])) _
      refine XS.ladd X4.here hx rfl (hb hby d13_21) rfl ?_
      refine XS.lstore X4.here hx rfl (hb hby d13_22) rfl (l' := #[.val (.int p13_0), .val (.long q13_1), .second, .val (.long q13_2), .second, .val (.long q13_3), .second, .val (.long q13_4), .second, .val (.long q13_5), .second, .val (.long (v3 + q13_2)), .second]) rfl ?_
      exact k
    · refine ⟨T4, _, X4, N4, e4, fun t k => ?_⟩
      rw [show v7 = v3 from hv7.trans (if_neg h15_6)] at k
      show Steps p.tables e below (T4.setTop (mkF m 15 #[.val (.int p13_0), .val (.long q13_1), .second, .val (.long q13_2), .second, .val (.long q13_3), .second, .val (.long q13_4), .second, .val (.long q13_5), .second, .val (.long v3), .second] [(.int (1 : Int32)), (.int p13_0)])) _
      refine XS.icmpYes X4.here hx rfl (pc0 := 15) (pc' := 24) rfl (hb hby d13_15) rfl (flt h15_6).2.2.2 (by decide) (by decide) ?_
      exact k)
  have G9 : ∀ t, Steps p.tables e below (T8.setTop (mkF m 26 #[.val (.int p13_0), .val (.long q13_1), .second, .val (.long q13_2), .second, .val (.long q13_3), .second, .val (.long q13_4), .second, .val (.long q13_5), .second, .val (.long v7), .second] [(.int (2 : Int32)), (.int p13_0)])) t → Steps p.tables e below (T8.setTop (mkF m 24 #[.val (.int p13_0), .val (.long q13_1), .second, .val (.long q13_2), .second, .val (.long q13_3), .second, .val (.long q13_4), .second, .val (.long q13_5), .second, .val (.long v7), .second] [])) t := by
    intro t k
    show Steps p.tables e below (T8.setTop (mkF m 24 #[.val (.int p13_0), .val (.long q13_1), .second, .val (.long q13_2), .second, .val (.long q13_3), .second, .val (.long q13_4), .second, .val (.long q13_5), .second, .val (.long v7), .second] [])) _
    refine XS.iloadN X8.here hx rfl (hb hby d13_24) rfl ?_
    refine XS.iconst X8.here hx rfl (hb hby d13_25) ?_
    exact k
  obtain ⟨v11, hv11⟩ : ∃ z : Int64, z = (if (2 : Int32) < p13_0 then (v7 + q13_3) else v7) := ⟨_, rfl⟩
  obtain ⟨T12, Lo12, X12, N12, e12, G12⟩ := own_join X8 N8 (h := h0) (mkF m 26 #[.val (.int p13_0), .val (.long q13_1), .second, .val (.long q13_2), .second, .val (.long q13_3), .second, .val (.long q13_4), .second, .val (.long q13_5), .second, .val (.long v7), .second] [(.int (2 : Int32)), (.int p13_0)]) (mkF m 36 #[.val (.int p13_0), .val (.long q13_1), .second, .val (.long q13_2), .second, .val (.long q13_3), .second, .val (.long q13_4), .second, .val (.long q13_5), .second, .val (.long v11), .second] []) (by
    by_cases h26_10 : (2 : Int32) < p13_0
    · refine ⟨T8, _, X8, N8, e8, fun t k => ?_⟩
      rw [show v11 = (v7 + q13_3) from hv11.trans (if_pos h26_10)] at k
      show Steps p.tables e below (T8.setTop (mkF m 26 #[.val (.int p13_0), .val (.long q13_1), .second, .val (.long q13_2), .second, .val (.long q13_3), .second, .val (.long q13_4), .second, .val (.long q13_5), .second, .val (.long v7), .second] [(.int (2 : Int32)), (.int p13_0)])) _
      refine XS.icmpNo X8.here hx rfl (hb hby d13_26) rfl (tlt h26_10).2.2.2 ?_
      refine XS.lload X8.here hx rfl (hb hby d13_29) rfl ?_
      refine XS.lload X8.here hx rfl (hb hby d13_31) rfl ?_
      show Steps p.tables e below (T8.setTop (mkF m 33 #[.val (.int p13_0), .val (.long q13_1), .second, .val (.long q13_2), .second, .val (.long q13_3), .second, .val (.long q13_4), .second, .val (.long q13_5), .second, .val (.long v7), .second] [(.long q13_3), (.long v7)])) _
      refine XS.ladd X8.here hx rfl (hb hby d13_33) rfl ?_
      refine XS.lstore X8.here hx rfl (hb hby d13_34) rfl (l' := #[.val (.int p13_0), .val (.long q13_1), .second, .val (.long q13_2), .second, .val (.long q13_3), .second, .val (.long q13_4), .second, .val (.long q13_5), .second, .val (.long (v7 + q13_3)), .second]) rfl ?_
      exact k
    · refine ⟨T8, _, X8, N8, e8, fun t k => ?_⟩
      rw [show v11 = v7 from hv11.trans (if_neg h26_10)] at k
      show Steps p.tables e below (T8.setTop (mkF m 26 #[.val (.int p13_0), .val (.long q13_1), .second, .val (.long q13_2), .second, .val (.long q13_3), .second, .val (.long q13_4), .second, .val (.long q13_5), .second, .val (.long v7), .second] [(.int (2 : Int32)), (.int p13_0)])) _
      refine XS.icmpYes X8.here hx rfl (pc0 := 26) (pc' := 36) rfl (hb hby d13_26) rfl (flt h26_10).2.2.2 (by decide) (by decide) ?_
      exact k)
  have G13 : ∀ t, Steps p.tables e below (T12.setTop (mkF m 38 #[.val (.int p13_0), .val (.long q13_1), .second, .val (.long q13_2), .second, .val (.long q13_3), .second, .val (.long q13_4), .second, .val (.long q13_5), .second, .val (.long v11), .second] [(.int (3 : Int32)), (.int p13_0)])) t → Steps p.tables e below (T12.setTop (mkF m 36 #[.val (.int p13_0), .val (.long q13_1), .second, .val (.long q13_2), .second, .val (.long q13_3), .second, .val (.long q13_4), .second, .val (.long q13_5), .second, .val (.long v11), .second] [])) t := by
    intro t k
    show Steps p.tables e below (T12.setTop (mkF m 36 #[.val (.int p13_0), .val (.long q13_1), .second, .val (.long q13_2), .second, .val (.long q13_3), .second, .val (.long q13_4), .second, .val (.long q13_5), .second, .val (.long v11), .second] [])) _
    refine XS.iloadN X12.here hx rfl (hb hby d13_36) rfl ?_
    refine XS.iconst X12.here hx rfl (hb hby d13_37) ?_
    exact k
  obtain ⟨v15, hv15⟩ : ∃ z : Int64, z = (if (3 : Int32) < p13_0 then (v11 + q13_4) else v11) := ⟨_, rfl⟩
  obtain ⟨T16, Lo16, X16, N16, e16, G16⟩ := own_join X12 N12 (h := h0) (mkF m 38 #[.val (.int p13_0), .val (.long q13_1), .second, .val (.long q13_2), .second, .val (.long q13_3), .second, .val (.long q13_4), .second, .val (.long q13_5), .second, .val (.long v11), .second] [(.int (3 : Int32)), (.int p13_0)]) (mkF m 48 #[.val (.int p13_0), .val (.long q13_1), .second, .val (.long q13_2), .second, .val (.long q13_3), .second, .val (.long q13_4), .second, .val (.long q13_5), .second, .val (.long v15), .second] []) (by
    by_cases h38_14 : (3 : Int32) < p13_0
    · refine ⟨T12, _, X12, N12, e12, fun t k => ?_⟩
      rw [show v15 = (v11 + q13_4) from hv15.trans (if_pos h38_14)] at k
      show Steps p.tables e below (T12.setTop (mkF m 38 #[.val (.int p13_0), .val (.long q13_1), .second, .val (.long q13_2), .second, .val (.long q13_3), .second, .val (.long q13_4), .second, .val (.long q13_5), .second, .val (.long v11), .second] [(.int (3 : Int32)), (.int p13_0)])) _
      refine XS.icmpNo X12.here hx rfl (hb hby d13_38) rfl (tlt h38_14).2.2.2 ?_
      refine XS.lload X12.here hx rfl (hb hby d13_41) rfl ?_
      refine XS.lload X12.here hx rfl (hb hby d13_43) rfl ?_
      show Steps p.tables e below (T12.setTop (mkF m 45 #[.val (.int p13_0), .val (.long q13_1), .second, .val (.long q13_2), .second, .val (.long q13_3), .second, .val (.long q13_4), .second, .val (.long q13_5), .second, .val (.long v11), .second] [(.long q13_4), (.long v11)])) _
      refine XS.ladd X12.here hx rfl (hb hby d13_45) rfl ?_
      refine XS.lstore X12.here hx rfl (hb hby d13_46) rfl (l' := #[.val (.int p13_0), .val (.long q13_1), .second, .val (.long q13_2), .second, .val (.long q13_3), .second, .val (.long q13_4), .second, .val (.long q13_5), .second, .val (.long (v11 + q13_4)), .second]) rfl ?_
      exact k
    · refine ⟨T12, _, X12, N12, e12, fun t k => ?_⟩
      rw [show v15 = v11 from hv15.trans (if_neg h38_14)] at k
      show Steps p.tables e below (T12.setTop (mkF m 38 #[.val (.int p13_0), .val (.long q13_1), .second, .val (.long q13_2), .second, .val (.long q13_3), .second, .val (.long q13_4), .second, .val (.long q13_5), .second, .val (.long v11), .second] [(.int (3 : Int32)), (.int p13_0)])) _
      refine XS.icmpYes X12.here hx rfl (pc0 := 38) (pc' := 48) rfl (hb hby d13_38) rfl (flt h38_14).2.2.2 (by decide) (by decide) ?_
      exact k)
  have G17 : ∀ t, Steps p.tables e below (T16.setTop (mkF m 50 #[.val (.int p13_0), .val (.long q13_1), .second, .val (.long q13_2), .second, .val (.long q13_3), .second, .val (.long q13_4), .second, .val (.long q13_5), .second, .val (.long v15), .second] [(.int (4 : Int32)), (.int p13_0)])) t → Steps p.tables e below (T16.setTop (mkF m 48 #[.val (.int p13_0), .val (.long q13_1), .second, .val (.long q13_2), .second, .val (.long q13_3), .second, .val (.long q13_4), .second, .val (.long q13_5), .second, .val (.long v15), .second] [])) t := by
    intro t k
    show Steps p.tables e below (T16.setTop (mkF m 48 #[.val (.int p13_0), .val (.long q13_1), .second, .val (.long q13_2), .second, .val (.long q13_3), .second, .val (.long q13_4), .second, .val (.long q13_5), .second, .val (.long v15), .second] [])) _
    refine XS.iloadN X16.here hx rfl (hb hby d13_48) rfl ?_
    refine XS.iconst X16.here hx rfl (hb hby d13_49) ?_
    exact k
  obtain ⟨v19, hv19⟩ : ∃ z : Int64, z = (if (4 : Int32) < p13_0 then (v15 + q13_5) else v15) := ⟨_, rfl⟩
  obtain ⟨T20, Lo20, X20, N20, e20, G20⟩ := own_join X16 N16 (h := h0) (mkF m 50 #[.val (.int p13_0), .val (.long q13_1), .second, .val (.long q13_2), .second, .val (.long q13_3), .second, .val (.long q13_4), .second, .val (.long q13_5), .second, .val (.long v15), .second] [(.int (4 : Int32)), (.int p13_0)]) (mkF m 60 #[.val (.int p13_0), .val (.long q13_1), .second, .val (.long q13_2), .second, .val (.long q13_3), .second, .val (.long q13_4), .second, .val (.long q13_5), .second, .val (.long v19), .second] []) (by
    by_cases h50_18 : (4 : Int32) < p13_0
    · refine ⟨T16, _, X16, N16, e16, fun t k => ?_⟩
      rw [show v19 = (v15 + q13_5) from hv19.trans (if_pos h50_18)] at k
      show Steps p.tables e below (T16.setTop (mkF m 50 #[.val (.int p13_0), .val (.long q13_1), .second, .val (.long q13_2), .second, .val (.long q13_3), .second, .val (.long q13_4), .second, .val (.long q13_5), .second, .val (.long v15), .second] [(.int (4 : Int32)), (.int p13_0)])) _
      refine XS.icmpNo X16.here hx rfl (hb hby d13_50) rfl (tlt h50_18).2.2.2 ?_
      refine XS.lload X16.here hx rfl (hb hby d13_53) rfl ?_
      refine XS.lload X16.here hx rfl (hb hby d13_55) rfl ?_
      show Steps p.tables e below (T16.setTop (mkF m 57 #[.val (.int p13_0), .val (.long q13_1), .second, .val (.long q13_2), .second, .val (.long q13_3), .second, .val (.long q13_4), .second, .val (.long q13_5), .second, .val (.long v15), .second] [(.long q13_5), (.long v15)])) _
      refine XS.ladd X16.here hx rfl (hb hby d13_57) rfl ?_
      refine XS.lstore X16.here hx rfl (hb hby d13_58) rfl (l' := #[.val (.int p13_0), .val (.long q13_1), .second, .val (.long q13_2), .second, .val (.long q13_3), .second, .val (.long q13_4), .second, .val (.long q13_5), .second, .val (.long (v15 + q13_5)), .second]) rfl ?_
      exact k
    · refine ⟨T16, _, X16, N16, e16, fun t k => ?_⟩
      rw [show v19 = v15 from hv19.trans (if_neg h50_18)] at k
      show Steps p.tables e below (T16.setTop (mkF m 50 #[.val (.int p13_0), .val (.long q13_1), .second, .val (.long q13_2), .second, .val (.long q13_3), .second, .val (.long q13_4), .second, .val (.long q13_5), .second, .val (.long v15), .second] [(.int (4 : Int32)), (.int p13_0)])) _
      refine XS.icmpYes X16.here hx rfl (pc0 := 50) (pc' := 60) rfl (hb hby d13_50) rfl (flt h50_18).2.2.2 (by decide) (by decide) ?_
      exact k)
  obtain ⟨fs, hr, hrun, hended, hW, hsame⟩ := X20.leave (v := some (.long v19)) (fun h => by rw [Bd.returns] at h; cases h)
  refine ⟨_, _, pre0 _ ?_, hrun, hended, _, _, rfl, ?_, ⟨_, rfl⟩, hW, hsame.mono (by decide) (by decide)⟩
  · refine G1 _ ?_
    refine G4 _ ?_
    refine G5 _ ?_
    refine G8 _ ?_
    refine G9 _ ?_
    refine G12 _ ?_
    refine G13 _ ?_
    refine G16 _ ?_
    refine G17 _ ?_
    refine G20 _ ?_
    show Steps p.tables e below (T20.setTop (mkF m 60 #[.val (.int p13_0), .val (.long q13_1), .second, .val (.long q13_2), .second, .val (.long q13_3), .second, .val (.long q13_4), .second, .val (.long q13_5), .second, .val (.long v19), .second] [])) _
    refine XS.lload X20.here hx rfl (hb hby d13_60) rfl ?_
    show Steps p.tables e below (T20.setTop (mkF m 62 #[.val (.int p13_0), .val (.long q13_1), .second, .val (.long q13_2), .second, .val (.long q13_3), .second, .val (.long q13_4), .second, .val (.long q13_5), .second, .val (.long v19), .second] [(.long v19)])) _
    exact own_retJ X20 hx Bd.returns (hb hby d13_62) hr
  · show Q_rm13 Z p13_0 q13_1 q13_2 q13_3 q13_4 q13_5 h0 n0 _ T20.heap _
    rw [e20]
    subst hv19
    subst hv15
    subst hv11
    subst hv7
    subst hv3
    exact ⟨rfl, N20, rfl⟩
theorem own_p5 (q x : Int32) (hx : x = ((q &&& (2147483647 : Int32)) % (5 : Int32))) : x = (0 : Int32) ∨ x = (1 : Int32) ∨ x = (2 : Int32) ∨ x = (3 : Int32) ∨ x = (4 : Int32) := by
  have h1 := c_and q (2147483647 : Int32) (by decide)
  have h2 := (c_iremV (q &&& (2147483647 : Int32)) (5 : Int32)).1 h1.1 (by decide)
  rw [← hx, show (5 : Int32).toInt = 5 from by decide] at h2
  simp only [← Int32.toInt_inj]
  simp only [show (0 : Int32).toInt = 0 from by decide, show (1 : Int32).toInt = 1 from by decide, show (2 : Int32).toInt = 2 from by decide, show (3 : Int32).toInt = 3 from by decide, show (4 : Int32).toInt = 4 from by decide, show (5 : Int32).toInt = 5 from by decide, show (6 : Int32).toInt = 6 from by decide, show (7 : Int32).toInt = 7 from by decide, show (8 : Int32).toInt = 8 from by decide]
  omega
theorem own_p9 (q x : Int32) (hx : x = ((q &&& (2147483647 : Int32)) % (9 : Int32))) : x = (0 : Int32) ∨ x = (1 : Int32) ∨ x = (2 : Int32) ∨ x = (3 : Int32) ∨ x = (4 : Int32) ∨ x = (5 : Int32) ∨ x = (6 : Int32) ∨ x = (7 : Int32) ∨ x = (8 : Int32) := by
  have h1 := c_and q (2147483647 : Int32) (by decide)
  have h2 := (c_iremV (q &&& (2147483647 : Int32)) (9 : Int32)).1 h1.1 (by decide)
  rw [← hx, show (9 : Int32).toInt = 9 from by decide] at h2
  simp only [← Int32.toInt_inj]
  simp only [show (0 : Int32).toInt = 0 from by decide, show (1 : Int32).toInt = 1 from by decide, show (2 : Int32).toInt = 2 from by decide, show (3 : Int32).toInt = 3 from by decide, show (4 : Int32).toInt = 4 from by decide, show (5 : Int32).toInt = 5 from by decide, show (6 : Int32).toInt = 6 from by decide, show (7 : Int32).toInt = 7 from by decide, show (8 : Int32).toInt = 8 from by decide]
  omega
theorem pd__IJJJJJ_J : parseMethodDescriptor "(IJJJJJ)J" = some ⟨[.int, .long, .long, .long, .long, .long], some .long⟩ := by decide +kernel
theorem d2_0 : decode prog_14_method_1_code 0 = .ok (.aload_n 0, 1) := by decide +kernel
theorem d2_1 : decode prog_14_method_1_code 1 = .ok (.invokespecial 1, 3) := by decide +kernel
theorem d2_4 : decode prog_14_method_1_code 4 = .ok (.aload_n 0, 1) := by decide +kernel
theorem d2_5 : decode prog_14_method_1_code 5 = .ok (.iconst 0, 1) := by decide +kernel
theorem d2_6 : decode prog_14_method_1_code 6 = .ok (.newarray .long, 2) := by decide +kernel
theorem d2_8 : decode prog_14_method_1_code 8 = .ok (.putfield 7, 3) := by decide +kernel
theorem d2_11 : decode prog_14_method_1_code 11 = .ok (.return_, 1) := by decide +kernel
theorem pn_2 : plainName "com/example/motley/motley/CountTree" = true := by first | (simp [plainName, overriddenIn]; done) | decide +kernel
theorem ef_rm2_1 (m : MethodId) (y0 : Addr) : entryFrame m #[(.ref y0)] 1 = mkF m 0 #[.val (.ref y0)] [] := by first | (simp [entryFrame, mkF, argsToLocals, Value.category]; done) | rfl
def Q_rm2_1 (Z : State) (a2_0 : Addr) (h0 : Heap) (n0 : Nat) (v : Option Value) (h : Heap) (L : List Loc) : Prop := ∃ bx2_0 : Addr, ∃ kx2_0 : ClassId, v = none ∧ Fr n0 L ∧ Keep h0 h [a2_0] ∧ h0.size ≤ bx2_0 ∧ Exa Z h a2_0 "com/example/motley/motley/CountTree" ∧ Fld Z h a2_0 "com/example/motley/motley/CountTree" "tree" "[J" (.ref bx2_0) ∧ Fld Z h a2_0 "com/example/motley/motley/CountTree" "size" "I" (.int (0 : Int32)) ∧ Fld Z h a2_0 "com/example/motley/motley/CountTree" "total" "J" (.long (0 : Int64)) ∧ Arv Z h bx2_0 kx2_0 .long (0 : Int32) [] (.long (0 : Int64))
set_option maxRecDepth 65536 in
set_option maxHeartbeats 40000000 in
theorem rm2_1 (l : Launch) (Z : State) (a0 : Array Value) (hw : ∀ d ∈ tables_1, d.before a0 Z = true) (ws : List Jvm.Cond) (a2_0 : Addr) (h0 : Heap) (n0 : Nat) (Z0 : n0 ≤ h0.size) (E_a2_0 : Exa Z h0 a2_0 "com/example/motley/motley/CountTree") (F_tree_a2_0 : Fld Z h0 a2_0 "com/example/motley/motley/CountTree" "tree" "[J" .null) (F_size_a2_0 : Fld Z h0 a2_0 "com/example/motley/motley/CountTree" "size" "I" (.int (0 : Int32))) (F_total_a2_0 : Fld Z h0 a2_0 "com/example/motley/motley/CountTree" "total" "J" (.long (0 : Int64))) (g_a2_0 : n0 ≤ a2_0) :
    MetFree l (⟨"com/example/motley/motley/CountTree", "<init>", "()V"⟩ : MethodName) (head1 (Jvm.Cond.code (⟨"com/example/motley/motley/CountTree", "<init>", "()V"⟩ : MethodName) prog_14_method_1_code 1 none :: ws) ({ frames := 1, cells := 1, slots := 0, locals := 12 } : Room)) (fun a U => a = #[(.ref a2_0)] ∧ Z.Warmed39 U.vm ∧ U.heap = h0) (fun _ _ _ _ _ => True) (fun _ U o U' => ∃ v L, o = .returned v ∧ Q_rm2_1 Z a2_0 h0 n0 v U'.heap L ∧ FrameEnd U o U' L ({ frames := 1, cells := 1, slots := 0, locals := 12 } : Room).cells ({ frames := 1, cells := 1, slots := 0, locals := 12 } : Room).slots) := by
  refine MetFree.of_bodySF (plainFor_of_name pn_2) hisR ?_
  intro p e s m args below meth c s₁ Bd hml0 hP hK
  obtain ⟨rfl, hZ, hh⟩ := hP
  have hx := Bd.exec
  have hby := Bd.bytes
  have hml : c.maxLocals = 1 := hml0
  have hown : s.vm.findClass "com/example/motley/motley/CountTree" = some m.cls := findClass_of_methodNamed Bd.named
  have hnm := (name_of_methodNamed Bd.named Bd.method).1
  have X0 : Stand p l e ({ frames := 1, cells := 1, slots := 0, locals := 12 } : Room) s m #[(.ref a2_0)] below meth c s₁ [] 0 0 := Stand.of_body Bd
  have e0 : s₁.heap = h0 := by rw [← hh, Bd.state]; rfl
  have N0 := Fr.nil n0
  have pre0 : ∀ t, Steps p.tables e below (s₁.setTop (mkF m 0 #[.val (.ref a2_0)] [])) t → Steps p.tables e below (s₁.setTop (entryFrame m #[(.ref a2_0)] 1)) t := fun t k => castTop (ef_rm2_1 m a2_0) k
  obtain ⟨T1, X1, e1, st1⟩ := initO X0 hx hZ hown (ow12 hw) (ow13 hw) (ow14 hw) e0 (g := (mkF m 1 #[.val (.ref a2_0)] [(.ref a2_0)])) rfl (by rw [hml]; rfl) rfl (hb hby d2_1) (by decide) (W := 0) (by show 2 * 0 + _ ≤ _; exact Nat.le_of_eq rfl) (by decide)
  obtain ⟨T2, h2, k2, X2, e2, E2, A2, st2⟩ := newP X1 hx hZ (aty := .long) (ow15 hw) e1 (g := (mkF m 6 #[.val (.ref a2_0)] [(.int (0 : Int32)), (.ref a2_0)])) rfl (hb hby d2_6) rfl (by decide) (cap := 0) (by decide) (by decide) (by decide) (by decide)
  obtain ⟨b2, g2⟩ : ∃ z, z = h0.size := ⟨_, rfl⟩
  rw [← g2] at A2 st2
  have ne_a2_0_b2 : a2_0 ≠ b2 := Nat.ne_of_lt (Nat.lt_of_lt_of_le E_a2_0.lt (Nat.le_of_eq g2.symm))
  have V_b2 : Arv Z h2 b2 k2 .long (0 : Int32) [] (.long (0 : Int64)) := Arv.new A2 (by decide)
  have g_b2 : n0 ≤ b2 := Nat.le_trans Z0 (Nat.le_of_eq g2.symm)
  have sz_b2 : h0.size ≤ b2 := Nat.le_trans (Nat.le_refl _) (Nat.le_of_eq g2.symm)
  have K2 : Keep h0 h2 [a2_0] := (Keep.refl h0 [a2_0]).ext E2
  have Z2 : n0 ≤ h2.size := Nat.le_trans Z0 K2.1
  have f3 := (E_a2_0.ext E2)
  have f4 := (F_tree_a2_0.ext E2)
  obtain ⟨T5, h5, X5, e5, W5, st5⟩ := putF X2 hx hZ hown (host := "") (Or.inl (ow16 hw)) Via.refl e2 f4 f3 (Or.inl (ow17 hw)) (ow7 hw) (ty := (.array .long)) (by decide) rfl rfl (g := (mkF m 8 #[.val (.ref a2_0)] [(.ref b2), (.ref a2_0)])) rfl rfl (hb hby d2_8)
  have F5 := f4.same W5
  have K5 : Keep h0 h5 [a2_0] := K2.wr W5 (Or.inl (List.mem_of_getElem? (i := 0) rfl))
  have Z5 : n0 ≤ h5.size := Nat.le_trans Z0 K5.1
  have N5 := Fr.snoc X5 N0 g_a2_0
  obtain ⟨fs, hr, hrun, hended, hW, hsame⟩ := X5.leave (v := none) (fun _ => rfl)
  refine ⟨_, _, pre0 _ ?_, hrun, hended, _, _, rfl, ?_, ⟨_, rfl⟩, hW, hsame.mono (by decide) (by decide)⟩
  · show Steps p.tables e below (s₁.setTop (mkF m 0 #[.val (.ref a2_0)] [])) _
    refine XS.aloadN X0.here hx rfl (hb hby d2_0) rfl rfl ?_
    refine st1 _ ?_
    refine XS.aloadN X1.here hx rfl (hb hby d2_4) rfl rfl ?_
    show Steps p.tables e below (T1.setTop (mkF m 5 #[.val (.ref a2_0)] [(.ref a2_0)])) _
    refine XS.iconst X1.here hx rfl (hb hby d2_5) ?_
    refine st2 _ ?_
    refine st5 _ ?_
    show Steps p.tables e below (T5.setTop (mkF m 11 #[.val (.ref a2_0)] [])) _
    exact X5.returnOut hx Bd.returns (hb hby d2_11) hr
  · have f6 := (f3.wr W5)
    have f7 := ((F_size_a2_0.ext E2).other W5 (Or.inr (slot_ne (Or.inl (ow29 hw)) (Or.inl (ow17 hw)) (by decide) (t := .int) (t' := (.array .long)) (by decide) (by decide))))
    have f8 := ((F_total_a2_0.ext E2).other W5 (Or.inr (slot_ne (Or.inl (ow51 hw)) (Or.inl (ow17 hw)) (by decide) (t := .long) (t' := (.array .long)) (by decide) (by decide))))
    have f9 := (V_b2.other W5 (Ne.symm ne_a2_0_b2))
    show Q_rm2_1 Z a2_0 h0 n0 _ T5.heap _
    rw [e5]
    exact ⟨b2, k2, rfl, N5, K5, sz_b2, f6, F5, f7, f8, f9⟩
theorem pd___V : parseMethodDescriptor "()V" = some ⟨[], none⟩ := by decide +kernel
theorem d6_0 : decode jdk_29_method_65_code 0 = .ok (.iload_n 0, 1) := by decide +kernel
theorem d6_1 : decode jdk_29_method_65_code 1 = .ok (.iload_n 1, 1) := by decide +kernel
theorem d6_2 : decode jdk_29_method_65_code 2 = .ok (.if_icmp .lt 7, 3) := by decide +kernel
theorem d6_5 : decode jdk_29_method_65_code 5 = .ok (.iload_n 0, 1) := by decide +kernel
theorem d6_6 : decode jdk_29_method_65_code 6 = .ok (.goto 4, 3) := by decide +kernel
theorem d6_10 : decode jdk_29_method_65_code 10 = .ok (.ireturn, 1) := by decide +kernel
theorem ef_rm6_1 (m : MethodId)  : entryFrame m #[(.int (1 : Int32)), (.int (0 : Int32))] 2 = mkF m 0 #[.val (.int (1 : Int32)), .val (.int (0 : Int32))] [] := by first | (simp [entryFrame, mkF, argsToLocals, Value.category]; done) | rfl
def Q_rm6_1 (Z : State)  (h0 : Heap) (n0 : Nat) (v : Option Value) (h : Heap) (L : List Loc) : Prop := v = some (.int (1 : Int32)) ∧ Fr n0 L ∧ h = h0
set_option maxRecDepth 65536 in
set_option maxHeartbeats 40000000 in
theorem rm6_1 (l : Launch) (Z : State) (a0 : Array Value) (hw : ∀ d ∈ tables_1, d.before a0 Z = true) (ws : List Jvm.Cond)  (h0 : Heap) (n0 : Nat) (Z0 : n0 ≤ h0.size) :
    MetFree l (⟨"java/lang/Math", "max", "(II)I"⟩ : MethodName) (head1 (Jvm.Cond.code (⟨"java/lang/Math", "max", "(II)I"⟩ : MethodName) jdk_29_method_65_code 2 (some .int) :: ws) ({ frames := 0, cells := 0, slots := 0, locals := 0 } : Room)) (fun a U => a = #[(.int (1 : Int32)), (.int (0 : Int32))] ∧ Z.Warmed39 U.vm ∧ U.heap = h0) (fun _ _ _ _ _ => True) (fun _ U o U' => ∃ v L, o = .returned v ∧ Q_rm6_1 Z  h0 n0 v U'.heap L ∧ FrameEnd U o U' L ({ frames := 0, cells := 0, slots := 0, locals := 0 } : Room).cells ({ frames := 0, cells := 0, slots := 0, locals := 0 } : Room).slots) := by
  refine MetFree.of_bodySF (Jvm.Free.JP.mathPlain rfl (by decide +kernel)) hisR ?_
  intro p e s m args below meth c s₁ Bd hml0 hP hK
  obtain ⟨rfl, hZ, hh⟩ := hP
  have hx := Bd.exec
  have hby := Bd.bytes
  have hml : c.maxLocals = 2 := hml0
  have hown : s.vm.findClass "java/lang/Math" = some m.cls := findClass_of_methodNamed Bd.named
  have hnm := (name_of_methodNamed Bd.named Bd.method).1
  have X0 : Stand p l e ({ frames := 0, cells := 0, slots := 0, locals := 0 } : Room) s m #[(.int (1 : Int32)), (.int (0 : Int32))] below meth c s₁ [] 0 0 := Stand.of_body Bd
  have e0 : s₁.heap = h0 := by rw [← hh, Bd.state]; rfl
  have N0 := Fr.nil n0
  have pre0 : ∀ t, Steps p.tables e below (s₁.setTop (mkF m 0 #[.val (.int (1 : Int32)), .val (.int (0 : Int32))] [])) t → Steps p.tables e below (s₁.setTop (entryFrame m #[(.int (1 : Int32)), (.int (0 : Int32))] 2)) t := fun t k => castTop (ef_rm6_1 m ) k
  obtain ⟨fs, hr, hrun, hended, hW, hsame⟩ := X0.leave (v := some (.int (1 : Int32))) (fun h => by rw [Bd.returns] at h; cases h)
  refine ⟨_, _, pre0 _ ?_, hrun, hended, _, _, rfl, ?_, ⟨_, rfl⟩, hW, hsame.mono (by decide) (by decide)⟩
  · show Steps p.tables e below (s₁.setTop (mkF m 0 #[.val (.int (1 : Int32)), .val (.int (0 : Int32))] [])) _
    refine XS.iloadN X0.here hx rfl (hb hby d6_0) rfl ?_
    refine XS.iloadN X0.here hx rfl (hb hby d6_1) rfl ?_
    show Steps p.tables e below (s₁.setTop (mkF m 2 #[.val (.int (1 : Int32)), .val (.int (0 : Int32))] [(.int (0 : Int32)), (.int (1 : Int32))])) _
    refine XS.icmpNo X0.here hx rfl (hb hby d6_2) rfl (flt (by decide : ¬ ((1 : Int32) < (0 : Int32)))).1 ?_
    refine XS.iloadN X0.here hx rfl (hb hby d6_5) rfl ?_
    refine XS.goto X0.here hx rfl (pc0 := 6) (pc' := 10) rfl (hb hby d6_6) (by decide) (by decide) ?_
    show Steps p.tables e below (s₁.setTop (mkF m 10 #[.val (.int (1 : Int32)), .val (.int (0 : Int32))] [(.int (1 : Int32))])) _
    exact retI X0 hx Bd.returns (hb hby d6_10) hr
  · show Q_rm6_1 Z  h0 n0 _ s₁.heap _
    rw [e0]
    exact ⟨rfl, N0, rfl⟩
theorem pd__II_I : parseMethodDescriptor "(II)I" = some ⟨[.int, .int], some .int⟩ := by decide +kernel
theorem d8_0 : decode jdk_29_method_69_code 0 = .ok (.iload_n 0, 1) := by decide +kernel
theorem d8_1 : decode jdk_29_method_69_code 1 = .ok (.iload_n 1, 1) := by decide +kernel
theorem d8_2 : decode jdk_29_method_69_code 2 = .ok (.if_icmp .gt 7, 3) := by decide +kernel
theorem d8_5 : decode jdk_29_method_69_code 5 = .ok (.iload_n 0, 1) := by decide +kernel
theorem d8_6 : decode jdk_29_method_69_code 6 = .ok (.goto 4, 3) := by decide +kernel
theorem d8_10 : decode jdk_29_method_69_code 10 = .ok (.ireturn, 1) := by decide +kernel
theorem ef_rm8_1 (m : MethodId)  : entryFrame m #[(.int (0 : Int32)), (.int (1 : Int32))] 2 = mkF m 0 #[.val (.int (0 : Int32)), .val (.int (1 : Int32))] [] := by first | (simp [entryFrame, mkF, argsToLocals, Value.category]; done) | rfl
def Q_rm8_1 (Z : State)  (h0 : Heap) (n0 : Nat) (v : Option Value) (h : Heap) (L : List Loc) : Prop := v = some (.int (0 : Int32)) ∧ Fr n0 L ∧ h = h0
set_option maxRecDepth 65536 in
set_option maxHeartbeats 40000000 in
theorem rm8_1 (l : Launch) (Z : State) (a0 : Array Value) (hw : ∀ d ∈ tables_1, d.before a0 Z = true) (ws : List Jvm.Cond)  (h0 : Heap) (n0 : Nat) (Z0 : n0 ≤ h0.size) :
    MetFree l (⟨"java/lang/Math", "min", "(II)I"⟩ : MethodName) (head1 (Jvm.Cond.code (⟨"java/lang/Math", "min", "(II)I"⟩ : MethodName) jdk_29_method_69_code 2 (some .int) :: ws) ({ frames := 0, cells := 0, slots := 0, locals := 0 } : Room)) (fun a U => a = #[(.int (0 : Int32)), (.int (1 : Int32))] ∧ Z.Warmed39 U.vm ∧ U.heap = h0) (fun _ _ _ _ _ => True) (fun _ U o U' => ∃ v L, o = .returned v ∧ Q_rm8_1 Z  h0 n0 v U'.heap L ∧ FrameEnd U o U' L ({ frames := 0, cells := 0, slots := 0, locals := 0 } : Room).cells ({ frames := 0, cells := 0, slots := 0, locals := 0 } : Room).slots) := by
  refine MetFree.of_bodySF (Jvm.Free.JP.mathPlain rfl (by decide +kernel)) hisR ?_
  intro p e s m args below meth c s₁ Bd hml0 hP hK
  obtain ⟨rfl, hZ, hh⟩ := hP
  have hx := Bd.exec
  have hby := Bd.bytes
  have hml : c.maxLocals = 2 := hml0
  have hown : s.vm.findClass "java/lang/Math" = some m.cls := findClass_of_methodNamed Bd.named
  have hnm := (name_of_methodNamed Bd.named Bd.method).1
  have X0 : Stand p l e ({ frames := 0, cells := 0, slots := 0, locals := 0 } : Room) s m #[(.int (0 : Int32)), (.int (1 : Int32))] below meth c s₁ [] 0 0 := Stand.of_body Bd
  have e0 : s₁.heap = h0 := by rw [← hh, Bd.state]; rfl
  have N0 := Fr.nil n0
  have pre0 : ∀ t, Steps p.tables e below (s₁.setTop (mkF m 0 #[.val (.int (0 : Int32)), .val (.int (1 : Int32))] [])) t → Steps p.tables e below (s₁.setTop (entryFrame m #[(.int (0 : Int32)), (.int (1 : Int32))] 2)) t := fun t k => castTop (ef_rm8_1 m ) k
  obtain ⟨fs, hr, hrun, hended, hW, hsame⟩ := X0.leave (v := some (.int (0 : Int32))) (fun h => by rw [Bd.returns] at h; cases h)
  refine ⟨_, _, pre0 _ ?_, hrun, hended, _, _, rfl, ?_, ⟨_, rfl⟩, hW, hsame.mono (by decide) (by decide)⟩
  · show Steps p.tables e below (s₁.setTop (mkF m 0 #[.val (.int (0 : Int32)), .val (.int (1 : Int32))] [])) _
    refine XS.iloadN X0.here hx rfl (hb hby d8_0) rfl ?_
    refine XS.iloadN X0.here hx rfl (hb hby d8_1) rfl ?_
    show Steps p.tables e below (s₁.setTop (mkF m 2 #[.val (.int (0 : Int32)), .val (.int (1 : Int32))] [(.int (1 : Int32)), (.int (0 : Int32))])) _
    refine XS.icmpNo X0.here hx rfl (hb hby d8_2) rfl (flt (by decide : ¬ ((1 : Int32) < (0 : Int32)))).2.2.1 ?_
    refine XS.iloadN X0.here hx rfl (hb hby d8_5) rfl ?_
    refine XS.goto X0.here hx rfl (pc0 := 6) (pc' := 10) rfl (hb hby d8_6) (by decide) (by decide) ?_
    show Steps p.tables e below (s₁.setTop (mkF m 10 #[.val (.int (0 : Int32)), .val (.int (1 : Int32))] [(.int (0 : Int32))])) _
    exact retI X0 hx Bd.returns (hb hby d8_10) hr
  · show Q_rm8_1 Z  h0 n0 _ s₁.heap _
    rw [e0]
    exact ⟨rfl, N0, rfl⟩
theorem d7_0 : decode jdk_65_method_124_code 0 = .ok (.iload_n 1, 1) := by decide +kernel
theorem d7_1 : decode jdk_65_method_124_code 1 = .ok (.aload_n 0, 1) := by decide +kernel
theorem d7_2 : decode jdk_65_method_124_code 2 = .ok (.arraylength, 1) := by decide +kernel
theorem d7_3 : decode jdk_65_method_124_code 3 = .ok (.if_icmp .ne 11, 3) := by decide +kernel
theorem d7_14 : decode jdk_65_method_124_code 14 = .ok (.iload_n 1, 1) := by decide +kernel
theorem d7_15 : decode jdk_65_method_124_code 15 = .ok (.newarray .long, 2) := by decide +kernel
theorem d7_17 : decode jdk_65_method_124_code 17 = .ok (.astore_n 2, 1) := by decide +kernel
theorem d7_18 : decode jdk_65_method_124_code 18 = .ok (.aload_n 0, 1) := by decide +kernel
theorem d7_19 : decode jdk_65_method_124_code 19 = .ok (.iconst 0, 1) := by decide +kernel
theorem d7_20 : decode jdk_65_method_124_code 20 = .ok (.aload_n 2, 1) := by decide +kernel
theorem d7_21 : decode jdk_65_method_124_code 21 = .ok (.iconst 0, 1) := by decide +kernel
theorem d7_22 : decode jdk_65_method_124_code 22 = .ok (.aload_n 0, 1) := by decide +kernel
theorem d7_23 : decode jdk_65_method_124_code 23 = .ok (.arraylength, 1) := by decide +kernel
theorem d7_24 : decode jdk_65_method_124_code 24 = .ok (.iload_n 1, 1) := by decide +kernel
theorem d7_25 : decode jdk_65_method_124_code 25 = .ok (.invokestatic 304, 3) := by decide +kernel
theorem d7_28 : decode jdk_65_method_124_code 28 = .ok (.invokestatic 150, 3) := by decide +kernel
theorem d7_31 : decode jdk_65_method_124_code 31 = .ok (.aload_n 2, 1) := by decide +kernel
theorem d7_32 : decode jdk_65_method_124_code 32 = .ok (.areturn, 1) := by decide +kernel
theorem pn_7 : plainName "java/util/Arrays" = true := by first | (simp [plainName, overriddenIn]; done) | decide +kernel
theorem ef_rm7_1 (m : MethodId) (y0 : Addr) : entryFrame m #[(.ref y0), (.int (1 : Int32))] 3 = mkF m 0 #[.val (.ref y0), .val (.int (1 : Int32)), .unset] [] := by first | (simp [entryFrame, mkF, argsToLocals, Value.category]; done) | rfl
def Q_rm7_1 (Z : State) (a7_0 : Addr) (kc_a7_0 : ClassId) (h0 : Heap) (n0 : Nat) (v : Option Value) (h : Heap) (L : List Loc) : Prop := ∃ bx7_0 : Addr, ∃ kx7_0 : ClassId, v = some (.ref bx7_0) ∧ Fr n0 L ∧ Keep h0 h [] ∧ h0.size ≤ bx7_0 ∧ Arv Z h bx7_0 kx7_0 .long (1 : Int32) [(.long (0 : Int64))] (.long (0 : Int64))
set_option maxRecDepth 65536 in
set_option maxHeartbeats 40000000 in
theorem rm7_1 (l : Launch) (Z : State) (a0 : Array Value) (hw : ∀ d ∈ tables_1, d.before a0 Z = true) (ws : List Jvm.Cond) (a7_0 : Addr) (kc_a7_0 : ClassId) (h0 : Heap) (n0 : Nat) (Z0 : n0 ≤ h0.size) (V_a7_0 : Arv Z h0 a7_0 kc_a7_0 .long (0 : Int32) [] (.long (0 : Int64))) :
    MetFree l (⟨"java/util/Arrays", "copyOf", "([JI)[J"⟩ : MethodName) (head1 (Jvm.Cond.code (⟨"java/util/Arrays", "copyOf", "([JI)[J"⟩ : MethodName) jdk_65_method_124_code 3 (some (.array .long)) :: ws) ({ frames := 1, cells := 1, slots := 1, locals := 18 } : Room)) (fun a U => a = #[(.ref a7_0), (.int (1 : Int32))] ∧ Z.Warmed39 U.vm ∧ U.heap = h0) (fun _ _ _ _ _ => True) (fun _ U o U' => ∃ v L, o = .returned v ∧ Q_rm7_1 Z a7_0 kc_a7_0 h0 n0 v U'.heap L ∧ FrameEnd U o U' L ({ frames := 1, cells := 1, slots := 1, locals := 18 } : Room).cells ({ frames := 1, cells := 1, slots := 1, locals := 18 } : Room).slots) := by
  refine MetFree.of_bodySF (plainFor_of_name pn_7) hisR ?_
  intro p e s m args below meth c s₁ Bd hml0 hP hK
  obtain ⟨rfl, hZ, hh⟩ := hP
  have hx := Bd.exec
  have hby := Bd.bytes
  have hml : c.maxLocals = 3 := hml0
  have hown : s.vm.findClass "java/util/Arrays" = some m.cls := findClass_of_methodNamed Bd.named
  have hnm := (name_of_methodNamed Bd.named Bd.method).1
  have X0 : Stand p l e ({ frames := 1, cells := 1, slots := 1, locals := 18 } : Room) s m #[(.ref a7_0), (.int (1 : Int32))] below meth c s₁ [] 0 0 := Stand.of_body Bd
  have e0 : s₁.heap = h0 := by rw [← hh, Bd.state]; rfl
  have N0 := Fr.nil n0
  have pre0 : ∀ t, Steps p.tables e below (s₁.setTop (mkF m 0 #[.val (.ref a7_0), .val (.int (1 : Int32)), .unset] [])) t → Steps p.tables e below (s₁.setTop (entryFrame m #[(.ref a7_0), (.int (1 : Int32))] 3)) t := fun t k => castTop (ef_rm7_1 m a7_0) k
  obtain ⟨cl1, Ar1, qk1, Sz1, Nz1, Hh1, Gf1⟩ := id V_a7_0
  obtain ⟨T2, h2, k2, X2, e2, E2, A2, st2⟩ := newP X0 hx hZ (aty := .long) (ow15 hw) e0 (g := (mkF m 15 #[.val (.ref a7_0), .val (.int (1 : Int32)), .unset] [(.int (1 : Int32))])) rfl (hb hby d7_15) rfl (by decide) (cap := 1) (by decide) (by decide) (by decide) (by decide)
  obtain ⟨b2, g2⟩ : ∃ z, z = h0.size := ⟨_, rfl⟩
  rw [← g2] at A2 st2
  have ne_a7_0_b2 : a7_0 ≠ b2 := Nat.ne_of_lt (Nat.lt_of_lt_of_le V_a7_0.lt (Nat.le_of_eq g2.symm))
  have V_b2 : Arv Z h2 b2 k2 .long (1 : Int32) [(.long (0 : Int64))] (.long (0 : Int64)) := (Arv.new A2 (by decide)).pad (pad_rep [] (.long (0 : Int64)) 1)
  have g_b2 : n0 ≤ b2 := Nat.le_trans Z0 (Nat.le_of_eq g2.symm)
  have sz_b2 : h0.size ≤ b2 := Nat.le_trans (Nat.le_refl _) (Nat.le_of_eq g2.symm)
  have K2 : Keep h0 h2 [] := (Keep.refl h0 []).ext E2
  have Z2 : n0 ≤ h2.size := Nat.le_trans Z0 K2.1
  have f3 := (V_a7_0.ext E2)
  obtain ⟨cl4, Ar4, qk4, Sz4, Nz4, Hh4, Gf4⟩ := id f3
  obtain ⟨_, _, ⟨T5, L5, k5, n5⟩, -, X5, ⟨Lc5, hQ5, l5, y5, z5⟩, st5⟩ := Jvm.LawKit.callS X2 hx (y := (⟨"java/lang/Math", "min", "(II)I"⟩ : MethodName)) hown (mvT hZ (ow38 hw)) (mvT hZ (ow39 hw)) (mvT hZ (ow32 hw)) (mvT hZ (ow40 hw)) (by decide) (backOf (W := 4) (rm8_1 l Z a0 hw []  h2 n0 Z2 ) hZ (ow40 hw) (ow32 hw) (by decide) (by decide)) (g := (mkF m 25 #[.val (.ref a7_0), .val (.int (1 : Int32)), .val (.ref b2)] [(.int (1 : Int32)), (.int (0 : Int32)), (.int (0 : Int32)), (.ref b2), (.int (0 : Int32)), (.ref a7_0)])) rfl (by rw [hml]; rfl) (argsL := [(.int (0 : Int32)), (.int (1 : Int32))]) (rest := [(.int (0 : Int32)), (.ref b2), (.int (0 : Int32)), (.ref a7_0)]) (lenOf pd__II_I rfl) rfl (by show 2 * 0 + _ ≤ _; exact Nat.le_of_eq rfl) (hb hby d7_25) (fun _ _ => ⟨rfl, e2, (by decide : 1 + 0 ≤ _), (by decide : 1 + 0 ≤ _)⟩)
  dsimp only [Pt.U, Pt.locs, Pt.cells, Pt.slots] at X5 l5 y5 z5 st5 hQ5
  subst l5 y5 z5
  obtain ⟨rfl, Nq5, e5⟩ := hQ5
  have N5 := Fr.app N0 Nq5
  obtain ⟨T6, h6, Lo6, X6, e6, N6, Kc6, V6, st6⟩ := cpA X5 hx hZ hown (ow41 hw) (ow44 hw) (ow42 hw) (ow43 hw) e5 f3 V_b2 (Or.inl ⟨rfl, rfl⟩) (sp := (0 : Int32)) (dp := (0 : Int32)) (nn := (0 : Int32)) (us := []) (by decide) (by decide) (by decide) (by decide) (by decide) rfl (Nat.le_of_ble_eq_true rfl) N5 g_b2 (g := (mkF m 28 #[.val (.ref a7_0), .val (.int (1 : Int32)), .val (.ref b2)] [(.int (0 : Int32)), (.int (0 : Int32)), (.ref b2), (.int (0 : Int32)), (.ref a7_0)])) rfl (by rw [hml]; rfl) rfl (hb hby d7_28) (by decide) (W := 0) (by show 2 * 0 + _ ≤ _; exact Nat.le_of_eq rfl) (by decide)
  have V6 : Arv Z h6 b2 k2 .long (1 : Int32) [(.long (0 : Int64))] (.long (0 : Int64)) := V6
  have K6 : Keep h0 h6 [] := Keep.trans K2 Kc6 (allS (P := fun x => x ∈ ([] : List Addr) ∨ h0.size ≤ x) (Or.inr sz_b2) all0)
  have Z6 : n0 ≤ h6.size := Nat.le_trans Z0 K6.1
  obtain ⟨fs, hr, hrun, hended, hW, hsame⟩ := X6.leave (v := some (.ref b2)) (fun h => by rw [Bd.returns] at h; cases h)
  refine ⟨_, _, pre0 _ ?_, hrun, hended, _, _, rfl, ?_, ⟨_, rfl⟩, hW, hsame.mono (by decide) (by decide)⟩
  · show Steps p.tables e below (s₁.setTop (mkF m 0 #[.val (.ref a7_0), .val (.int (1 : Int32)), .unset] [])) _
    refine XS.iloadN X0.here hx rfl (hb hby d7_0) rfl ?_
    refine XS.aloadN X0.here hx rfl (hb hby d7_1) rfl rfl ?_
    show Steps p.tables e below (s₁.setTop (mkF m 2 #[.val (.ref a7_0), .val (.int (1 : Int32)), .unset] [(.ref a7_0), (.int (1 : Int32))])) _
    refine X0.arraylength hx (cell := cl1) (by rw [e0]; exact Ar1.1) (State.isArrayOf_alike hZ.alike Ar1.2.1) (g := (mkF m 2 #[.val (.ref a7_0), .val (.int (1 : Int32)), .unset] [(.ref a7_0), (.int (1 : Int32))])) rfl (rest := [(.int (1 : Int32))]) rfl (hb hby d7_2) _ ?_
    rw [len_of Sz1 Nz1]
    show Steps p.tables e below (s₁.setTop (mkF m 3 #[.val (.ref a7_0), .val (.int (1 : Int32)), .unset] [(.int (0 : Int32)), (.int (1 : Int32))])) _
    refine XS.icmpYes X0.here hx rfl (pc0 := 3) (pc' := 14) rfl (hb hby d7_3) rfl (feq (by decide : ¬ ((1 : Int32) = (0 : Int32)))).2 (by decide) (by decide) ?_
    refine XS.iloadN X0.here hx rfl (hb hby d7_14) rfl ?_
    refine st2 _ ?_
    show Steps p.tables e below (T2.setTop (mkF m 17 #[.val (.ref a7_0), .val (.int (1 : Int32)), .unset] [(.ref b2)])) _
    refine XS.astoreN X2.here hx rfl (hb hby d7_17) rfl rfl (l' := #[.val (.ref a7_0), .val (.int (1 : Int32)), .val (.ref b2)]) rfl ?_
    refine XS.aloadN X2.here hx rfl (hb hby d7_18) rfl rfl ?_
    refine XS.iconst X2.here hx rfl (hb hby d7_19) ?_
    show Steps p.tables e below (T2.setTop (mkF m 20 #[.val (.ref a7_0), .val (.int (1 : Int32)), .val (.ref b2)] [(.int (0 : Int32)), (.ref a7_0)])) _
    refine XS.aloadN X2.here hx rfl (hb hby d7_20) rfl rfl ?_
    refine XS.iconst X2.here hx rfl (hb hby d7_21) ?_
    refine XS.aloadN X2.here hx rfl (hb hby d7_22) rfl rfl ?_
    show Steps p.tables e below (T2.setTop (mkF m 23 #[.val (.ref a7_0), .val (.int (1 : Int32)), .val (.ref b2)] [(.ref a7_0), (.int (0 : Int32)), (.ref b2), (.int (0 : Int32)), (.ref a7_0)])) _
    refine X2.arraylength hx (cell := cl4) (by rw [e2]; exact Ar4.1) (State.isArrayOf_alike hZ.alike Ar4.2.1) (g := (mkF m 23 #[.val (.ref a7_0), .val (.int (1 : Int32)), .val (.ref b2)] [(.ref a7_0), (.int (0 : Int32)), (.ref b2), (.int (0 : Int32)), (.ref a7_0)])) rfl (rest := [(.int (0 : Int32)), (.ref b2), (.int (0 : Int32)), (.ref a7_0)]) rfl (hb hby d7_23) _ ?_
    rw [len_of Sz4 Nz4]
    refine XS.iloadN X2.here hx rfl (hb hby d7_24) rfl ?_
    show Steps p.tables e below (T2.setTop (mkF m 25 #[.val (.ref a7_0), .val (.int (1 : Int32)), .val (.ref b2)] [(.int (1 : Int32)), (.int (0 : Int32)), (.int (0 : Int32)), (.ref b2), (.int (0 : Int32)), (.ref a7_0)])) _
    refine st5 _ ?_
    refine st6 _ ?_
    refine XS.aloadN X6.here hx rfl (hb hby d7_31) rfl rfl ?_
    show Steps p.tables e below (T6.setTop (mkF m 32 #[.val (.ref a7_0), .val (.int (1 : Int32)), .val (.ref b2)] [(.ref b2)])) _
    jvm_step X6.here [X6.here.top, hx, (hb hby d7_32), X6.method', Bd.returns, Value.isRef, FieldType.isReference]
    first | (intro acts; rw [hr _ acts rfl rfl rfl]) | rw [hr _ _ rfl rfl rfl]
    exact Steps.refl _
  · show Q_rm7_1 Z a7_0 kc_a7_0 h0 n0 _ T6.heap _
    rw [e6]
    exact ⟨b2, k2, rfl, N6, K6, sz_b2, V6⟩
theorem pd___JI__J : parseMethodDescriptor "([JI)[J" = some ⟨[(.array .long), .int], some (.array .long)⟩ := by decide +kernel
theorem d5_0 : decode prog_14_method_3_code 0 = .ok (.aload_n 0, 1) := by decide +kernel
theorem d5_1 : decode prog_14_method_3_code 1 = .ok (.getfield 13, 3) := by decide +kernel
theorem d5_4 : decode prog_14_method_3_code 4 = .ok (.iload_n 1, 1) := by decide +kernel
theorem d5_5 : decode prog_14_method_3_code 5 = .ok (.iadd, 1) := by decide +kernel
theorem d5_6 : decode prog_14_method_3_code 6 = .ok (.istore_n 2, 1) := by decide +kernel
theorem d5_7 : decode prog_14_method_3_code 7 = .ok (.iload_n 2, 1) := by decide +kernel
theorem d5_8 : decode prog_14_method_3_code 8 = .ok (.aload_n 0, 1) := by decide +kernel
theorem d5_9 : decode prog_14_method_3_code 9 = .ok (.getfield 7, 3) := by decide +kernel
theorem d5_12 : decode prog_14_method_3_code 12 = .ok (.arraylength, 1) := by decide +kernel
theorem d5_13 : decode prog_14_method_3_code 13 = .ok (.if_icmp .gt 4, 3) := by decide +kernel
theorem d5_17 : decode prog_14_method_3_code 17 = .ok (.iload_n 2, 1) := by decide +kernel
theorem d5_18 : decode prog_14_method_3_code 18 = .ok (.iconst 2, 1) := by decide +kernel
theorem d5_19 : decode prog_14_method_3_code 19 = .ok (.aload_n 0, 1) := by decide +kernel
theorem d5_20 : decode prog_14_method_3_code 20 = .ok (.getfield 7, 3) := by decide +kernel
theorem d5_23 : decode prog_14_method_3_code 23 = .ok (.arraylength, 1) := by decide +kernel
theorem d5_24 : decode prog_14_method_3_code 24 = .ok (.imul, 1) := by decide +kernel
theorem d5_25 : decode prog_14_method_3_code 25 = .ok (.invokestatic 17, 3) := by decide +kernel
theorem d5_28 : decode prog_14_method_3_code 28 = .ok (.istore_n 3, 1) := by decide +kernel
theorem d5_29 : decode prog_14_method_3_code 29 = .ok (.aload_n 0, 1) := by decide +kernel
theorem d5_30 : decode prog_14_method_3_code 30 = .ok (.getfield 7, 3) := by decide +kernel
theorem d5_33 : decode prog_14_method_3_code 33 = .ok (.iload_n 3, 1) := by decide +kernel
theorem d5_34 : decode prog_14_method_3_code 34 = .ok (.invokestatic 23, 3) := by decide +kernel
theorem d5_37 : decode prog_14_method_3_code 37 = .ok (.astore 4, 2) := by decide +kernel
theorem d5_39 : decode prog_14_method_3_code 39 = .ok (.aload_n 0, 1) := by decide +kernel
theorem d5_40 : decode prog_14_method_3_code 40 = .ok (.getfield 7, 3) := by decide +kernel
theorem d5_43 : decode prog_14_method_3_code 43 = .ok (.arraylength, 1) := by decide +kernel
theorem d5_44 : decode prog_14_method_3_code 44 = .ok (.iconst 1, 1) := by decide +kernel
theorem d5_45 : decode prog_14_method_3_code 45 = .ok (.iadd, 1) := by decide +kernel
theorem d5_46 : decode prog_14_method_3_code 46 = .ok (.istore 5, 2) := by decide +kernel
theorem d5_48 : decode prog_14_method_3_code 48 = .ok (.iload 5, 2) := by decide +kernel
theorem d5_50 : decode prog_14_method_3_code 50 = .ok (.iload_n 3, 1) := by decide +kernel
theorem d5_51 : decode prog_14_method_3_code 51 = .ok (.if_icmp .gt 47, 3) := by decide +kernel
theorem d5_54 : decode prog_14_method_3_code 54 = .ok (.iload 5, 2) := by decide +kernel
theorem d5_56 : decode prog_14_method_3_code 56 = .ok (.iload 5, 2) := by decide +kernel
theorem d5_58 : decode prog_14_method_3_code 58 = .ok (.iload 5, 2) := by decide +kernel
theorem d5_60 : decode prog_14_method_3_code 60 = .ok (.ineg, 1) := by decide +kernel
theorem d5_61 : decode prog_14_method_3_code 61 = .ok (.iand, 1) := by decide +kernel
theorem d5_62 : decode prog_14_method_3_code 62 = .ok (.isub, 1) := by decide +kernel
theorem d5_63 : decode prog_14_method_3_code 63 = .ok (.istore 6, 2) := by decide +kernel
theorem d5_65 : decode prog_14_method_3_code 65 = .ok (.iload 6, 2) := by decide +kernel
theorem d5_67 : decode prog_14_method_3_code 67 = .ok (.aload_n 0, 1) := by decide +kernel
theorem d5_68 : decode prog_14_method_3_code 68 = .ok (.getfield 13, 3) := by decide +kernel
theorem d5_71 : decode prog_14_method_3_code 71 = .ok (.if_icmp .ge 21, 3) := by decide +kernel
theorem d5_92 : decode prog_14_method_3_code 92 = .ok (.iinc 5 1, 3) := by decide +kernel
theorem d5_95 : decode prog_14_method_3_code 95 = .ok (.goto (-47), 3) := by decide +kernel
theorem d5_98 : decode prog_14_method_3_code 98 = .ok (.aload_n 0, 1) := by decide +kernel
theorem d5_99 : decode prog_14_method_3_code 99 = .ok (.aload 4, 2) := by decide +kernel
theorem d5_101 : decode prog_14_method_3_code 101 = .ok (.putfield 7, 3) := by decide +kernel
theorem d5_104 : decode prog_14_method_3_code 104 = .ok (.return_, 1) := by decide +kernel
theorem pn_5 : plainName "com/example/motley/motley/CountTree" = true := by first | (simp [plainName, overriddenIn]; done) | decide +kernel
theorem ef_rm5_1 (m : MethodId) (y0 : Addr) : entryFrame m #[(.ref y0), (.int (1 : Int32))] 7 = mkF m 0 #[.val (.ref y0), .val (.int (1 : Int32)), .unset, .unset, .unset, .unset, .unset] [] := by first | (simp [entryFrame, mkF, argsToLocals, Value.category]; done) | rfl
def Q_rm5_1 (Z : State) (a5_0 : Addr) (w_tree_a5_0 : Addr) (kc_w_tree_a5_0 : ClassId) (h0 : Heap) (n0 : Nat) (v : Option Value) (h : Heap) (L : List Loc) : Prop := ∃ bx5_0 : Addr, ∃ kx5_0 : ClassId, v = none ∧ Fr n0 L ∧ Keep h0 h [a5_0] ∧ h0.size ≤ bx5_0 ∧ Exa Z h a5_0 "com/example/motley/motley/CountTree" ∧ Fld Z h a5_0 "com/example/motley/motley/CountTree" "tree" "[J" (.ref bx5_0) ∧ Fld Z h a5_0 "com/example/motley/motley/CountTree" "size" "I" (.int (0 : Int32)) ∧ Fld Z h a5_0 "com/example/motley/motley/CountTree" "total" "J" (.long (0 : Int64)) ∧ Arv Z h bx5_0 kx5_0 .long (1 : Int32) [(.long (0 : Int64))] (.long (0 : Int64))
set_option maxRecDepth 65536 in
set_option maxHeartbeats 40000000 in
theorem rm5_1 (l : Launch) (Z : State) (a0 : Array Value) (hw : ∀ d ∈ tables_1, d.before a0 Z = true) (ws : List Jvm.Cond) (a5_0 : Addr) (w_tree_a5_0 : Addr) (kc_w_tree_a5_0 : ClassId) (h0 : Heap) (n0 : Nat) (Z0 : n0 ≤ h0.size) (E_a5_0 : Exa Z h0 a5_0 "com/example/motley/motley/CountTree") (F_tree_a5_0 : Fld Z h0 a5_0 "com/example/motley/motley/CountTree" "tree" "[J" (.ref w_tree_a5_0)) (F_size_a5_0 : Fld Z h0 a5_0 "com/example/motley/motley/CountTree" "size" "I" (.int (0 : Int32))) (F_total_a5_0 : Fld Z h0 a5_0 "com/example/motley/motley/CountTree" "total" "J" (.long (0 : Int64))) (V_w_tree_a5_0 : Arv Z h0 w_tree_a5_0 kc_w_tree_a5_0 .long (0 : Int32) [] (.long (0 : Int64))) (g_a5_0 : n0 ≤ a5_0) :
    MetFree l (⟨"com/example/motley/motley/CountTree", "reserve", "(I)V"⟩ : MethodName) (head1 (Jvm.Cond.code (⟨"com/example/motley/motley/CountTree", "reserve", "(I)V"⟩ : MethodName) prog_14_method_3_code 7 none :: ws) ({ frames := 2, cells := 1, slots := 1, locals := 32 } : Room)) (fun a U => a = #[(.ref a5_0), (.int (1 : Int32))] ∧ Z.Warmed39 U.vm ∧ U.heap = h0) (fun _ _ _ _ _ => True) (fun _ U o U' => ∃ v L, o = .returned v ∧ Q_rm5_1 Z a5_0 w_tree_a5_0 kc_w_tree_a5_0 h0 n0 v U'.heap L ∧ FrameEnd U o U' L ({ frames := 2, cells := 1, slots := 1, locals := 32 } : Room).cells ({ frames := 2, cells := 1, slots := 1, locals := 32 } : Room).slots) := by
  refine MetFree.of_bodySF (plainFor_of_name pn_5) hisR ?_
  intro p e s m args below meth c s₁ Bd hml0 hP hK
  obtain ⟨rfl, hZ, hh⟩ := hP
  have hx := Bd.exec
  have hby := Bd.bytes
  have hml : c.maxLocals = 7 := hml0
  have hown : s.vm.findClass "com/example/motley/motley/CountTree" = some m.cls := findClass_of_methodNamed Bd.named
  have hnm := (name_of_methodNamed Bd.named Bd.method).1
  have X0 : Stand p l e ({ frames := 2, cells := 1, slots := 1, locals := 32 } : Room) s m #[(.ref a5_0), (.int (1 : Int32))] below meth c s₁ [] 0 0 := Stand.of_body Bd
  have e0 : s₁.heap = h0 := by rw [← hh, Bd.state]; rfl
  have N0 := Fr.nil n0
  have pre0 : ∀ t, Steps p.tables e below (s₁.setTop (mkF m 0 #[.val (.ref a5_0), .val (.int (1 : Int32)), .unset, .unset, .unset, .unset, .unset] [])) t → Steps p.tables e below (s₁.setTop (entryFrame m #[(.ref a5_0), (.int (1 : Int32))] 7)) t := fun t k => castTop (ef_rm5_1 m a5_0) k
  obtain ⟨T1, X1, e1, st1⟩ := getF X0 hx hZ hown (host := "") (Or.inl (ow28 hw)) Via.refl e0 F_size_a5_0 (g := (mkF m 1 #[.val (.ref a5_0), .val (.int (1 : Int32)), .unset, .unset, .unset, .unset, .unset] [(.ref a5_0)])) rfl rfl (hb hby d5_1)
  obtain ⟨T2, X2, e2, st2⟩ := getF X1 hx hZ hown (host := "") (Or.inl (ow16 hw)) Via.refl e1 F_tree_a5_0 (g := (mkF m 9 #[.val (.ref a5_0), .val (.int (1 : Int32)), .val (.int (1 : Int32)), .unset, .unset, .unset, .unset] [(.ref a5_0), (.int (1 : Int32))])) rfl rfl (hb hby d5_9)
  obtain ⟨cl3, Ar3, qk3, Sz3, Nz3, Hh3, Gf3⟩ := id V_w_tree_a5_0
  obtain ⟨T4, X4, e4, st4⟩ := getF X2 hx hZ hown (host := "") (Or.inl (ow16 hw)) Via.refl e2 F_tree_a5_0 (g := (mkF m 20 #[.val (.ref a5_0), .val (.int (1 : Int32)), .val (.int (1 : Int32)), .unset, .unset, .unset, .unset] [(.ref a5_0), (.int (2 : Int32)), (.int (1 : Int32))])) rfl rfl (hb hby d5_20)
  obtain ⟨cl5, Ar5, qk5, Sz5, Nz5, Hh5, Gf5⟩ := id V_w_tree_a5_0
  obtain ⟨_, _, ⟨T6, L6, k6, n6⟩, -, X6, ⟨Lc6, hQ6, l6, y6, z6⟩, st6⟩ := Jvm.LawKit.callS X4 hx (y := (⟨"java/lang/Math", "max", "(II)I"⟩ : MethodName)) hown (mvT hZ (ow30 hw)) (mvT hZ (ow31 hw)) (mvT hZ (ow32 hw)) (mvT hZ (ow33 hw)) (by decide) (backOf (W := 0) (rm6_1 l Z a0 hw []  h0 n0 Z0 ) hZ (ow33 hw) (ow32 hw) (by decide) (by decide)) (g := (mkF m 25 #[.val (.ref a5_0), .val (.int (1 : Int32)), .val (.int (1 : Int32)), .unset, .unset, .unset, .unset] [(.int (0 : Int32)), (.int (1 : Int32))])) rfl (by rw [hml]; rfl) (argsL := [(.int (1 : Int32)), (.int (0 : Int32))]) (rest := []) (lenOf pd__II_I rfl) rfl (by show 2 * 0 + _ ≤ _; exact Nat.le_of_eq rfl) (hb hby d5_25) (fun _ _ => ⟨rfl, e4, (by decide : 0 + 0 ≤ _), (by decide : 0 + 0 ≤ _)⟩)
  dsimp only [Pt.U, Pt.locs, Pt.cells, Pt.slots] at X6 l6 y6 z6 st6 hQ6
  subst l6 y6 z6
  obtain ⟨rfl, Nq6, e6⟩ := hQ6
  have N6 := Fr.app N0 Nq6
  obtain ⟨T7, X7, e7, st7⟩ := getF X6 hx hZ hown (host := "") (Or.inl (ow16 hw)) Via.refl e6 F_tree_a5_0 (g := (mkF m 30 #[.val (.ref a5_0), .val (.int (1 : Int32)), .val (.int (1 : Int32)), .val (.int (1 : Int32)), .unset, .unset, .unset] [(.ref a5_0)])) rfl rfl (hb hby d5_30)
  obtain ⟨_, _, ⟨T8, L8, k8, n8⟩, -, X8, ⟨Lc8, hQ8, l8, y8, z8⟩, st8⟩ := Jvm.LawKit.callS X7 hx (y := (⟨"java/util/Arrays", "copyOf", "([JI)[J"⟩ : MethodName)) hown (mvT hZ (ow34 hw)) (mvT hZ (ow35 hw)) (mvT hZ (ow36 hw)) (mvT hZ (ow37 hw)) (by decide) (backOf (W := 0) (rm7_1 l Z a0 hw [] w_tree_a5_0 kc_w_tree_a5_0 h0 n0 Z0 V_w_tree_a5_0) hZ (ow37 hw) (ow36 hw) (by decide) (by decide)) (g := (mkF m 34 #[.val (.ref a5_0), .val (.int (1 : Int32)), .val (.int (1 : Int32)), .val (.int (1 : Int32)), .unset, .unset, .unset] [(.int (1 : Int32)), (.ref w_tree_a5_0)])) rfl (by rw [hml]; rfl) (argsL := [(.ref w_tree_a5_0), (.int (1 : Int32))]) (rest := []) (lenOf pd___JI__J rfl) rfl (by show 2 * 0 + _ ≤ _; exact Nat.le_of_eq rfl) (hb hby d5_34) (fun _ _ => ⟨rfl, e7, (by decide : 0 + 1 ≤ _), (by decide : 0 + 1 ≤ _)⟩)
  dsimp only [Pt.U, Pt.locs, Pt.cells, Pt.slots] at X8 l8 y8 z8 st8 hQ8
  subst l8 y8 z8
  obtain ⟨bx7_0_8, kx7_0_8, rfl, Nq8, Kc8, P8_0, P8_1⟩ := hQ8
  have K8 : Keep h0 T8.heap [a5_0] := Keep.trans (Keep.refl h0 [a5_0]) Kc8 all0
  have Z8 : n0 ≤ T8.heap.size := Nat.le_trans Z0 K8.1
  have g_bx7_0_8 : n0 ≤ bx7_0_8 := Nat.le_trans Z0 P8_0
  have sz_bx7_0_8 : h0.size ≤ bx7_0_8 := Nat.le_trans (Nat.le_refl _) P8_0
  have ne_a5_0_bx7_0_8 : a5_0 ≠ bx7_0_8 := Nat.ne_of_lt (Nat.lt_of_lt_of_le E_a5_0.lt P8_0)
  have ne_w_tree_a5_0_bx7_0_8 : w_tree_a5_0 ≠ bx7_0_8 := Nat.ne_of_lt (Nat.lt_of_lt_of_le V_w_tree_a5_0.lt P8_0)
  have N8 := Fr.app N6 Nq8
  have f9 := (F_tree_a5_0.keep Kc8 nin0)
  obtain ⟨T10, X10, e10, st10⟩ := getF X8 hx hZ hown (host := "") (Or.inl (ow16 hw)) Via.refl rfl f9 (g := (mkF m 40 #[.val (.ref a5_0), .val (.int (1 : Int32)), .val (.int (1 : Int32)), .val (.int (1 : Int32)), .val (.ref bx7_0_8), .unset, .unset] [(.ref a5_0)])) rfl rfl (hb hby d5_40)
  have f11 := (V_w_tree_a5_0.keep Kc8 nin0)
  obtain ⟨cl12, Ar12, qk12, Sz12, Nz12, Hh12, Gf12⟩ := id f11
  have f13 := (F_size_a5_0.keep Kc8 nin0)
  obtain ⟨T14, X14, e14, st14⟩ := getF X10 hx hZ hown (host := "") (Or.inl (ow28 hw)) Via.refl e10 f13 (g := (mkF m 68 #[.val (.ref a5_0), .val (.int (1 : Int32)), .val (.int (1 : Int32)), .val (.int (1 : Int32)), .val (.ref bx7_0_8), .val (.int (1 : Int32)), .val (.int (0 : Int32))] [(.ref a5_0), (.int (0 : Int32))])) rfl rfl (hb hby d5_68)
  have f15 := (E_a5_0.keep Kc8)
  obtain ⟨T16, h16, X16, e16, W16, st16⟩ := putF X14 hx hZ hown (host := "") (Or.inl (ow16 hw)) Via.refl e14 f9 f15 (Or.inl (ow17 hw)) (ow7 hw) (ty := (.array .long)) (by decide) rfl rfl (g := (mkF m 101 #[.val (.ref a5_0), .val (.int (1 : Int32)), .val (.int (1 : Int32)), .val (.int (1 : Int32)), .val (.ref bx7_0_8), .val (.int (2 : Int32)), .val (.int (0 : Int32))] [(.ref bx7_0_8), (.ref a5_0)])) rfl rfl (hb hby d5_101)
  have F16 := f9.same W16
  have K16 : Keep h0 h16 [a5_0] := K8.wr W16 (Or.inl (List.mem_of_getElem? (i := 0) rfl))
  have Z16 : n0 ≤ h16.size := Nat.le_trans Z0 K16.1
  have N16 := Fr.snoc X16 N8 g_a5_0
  obtain ⟨fs, hr, hrun, hended, hW, hsame⟩ := X16.leave (v := none) (fun _ => rfl)
  refine ⟨_, _, pre0 _ ?_, hrun, hended, _, _, rfl, ?_, ⟨_, rfl⟩, hW, hsame.mono (by decide) (by decide)⟩
  · show Steps p.tables e below (s₁.setTop (mkF m 0 #[.val (.ref a5_0), .val (.int (1 : Int32)), .unset, .unset, .unset, .unset, .unset] [])) _
    refine XS.aloadN X0.here hx rfl (hb hby d5_0) rfl rfl ?_
    refine st1 _ ?_
    refine XS.iloadN X1.here hx rfl (hb hby d5_4) rfl ?_
    show Steps p.tables e below (T1.setTop (mkF m 5 #[.val (.ref a5_0), .val (.int (1 : Int32)), .unset, .unset, .unset, .unset, .unset] [(.int (1 : Int32)), (.int (0 : Int32))])) _
    refine XS.iadd X1.here hx rfl (hb hby d5_5) rfl ?_
    refine XS.istoreN X1.here hx rfl (hb hby d5_6) rfl (l' := #[.val (.ref a5_0), .val (.int (1 : Int32)), .val (.int (1 : Int32)), .unset, .unset, .unset, .unset]) rfl ?_
    refine XS.iloadN X1.here hx rfl (hb hby d5_7) rfl ?_
    show Steps p.tables e below (T1.setTop (mkF m 8 #[.val (.ref a5_0), .val (.int (1 : Int32)), .val (.int (1 : Int32)), .unset, .unset, .unset, .unset] [(.int (1 : Int32))])) _
    refine XS.aloadN X1.here hx rfl (hb hby d5_8) rfl rfl ?_
    refine st2 _ ?_
    show Steps p.tables e below (T2.setTop (mkF m 12 #[.val (.ref a5_0), .val (.int (1 : Int32)), .val (.int (1 : Int32)), .unset, .unset, .unset, .unset] [(.ref w_tree_a5_0), (.int (1 : Int32))])) _
    refine X2.arraylength hx (cell := cl3) (by rw [e2]; exact Ar3.1) (State.isArrayOf_alike hZ.alike Ar3.2.1) (g := (mkF m 12 #[.val (.ref a5_0), .val (.int (1 : Int32)), .val (.int (1 : Int32)), .unset, .unset, .unset, .unset] [(.ref w_tree_a5_0), (.int (1 : Int32))])) rfl (rest := [(.int (1 : Int32))]) rfl (hb hby d5_12) _ ?_
    rw [len_of Sz3 Nz3]
    show Steps p.tables e below (T2.setTop (mkF m 13 #[.val (.ref a5_0), .val (.int (1 : Int32)), .val (.int (1 : Int32)), .unset, .unset, .unset, .unset] [(.int (0 : Int32)), (.int (1 : Int32))])) _
    refine XS.icmpYes X2.here hx rfl (pc0 := 13) (pc' := 17) rfl (hb hby d5_13) rfl (tlt (by decide : (0 : Int32) < (1 : Int32))).2.2.1 (by decide) (by decide) ?_
    refine XS.iloadN X2.here hx rfl (hb hby d5_17) rfl ?_
    refine XS.iconst X2.here hx rfl (hb hby d5_18) ?_
    show Steps p.tables e below (T2.setTop (mkF m 19 #[.val (.ref a5_0), .val (.int (1 : Int32)), .val (.int (1 : Int32)), .unset, .unset, .unset, .unset] [(.int (2 : Int32)), (.int (1 : Int32))])) _
    refine XS.aloadN X2.here hx rfl (hb hby d5_19) rfl rfl ?_
    refine st4 _ ?_
    show Steps p.tables e below (T4.setTop (mkF m 23 #[.val (.ref a5_0), .val (.int (1 : Int32)), .val (.int (1 : Int32)), .unset, .unset, .unset, .unset] [(.ref w_tree_a5_0), (.int (2 : Int32)), (.int (1 : Int32))])) _
    refine X4.arraylength hx (cell := cl5) (by rw [e4]; exact Ar5.1) (State.isArrayOf_alike hZ.alike Ar5.2.1) (g := (mkF m 23 #[.val (.ref a5_0), .val (.int (1 : Int32)), .val (.int (1 : Int32)), .unset, .unset, .unset, .unset] [(.ref w_tree_a5_0), (.int (2 : Int32)), (.int (1 : Int32))])) rfl (rest := [(.int (2 : Int32)), (.int (1 : Int32))]) rfl (hb hby d5_23) _ ?_
    rw [len_of Sz5 Nz5]
    refine XS.imul X4.here hx rfl (hb hby d5_24) rfl ?_
    show Steps p.tables e below (T4.setTop (mkF m 25 #[.val (.ref a5_0), .val (.int (1 : Int32)), .val (.int (1 : Int32)), .unset, .unset, .unset, .unset] [(.int (0 : Int32)), (.int (1 : Int32))])) _
    refine st6 _ ?_
    refine XS.istoreN X6.here hx rfl (hb hby d5_28) rfl (l' := #[.val (.ref a5_0), .val (.int (1 : Int32)), .val (.int (1 : Int32)), .val (.int (1 : Int32)), .unset, .unset, .unset]) rfl ?_
    refine XS.aloadN X6.here hx rfl (hb hby d5_29) rfl rfl ?_
    show Steps p.tables e below (T6.setTop (mkF m 30 #[.val (.ref a5_0), .val (.int (1 : Int32)), .val (.int (1 : Int32)), .val (.int (1 : Int32)), .unset, .unset, .unset] [(.ref a5_0)])) _
    refine st7 _ ?_
    refine XS.iloadN X7.here hx rfl (hb hby d5_33) rfl ?_
    refine st8 _ ?_
    show Steps p.tables e below (T8.setTop (mkF m 37 #[.val (.ref a5_0), .val (.int (1 : Int32)), .val (.int (1 : Int32)), .val (.int (1 : Int32)), .unset, .unset, .unset] [(.ref bx7_0_8)])) _
    refine XS.astore X8.here hx rfl (hb hby d5_37) rfl rfl (l' := #[.val (.ref a5_0), .val (.int (1 : Int32)), .val (.int (1 : Int32)), .val (.int (1 : Int32)), .val (.ref bx7_0_8), .unset, .unset]) rfl ?_
    refine XS.aloadN X8.here hx rfl (hb hby d5_39) rfl rfl ?_
    refine st10 _ ?_
    show Steps p.tables e below (T10.setTop (mkF m 43 #[.val (.ref a5_0), .val (.int (1 : Int32)), .val (.int (1 : Int32)), .val (.int (1 : Int32)), .val (.ref bx7_0_8), .unset, .unset] [(.ref w_tree_a5_0)])) _
    refine X10.arraylength hx (cell := cl12) (by rw [e10]; exact Ar12.1) (State.isArrayOf_alike hZ.alike Ar12.2.1) (g := (mkF m 43 #[.val (.ref a5_0), .val (.int (1 : Int32)), .val (.int (1 : Int32)), .val (.int (1 : Int32)), .val (.ref bx7_0_8), .unset, .unset] [(.ref w_tree_a5_0)])) rfl (rest := []) rfl (hb hby d5_43) _ ?_
    rw [len_of Sz12 Nz12]
    refine XS.iconst X10.here hx rfl (hb hby d5_44) ?_
    show Steps p.tables e below (T10.setTop (mkF m 45 #[.val (.ref a5_0), .val (.int (1 : Int32)), .val (.int (1 : Int32)), .val (.int (1 : Int32)), .val (.ref bx7_0_8), .unset, .unset] [(.int (1 : Int32)), (.int (0 : Int32))])) _
    refine XS.iadd X10.here hx rfl (hb hby d5_45) rfl ?_
    refine XS.istore X10.here hx rfl (hb hby d5_46) rfl (l' := #[.val (.ref a5_0), .val (.int (1 : Int32)), .val (.int (1 : Int32)), .val (.int (1 : Int32)), .val (.ref bx7_0_8), .val (.int (1 : Int32)), .unset]) rfl ?_
    refine XS.iload X10.here hx rfl (hb hby d5_48) rfl ?_
    show Steps p.tables e below (T10.setTop (mkF m 50 #[.val (.ref a5_0), .val (.int (1 : Int32)), .val (.int (1 : Int32)), .val (.int (1 : Int32)), .val (.ref bx7_0_8), .val (.int (1 : Int32)), .unset] [(.int (1 : Int32))])) _
    refine XS.iloadN X10.here hx rfl (hb hby d5_50) rfl ?_
    show Steps p.tables e below (T10.setTop (mkF m 51 #[.val (.ref a5_0), .val (.int (1 : Int32)), .val (.int (1 : Int32)), .val (.int (1 : Int32)), .val (.ref bx7_0_8), .val (.int (1 : Int32)), .unset] [(.int (1 : Int32)), (.int (1 : Int32))])) _
    refine XS.icmpNo X10.here hx rfl (hb hby d5_51) rfl (flt (by decide : ¬ ((1 : Int32) < (1 : Int32)))).2.2.1 ?_
    refine XS.iload X10.here hx rfl (hb hby d5_54) rfl ?_
    refine XS.iload X10.here hx rfl (hb hby d5_56) rfl ?_
    show Steps p.tables e below (T10.setTop (mkF m 58 #[.val (.ref a5_0), .val (.int (1 : Int32)), .val (.int (1 : Int32)), .val (.int (1 : Int32)), .val (.ref bx7_0_8), .val (.int (1 : Int32)), .unset] [(.int (1 : Int32)), (.int (1 : Int32))])) _
    refine XS.iload X10.here hx rfl (hb hby d5_58) rfl ?_
    refine XS.ineg X10.here hx rfl (hb hby d5_60) rfl ?_
    refine XS.iand X10.here hx rfl (hb hby d5_61) rfl ?_
    show Steps p.tables e below (T10.setTop (mkF m 62 #[.val (.ref a5_0), .val (.int (1 : Int32)), .val (.int (1 : Int32)), .val (.int (1 : Int32)), .val (.ref bx7_0_8), .val (.int (1 : Int32)), .unset] [(.int (1 : Int32)), (.int (1 : Int32))])) _
    refine XS.isub X10.here hx rfl (hb hby d5_62) rfl ?_
    refine XS.istore X10.here hx rfl (hb hby d5_63) rfl (l' := #[.val (.ref a5_0), .val (.int (1 : Int32)), .val (.int (1 : Int32)), .val (.int (1 : Int32)), .val (.ref bx7_0_8), .val (.int (1 : Int32)), .val (.int (0 : Int32))]) rfl ?_
    refine XS.iload X10.here hx rfl (hb hby d5_65) rfl ?_
    show Steps p.tables e below (T10.setTop (mkF m 67 #[.val (.ref a5_0), .val (.int (1 : Int32)), .val (.int (1 : Int32)), .val (.int (1 : Int32)), .val (.ref bx7_0_8), .val (.int (1 : Int32)), .val (.int (0 : Int32))] [(.int (0 : Int32))])) _
    refine XS.aloadN X10.here hx rfl (hb hby d5_67) rfl rfl ?_
    refine st14 _ ?_
    show Steps p.tables e below (T14.setTop (mkF m 71 #[.val (.ref a5_0), .val (.int (1 : Int32)), .val (.int (1 : Int32)), .val (.int (1 : Int32)), .val (.ref bx7_0_8), .val (.int (1 : Int32)), .val (.int (0 : Int32))] [(.int (0 : Int32)), (.int (0 : Int32))])) _
    refine XS.icmpYes X14.here hx rfl (pc0 := 71) (pc' := 92) rfl (hb hby d5_71) rfl (flt (by decide : ¬ ((0 : Int32) < (0 : Int32)))).2.1 (by decide) (by decide) ?_
    refine XS.iinc X14.here hx rfl (hb hby d5_92) rfl (l' := #[.val (.ref a5_0), .val (.int (1 : Int32)), .val (.int (1 : Int32)), .val (.int (1 : Int32)), .val (.ref bx7_0_8), .val (.int (2 : Int32)), .val (.int (0 : Int32))]) rfl ?_
    refine XS.goto X14.here hx rfl (pc0 := 95) (pc' := 48) rfl (hb hby d5_95) (by decide) (by decide) ?_
    show Steps p.tables e below (T14.setTop (mkF m 48 #[.val (.ref a5_0), .val (.int (1 : Int32)), .val (.int (1 : Int32)), .val (.int (1 : Int32)), .val (.ref bx7_0_8), .val (.int (2 : Int32)), .val (.int (0 : Int32))] [])) _
    refine XS.iload X14.here hx rfl (hb hby d5_48) rfl ?_
    refine XS.iloadN X14.here hx rfl (hb hby d5_50) rfl ?_
    show Steps p.tables e below (T14.setTop (mkF m 51 #[.val (.ref a5_0), .val (.int (1 : Int32)), .val (.int (1 : Int32)), .val (.int (1 : Int32)), .val (.ref bx7_0_8), .val (.int (2 : Int32)), .val (.int (0 : Int32))] [(.int (1 : Int32)), (.int (2 : Int32))])) _
    refine XS.icmpYes X14.here hx rfl (pc0 := 51) (pc' := 98) rfl (hb hby d5_51) rfl (tlt (by decide : (1 : Int32) < (2 : Int32))).2.2.1 (by decide) (by decide) ?_
    refine XS.aloadN X14.here hx rfl (hb hby d5_98) rfl rfl ?_
    refine XS.aload X14.here hx rfl (hb hby d5_99) rfl rfl ?_
    show Steps p.tables e below (T14.setTop (mkF m 101 #[.val (.ref a5_0), .val (.int (1 : Int32)), .val (.int (1 : Int32)), .val (.int (1 : Int32)), .val (.ref bx7_0_8), .val (.int (2 : Int32)), .val (.int (0 : Int32))] [(.ref bx7_0_8), (.ref a5_0)])) _
    refine st16 _ ?_
    show Steps p.tables e below (T16.setTop (mkF m 104 #[.val (.ref a5_0), .val (.int (1 : Int32)), .val (.int (1 : Int32)), .val (.int (1 : Int32)), .val (.ref bx7_0_8), .val (.int (2 : Int32)), .val (.int (0 : Int32))] [])) _
    exact X16.returnOut hx Bd.returns (hb hby d5_104) hr
  · have f17 := (f15.wr W16)
    have f18 := (f13.other W16 (Or.inr (slot_ne (Or.inl (ow29 hw)) (Or.inl (ow17 hw)) (by decide) (t := .int) (t' := (.array .long)) (by decide) (by decide))))
    have f19 := ((F_total_a5_0.keep Kc8 nin0).other W16 (Or.inr (slot_ne (Or.inl (ow51 hw)) (Or.inl (ow17 hw)) (by decide) (t := .long) (t' := (.array .long)) (by decide) (by decide))))
    have f20 := (P8_1.other W16 (Ne.symm ne_a5_0_bx7_0_8))
    show Q_rm5_1 Z a5_0 w_tree_a5_0 kc_w_tree_a5_0 h0 n0 _ T16.heap _
    rw [e16]
    exact ⟨bx7_0_8, kx7_0_8, rfl, N16, K16, sz_bx7_0_8, f17, F16, f18, f19, f20⟩
theorem pd__I_V : parseMethodDescriptor "(I)V" = some ⟨[.int], none⟩ := by decide +kernel
theorem d9_0 : decode prog_14_method_7_code 0 = .ok (.aload_n 0, 1) := by decide +kernel
theorem d9_1 : decode prog_14_method_7_code 1 = .ok (.dup, 1) := by decide +kernel
theorem d9_2 : decode prog_14_method_7_code 2 = .ok (.getfield 29, 3) := by decide +kernel
theorem d9_5 : decode prog_14_method_7_code 5 = .ok (.lload_n 2, 1) := by decide +kernel
theorem d9_6 : decode prog_14_method_7_code 6 = .ok (.ladd, 1) := by decide +kernel
theorem d9_7 : decode prog_14_method_7_code 7 = .ok (.putfield 29, 3) := by decide +kernel
theorem d9_10 : decode prog_14_method_7_code 10 = .ok (.iload_n 1, 1) := by decide +kernel
theorem d9_11 : decode prog_14_method_7_code 11 = .ok (.iconst 1, 1) := by decide +kernel
theorem d9_12 : decode prog_14_method_7_code 12 = .ok (.iadd, 1) := by decide +kernel
theorem d9_13 : decode prog_14_method_7_code 13 = .ok (.istore 4, 2) := by decide +kernel
theorem d9_15 : decode prog_14_method_7_code 15 = .ok (.iload 4, 2) := by decide +kernel
theorem d9_17 : decode prog_14_method_7_code 17 = .ok (.aload_n 0, 1) := by decide +kernel
theorem d9_18 : decode prog_14_method_7_code 18 = .ok (.getfield 7, 3) := by decide +kernel
theorem d9_21 : decode prog_14_method_7_code 21 = .ok (.arraylength, 1) := by decide +kernel
theorem d9_22 : decode prog_14_method_7_code 22 = .ok (.if_icmp .gt 30, 3) := by decide +kernel
theorem d9_25 : decode prog_14_method_7_code 25 = .ok (.aload_n 0, 1) := by decide +kernel
theorem d9_26 : decode prog_14_method_7_code 26 = .ok (.getfield 7, 3) := by decide +kernel
theorem d9_29 : decode prog_14_method_7_code 29 = .ok (.iload 4, 2) := by decide +kernel
theorem d9_31 : decode prog_14_method_7_code 31 = .ok (.iconst 1, 1) := by decide +kernel
theorem d9_32 : decode prog_14_method_7_code 32 = .ok (.isub, 1) := by decide +kernel
theorem d9_33 : decode prog_14_method_7_code 33 = .ok (.dup2, 1) := by decide +kernel
theorem d9_34 : decode prog_14_method_7_code 34 = .ok (.laload, 1) := by decide +kernel
theorem d9_35 : decode prog_14_method_7_code 35 = .ok (.lload_n 2, 1) := by decide +kernel
theorem d9_36 : decode prog_14_method_7_code 36 = .ok (.ladd, 1) := by decide +kernel
theorem d9_37 : decode prog_14_method_7_code 37 = .ok (.lastore, 1) := by decide +kernel
theorem d9_38 : decode prog_14_method_7_code 38 = .ok (.iload 4, 2) := by decide +kernel
theorem d9_40 : decode prog_14_method_7_code 40 = .ok (.iload 4, 2) := by decide +kernel
theorem d9_42 : decode prog_14_method_7_code 42 = .ok (.iload 4, 2) := by decide +kernel
theorem d9_44 : decode prog_14_method_7_code 44 = .ok (.ineg, 1) := by decide +kernel
theorem d9_45 : decode prog_14_method_7_code 45 = .ok (.iand, 1) := by decide +kernel
theorem d9_46 : decode prog_14_method_7_code 46 = .ok (.iadd, 1) := by decide +kernel
theorem d9_47 : decode prog_14_method_7_code 47 = .ok (.istore 4, 2) := by decide +kernel
theorem d9_49 : decode prog_14_method_7_code 49 = .ok (.goto (-34), 3) := by decide +kernel
theorem d9_52 : decode prog_14_method_7_code 52 = .ok (.return_, 1) := by decide +kernel
theorem pn_9 : plainName "com/example/motley/motley/CountTree" = true := by first | (simp [plainName, overriddenIn]; done) | decide +kernel
theorem ef_rm9_1 (m : MethodId) (y0 : Addr) (y2 : Int64) : entryFrame m #[(.ref y0), (.int (0 : Int32)), (.long y2)] 5 = mkF m 0 #[.val (.ref y0), .val (.int (0 : Int32)), .val (.long y2), .second, .unset] [] := by first | (simp [entryFrame, mkF, argsToLocals, Value.category]; done) | rfl
def Q_rm9_1 (Z : State) (a9_0 : Addr) (q9_2 : Int64) (w_tree_a9_0 : Addr) (kc_w_tree_a9_0 : ClassId) (t_w_tree_a9_0_0 : Int64) (h0 : Heap) (n0 : Nat) (v : Option Value) (h : Heap) (L : List Loc) : Prop := v = none ∧ Fr n0 L ∧ Keep h0 h [a9_0, w_tree_a9_0] ∧ Exa Z h a9_0 "com/example/motley/motley/CountTree" ∧ Fld Z h a9_0 "com/example/motley/motley/CountTree" "tree" "[J" (.ref w_tree_a9_0) ∧ Fld Z h a9_0 "com/example/motley/motley/CountTree" "size" "I" (.int (1 : Int32)) ∧ Fld Z h a9_0 "com/example/motley/motley/CountTree" "total" "J" (.long ((0 : Int64) + q9_2)) ∧ Arv Z h w_tree_a9_0 kc_w_tree_a9_0 .long (1 : Int32) [(.long (t_w_tree_a9_0_0 + q9_2))] (.long (0 : Int64))
set_option maxRecDepth 65536 in
set_option maxHeartbeats 40000000 in
theorem rm9_1 (l : Launch) (Z : State) (a0 : Array Value) (hw : ∀ d ∈ tables_1, d.before a0 Z = true) (ws : List Jvm.Cond) (a9_0 : Addr) (q9_2 : Int64) (w_tree_a9_0 : Addr) (kc_w_tree_a9_0 : ClassId) (t_w_tree_a9_0_0 : Int64) (h0 : Heap) (n0 : Nat) (Z0 : n0 ≤ h0.size) (E_a9_0 : Exa Z h0 a9_0 "com/example/motley/motley/CountTree") (F_tree_a9_0 : Fld Z h0 a9_0 "com/example/motley/motley/CountTree" "tree" "[J" (.ref w_tree_a9_0)) (F_size_a9_0 : Fld Z h0 a9_0 "com/example/motley/motley/CountTree" "size" "I" (.int (1 : Int32))) (F_total_a9_0 : Fld Z h0 a9_0 "com/example/motley/motley/CountTree" "total" "J" (.long (0 : Int64))) (V_w_tree_a9_0 : Arv Z h0 w_tree_a9_0 kc_w_tree_a9_0 .long (1 : Int32) [(.long t_w_tree_a9_0_0)] (.long (0 : Int64))) (g_a9_0 : n0 ≤ a9_0) (ne_w_tree_a9_0_a9_0 : w_tree_a9_0 ≠ a9_0) (g_w_tree_a9_0 : n0 ≤ w_tree_a9_0) :
    MetFree l (⟨"com/example/motley/motley/CountTree", "add", "(IJ)V"⟩ : MethodName) (head1 (Jvm.Cond.code (⟨"com/example/motley/motley/CountTree", "add", "(IJ)V"⟩ : MethodName) prog_14_method_7_code 5 none :: ws) ({ frames := 0, cells := 0, slots := 0, locals := 0 } : Room)) (fun a U => a = #[(.ref a9_0), (.int (0 : Int32)), (.long q9_2)] ∧ Z.Warmed39 U.vm ∧ U.heap = h0) (fun _ _ _ _ _ => True) (fun _ U o U' => ∃ v L, o = .returned v ∧ Q_rm9_1 Z a9_0 q9_2 w_tree_a9_0 kc_w_tree_a9_0 t_w_tree_a9_0_0 h0 n0 v U'.heap L ∧ FrameEnd U o U' L ({ frames := 0, cells := 0, slots := 0, locals := 0 } : Room).cells ({ frames := 0, cells := 0, slots := 0, locals := 0 } : Room).slots) := by
  refine MetFree.of_bodySF (plainFor_of_name pn_9) hisR ?_
  intro p e s m args below meth c s₁ Bd hml0 hP hK
  obtain ⟨rfl, hZ, hh⟩ := hP
  have hx := Bd.exec
  have hby := Bd.bytes
  have hml : c.maxLocals = 5 := hml0
  have hown : s.vm.findClass "com/example/motley/motley/CountTree" = some m.cls := findClass_of_methodNamed Bd.named
  have hnm := (name_of_methodNamed Bd.named Bd.method).1
  have X0 : Stand p l e ({ frames := 0, cells := 0, slots := 0, locals := 0 } : Room) s m #[(.ref a9_0), (.int (0 : Int32)), (.long q9_2)] below meth c s₁ [] 0 0 := Stand.of_body Bd
  have e0 : s₁.heap = h0 := by rw [← hh, Bd.state]; rfl
  have N0 := Fr.nil n0
  have pre0 : ∀ t, Steps p.tables e below (s₁.setTop (mkF m 0 #[.val (.ref a9_0), .val (.int (0 : Int32)), .val (.long q9_2), .second, .unset] [])) t → Steps p.tables e below (s₁.setTop (entryFrame m #[(.ref a9_0), (.int (0 : Int32)), (.long q9_2)] 5)) t := fun t k => castTop (ef_rm9_1 m a9_0 q9_2) k
  obtain ⟨T1, X1, e1, st1⟩ := getF X0 hx hZ hown (host := "") (Or.inl (ow50 hw)) Via.refl e0 F_total_a9_0 (g := (mkF m 2 #[.val (.ref a9_0), .val (.int (0 : Int32)), .val (.long q9_2), .second, .unset] [(.ref a9_0), (.ref a9_0)])) rfl rfl (hb hby d9_2)
  obtain ⟨T2, h2, X2, e2, W2, st2⟩ := putF X1 hx hZ hown (host := "") (Or.inl (ow50 hw)) Via.refl e1 F_total_a9_0 E_a9_0 (Or.inl (ow51 hw)) (ow7 hw) (ty := .long) (by decide) rfl rfl (g := (mkF m 7 #[.val (.ref a9_0), .val (.int (0 : Int32)), .val (.long q9_2), .second, .unset] [(.long ((0 : Int64) + q9_2)), (.ref a9_0)])) rfl rfl (hb hby d9_7)
  have F2 := F_total_a9_0.same W2
  have K2 : Keep h0 h2 [a9_0, w_tree_a9_0] := (Keep.refl h0 [a9_0, w_tree_a9_0]).wr W2 (Or.inl (List.mem_of_getElem? (i := 0) rfl))
  have Z2 : n0 ≤ h2.size := Nat.le_trans Z0 K2.1
  have N2 := Fr.snoc X2 N0 g_a9_0
  have f3 := (F_tree_a9_0.other W2 (Or.inr (slot_ne (Or.inl (ow17 hw)) (Or.inl (ow51 hw)) (by decide) (t := (.array .long)) (t' := .long) (by decide) (by decide))))
  obtain ⟨T4, X4, e4, st4⟩ := getF X2 hx hZ hown (host := "") (Or.inl (ow16 hw)) Via.refl e2 f3 (g := (mkF m 18 #[.val (.ref a9_0), .val (.int (0 : Int32)), .val (.long q9_2), .second, .val (.int (1 : Int32))] [(.ref a9_0), (.int (1 : Int32))])) rfl rfl (hb hby d9_18)
  have f5 := (V_w_tree_a9_0.other W2 ne_w_tree_a9_0_a9_0)
  obtain ⟨cl6, Ar6, qk6, Sz6, Nz6, Hh6, Gf6⟩ := id f5
  obtain ⟨T7, X7, e7, st7⟩ := getF X4 hx hZ hown (host := "") (Or.inl (ow16 hw)) Via.refl e4 f3 (g := (mkF m 26 #[.val (.ref a9_0), .val (.int (0 : Int32)), .val (.long q9_2), .second, .val (.int (1 : Int32))] [(.ref a9_0)])) rfl rfl (hb hby d9_26)
  obtain ⟨cl8, Ar8, qk8, Sz8, Nz8, Hh8, Gf8⟩ := id f5
  obtain ⟨cl9, Ar9, qk9, Sz9, Nz9, Hh9, Gf9⟩ := id f5
  obtain ⟨T10, h10, X10, e10, W10, st10⟩ := stJ X7 hx hZ e7 Ar9 (j := (0 : Int32)) (inb_of Sz9 ⟨by decide, by decide⟩) (g := (mkF m 37 #[.val (.ref a9_0), .val (.int (0 : Int32)), .val (.long q9_2), .second, .val (.int (1 : Int32))] [(.long (t_w_tree_a9_0_0 + q9_2)), (.int (0 : Int32)), (.ref w_tree_a9_0)])) rfl rfl (hb hby d9_37)
  have V10 : Arv Z h10 w_tree_a9_0 kc_w_tree_a9_0 .long (1 : Int32) [(.long (t_w_tree_a9_0_0 + q9_2))] (.long (0 : Int64)) := Arv.set Ar9 qk9 Sz9 Nz9 Hh9 Gf9 rfl W10 0 rfl (Nat.le_of_ble_eq_true rfl)
  have K10 : Keep h0 h10 [a9_0, w_tree_a9_0] := K2.wr W10 (Or.inl (List.mem_of_getElem? (i := 1) rfl))
  have Z10 : n0 ≤ h10.size := Nat.le_trans Z0 K10.1
  have N10 := Fr.snoc X10 N2 g_w_tree_a9_0
  have f11 := (f3.other W10 (Or.inl (Ne.symm ne_w_tree_a9_0_a9_0)))
  obtain ⟨T12, X12, e12, st12⟩ := getF X10 hx hZ hown (host := "") (Or.inl (ow16 hw)) Via.refl e10 f11 (g := (mkF m 18 #[.val (.ref a9_0), .val (.int (0 : Int32)), .val (.long q9_2), .second, .val (.int (2 : Int32))] [(.ref a9_0), (.int (2 : Int32))])) rfl rfl (hb hby d9_18)
  obtain ⟨cl13, Ar13, qk13, Sz13, Nz13, Hh13, Gf13⟩ := id V10
  obtain ⟨fs, hr, hrun, hended, hW, hsame⟩ := X12.leave (v := none) (fun _ => rfl)
  refine ⟨_, _, pre0 _ ?_, hrun, hended, _, _, rfl, ?_, ⟨_, rfl⟩, hW, hsame.mono (by decide) (by decide)⟩
  · show Steps p.tables e below (s₁.setTop (mkF m 0 #[.val (.ref a9_0), .val (.int (0 : Int32)), .val (.long q9_2), .second, .unset] [])) _
    refine XS.aloadN X0.here hx rfl (hb hby d9_0) rfl rfl ?_
    refine XS.dup X0.here hx rfl (hb hby d9_1) rfl rfl ?_
    refine st1 _ ?_
    show Steps p.tables e below (T1.setTop (mkF m 5 #[.val (.ref a9_0), .val (.int (0 : Int32)), .val (.long q9_2), .second, .unset] [(.long (0 : Int64)), (.ref a9_0)])) _
    refine XS.lloadN X1.here hx rfl (hb hby d9_5) rfl ?_
    refine XS.ladd X1.here hx rfl (hb hby d9_6) rfl ?_
    refine st2 _ ?_
    show Steps p.tables e below (T2.setTop (mkF m 10 #[.val (.ref a9_0), .val (.int (0 : Int32)), .val (.long q9_2), .second, .unset] [])) _
    refine XS.iloadN X2.here hx rfl (hb hby d9_10) rfl ?_
    refine XS.iconst X2.here hx rfl (hb hby d9_11) ?_
    refine XS.iadd X2.here hx rfl (hb hby d9_12) rfl ?_
    show Steps p.tables e below (T2.setTop (mkF m 13 #[.val (.ref a9_0), .val (.int (0 : Int32)), .val (.long q9_2), .second, .unset] [(.int (1 : Int32))])) _
    refine XS.istore X2.here hx rfl (hb hby d9_13) rfl (l' := #[.val (.ref a9_0), .val (.int (0 : Int32)), .val (.long q9_2), .second, .val (.int (1 : Int32))]) rfl ?_
    refine XS.iload X2.here hx rfl (hb hby d9_15) rfl ?_
    refine XS.aloadN X2.here hx rfl (hb hby d9_17) rfl rfl ?_
    show Steps p.tables e below (T2.setTop (mkF m 18 #[.val (.ref a9_0), .val (.int (0 : Int32)), .val (.long q9_2), .second, .val (.int (1 : Int32))] [(.ref a9_0), (.int (1 : Int32))])) _
    refine st4 _ ?_
    show Steps p.tables e below (T4.setTop (mkF m 21 #[.val (.ref a9_0), .val (.int (0 : Int32)), .val (.long q9_2), .second, .val (.int (1 : Int32))] [(.ref w_tree_a9_0), (.int (1 : Int32))])) _
    refine X4.arraylength hx (cell := cl6) (by rw [e4]; exact Ar6.1) (State.isArrayOf_alike hZ.alike Ar6.2.1) (g := (mkF m 21 #[.val (.ref a9_0), .val (.int (0 : Int32)), .val (.long q9_2), .second, .val (.int (1 : Int32))] [(.ref w_tree_a9_0), (.int (1 : Int32))])) rfl (rest := [(.int (1 : Int32))]) rfl (hb hby d9_21) _ ?_
    rw [len_of Sz6 Nz6]
    show Steps p.tables e below (T4.setTop (mkF m 22 #[.val (.ref a9_0), .val (.int (0 : Int32)), .val (.long q9_2), .second, .val (.int (1 : Int32))] [(.int (1 : Int32)), (.int (1 : Int32))])) _
    refine XS.icmpNo X4.here hx rfl (hb hby d9_22) rfl (flt (by decide : ¬ ((1 : Int32) < (1 : Int32)))).2.2.1 ?_
    refine XS.aloadN X4.here hx rfl (hb hby d9_25) rfl rfl ?_
    refine st7 _ ?_
    show Steps p.tables e below (T7.setTop (mkF m 29 #[.val (.ref a9_0), .val (.int (0 : Int32)), .val (.long q9_2), .second, .val (.int (1 : Int32))] [(.ref w_tree_a9_0)])) _
    refine XS.iload X7.here hx rfl (hb hby d9_29) rfl ?_
    refine XS.iconst X7.here hx rfl (hb hby d9_31) ?_
    refine XS.isub X7.here hx rfl (hb hby d9_32) rfl ?_
    show Steps p.tables e below (T7.setTop (mkF m 33 #[.val (.ref a9_0), .val (.int (0 : Int32)), .val (.long q9_2), .second, .val (.int (1 : Int32))] [(.int (0 : Int32)), (.ref w_tree_a9_0)])) _
    jvm_step X7.here [X7.here.top, hx, (hb hby d9_33), Value.category]
    refine X7.laload hx (j := (0 : Int32)) (v := (.long t_w_tree_a9_0_0)) (by rw [e7]; exact Ar8.1) (State.isArrayOf_alike hZ.alike Ar8.2.1) Ar8.2.2 (inb_of Sz8 ⟨by decide, by decide⟩) (Hh8.at (inb_of Sz8 ⟨by decide, by decide⟩) rfl) (g := (mkF m 34 #[.val (.ref a9_0), .val (.int (0 : Int32)), .val (.long q9_2), .second, .val (.int (1 : Int32))] [(.int (0 : Int32)), (.ref w_tree_a9_0), (.int (0 : Int32)), (.ref w_tree_a9_0)])) rfl rfl (hb hby d9_34) _ ?_
    refine XS.lloadN X7.here hx rfl (hb hby d9_35) rfl ?_
    show Steps p.tables e below (T7.setTop (mkF m 36 #[.val (.ref a9_0), .val (.int (0 : Int32)), .val (.long q9_2), .second, .val (.int (1 : Int32))] [(.long q9_2), (.long t_w_tree_a9_0_0), (.int (0 : Int32)), (.ref w_tree_a9_0)])) _
    refine XS.ladd X7.here hx rfl (hb hby d9_36) rfl ?_
    refine st10 _ ?_
    refine XS.iload X10.here hx rfl (hb hby d9_38) rfl ?_
    show Steps p.tables e below (T10.setTop (mkF m 40 #[.val (.ref a9_0), .val (.int (0 : Int32)), .val (.long q9_2), .second, .val (.int (1 : Int32))] [(.int (1 : Int32))])) _
    refine XS.iload X10.here hx rfl (hb hby d9_40) rfl ?_
    refine XS.iload X10.here hx rfl (hb hby d9_42) rfl ?_
    refine XS.ineg X10.here hx rfl (hb hby d9_44) rfl ?_
    show Steps p.tables e below (T10.setTop (mkF m 45 #[.val (.ref a9_0), .val (.int (0 : Int32)), .val (.long q9_2), .second, .val (.int (1 : Int32))] [(.int (-1 : Int32)), (.int (1 : Int32)), (.int (1 : Int32))])) _
    refine XS.iand X10.here hx rfl (hb hby d9_45) rfl ?_
    refine XS.iadd X10.here hx rfl (hb hby d9_46) rfl ?_
    refine XS.istore X10.here hx rfl (hb hby d9_47) rfl (l' := #[.val (.ref a9_0), .val (.int (0 : Int32)), .val (.long q9_2), .second, .val (.int (2 : Int32))]) rfl ?_
    show Steps p.tables e below (T10.setTop (mkF m 49 #[.val (.ref a9_0), .val (.int (0 : Int32)), .val (.long q9_2), .second, .val (.int (2 : Int32))] [])) _
    refine XS.goto X10.here hx rfl (pc0 := 49) (pc' := 15) rfl (hb hby d9_49) (by decide) (by decide) ?_
    refine XS.iload X10.here hx rfl (hb hby d9_15) rfl ?_
    refine XS.aloadN X10.here hx rfl (hb hby d9_17) rfl rfl ?_
    show Steps p.tables e below (T10.setTop (mkF m 18 #[.val (.ref a9_0), .val (.int (0 : Int32)), .val (.long q9_2), .second, .val (.int (2 : Int32))] [(.ref a9_0), (.int (2 : Int32))])) _
    refine st12 _ ?_
    show Steps p.tables e below (T12.setTop (mkF m 21 #[.val (.ref a9_0), .val (.int (0 : Int32)), .val (.long q9_2), .second, .val (.int (2 : Int32))] [(.ref w_tree_a9_0), (.int (2 : Int32))])) _
    refine X12.arraylength hx (cell := cl13) (by rw [e12]; exact Ar13.1) (State.isArrayOf_alike hZ.alike Ar13.2.1) (g := (mkF m 21 #[.val (.ref a9_0), .val (.int (0 : Int32)), .val (.long q9_2), .second, .val (.int (2 : Int32))] [(.ref w_tree_a9_0), (.int (2 : Int32))])) rfl (rest := [(.int (2 : Int32))]) rfl (hb hby d9_21) _ ?_
    rw [len_of Sz13 Nz13]
    show Steps p.tables e below (T12.setTop (mkF m 22 #[.val (.ref a9_0), .val (.int (0 : Int32)), .val (.long q9_2), .second, .val (.int (2 : Int32))] [(.int (1 : Int32)), (.int (2 : Int32))])) _
    refine XS.icmpYes X12.here hx rfl (pc0 := 22) (pc' := 52) rfl (hb hby d9_22) rfl (tlt (by decide : (1 : Int32) < (2 : Int32))).2.2.1 (by decide) (by decide) ?_
    show Steps p.tables e below (T12.setTop (mkF m 52 #[.val (.ref a9_0), .val (.int (0 : Int32)), .val (.long q9_2), .second, .val (.int (2 : Int32))] [])) _
    exact X12.returnOut hx Bd.returns (hb hby d9_52) hr
  · have f14 := ((E_a9_0.wr W2).wr W10)
    have f15 := ((F_size_a9_0.other W2 (Or.inr (slot_ne (Or.inl (ow29 hw)) (Or.inl (ow51 hw)) (by decide) (t := .int) (t' := .long) (by decide) (by decide)))).other W10 (Or.inl (Ne.symm ne_w_tree_a9_0_a9_0)))
    have f16 := (F2.other W10 (Or.inl (Ne.symm ne_w_tree_a9_0_a9_0)))
    show Q_rm9_1 Z a9_0 q9_2 w_tree_a9_0 kc_w_tree_a9_0 t_w_tree_a9_0_0 h0 n0 _ T12.heap _
    rw [e12]
    exact ⟨rfl, N10, K10, f14, f11, f15, f16, V10⟩
theorem pd__IJ_V : parseMethodDescriptor "(IJ)V" = some ⟨[.int, .long], none⟩ := by decide +kernel
theorem d4_0 : decode prog_14_method_4_code 0 = .ok (.aload_n 0, 1) := by decide +kernel
theorem d4_1 : decode prog_14_method_4_code 1 = .ok (.iconst 1, 1) := by decide +kernel
theorem d4_2 : decode prog_14_method_4_code 2 = .ok (.invokevirtual 37, 3) := by decide +kernel
theorem d4_5 : decode prog_14_method_4_code 5 = .ok (.aload_n 0, 1) := by decide +kernel
theorem d4_6 : decode prog_14_method_4_code 6 = .ok (.dup, 1) := by decide +kernel
theorem d4_7 : decode prog_14_method_4_code 7 = .ok (.getfield 13, 3) := by decide +kernel
theorem d4_10 : decode prog_14_method_4_code 10 = .ok (.iconst 1, 1) := by decide +kernel
theorem d4_11 : decode prog_14_method_4_code 11 = .ok (.iadd, 1) := by decide +kernel
theorem d4_12 : decode prog_14_method_4_code 12 = .ok (.putfield 13, 3) := by decide +kernel
theorem d4_15 : decode prog_14_method_4_code 15 = .ok (.aload_n 0, 1) := by decide +kernel
theorem d4_16 : decode prog_14_method_4_code 16 = .ok (.aload_n 0, 1) := by decide +kernel
theorem d4_17 : decode prog_14_method_4_code 17 = .ok (.getfield 13, 3) := by decide +kernel
theorem d4_20 : decode prog_14_method_4_code 20 = .ok (.iconst 1, 1) := by decide +kernel
theorem d4_21 : decode prog_14_method_4_code 21 = .ok (.isub, 1) := by decide +kernel
theorem d4_22 : decode prog_14_method_4_code 22 = .ok (.lload_n 1, 1) := by decide +kernel
theorem d4_23 : decode prog_14_method_4_code 23 = .ok (.invokevirtual 41, 3) := by decide +kernel
theorem d4_26 : decode prog_14_method_4_code 26 = .ok (.return_, 1) := by decide +kernel
theorem pn_4 : plainName "com/example/motley/motley/CountTree" = true := by first | (simp [plainName, overriddenIn]; done) | decide +kernel
theorem ef_rm4_1 (m : MethodId) (y0 : Addr) (y1 : Int64) : entryFrame m #[(.ref y0), (.long y1)] 3 = mkF m 0 #[.val (.ref y0), .val (.long y1), .second] [] := by first | (simp [entryFrame, mkF, argsToLocals, Value.category]; done) | rfl
def Q_rm4_1 (Z : State) (a4_0 : Addr) (q4_1 : Int64) (w_tree_a4_0 : Addr) (kc_w_tree_a4_0 : ClassId) (h0 : Heap) (n0 : Nat) (v : Option Value) (h : Heap) (L : List Loc) : Prop := ∃ bx4_0 : Addr, ∃ kx4_0 : ClassId, v = none ∧ Fr n0 L ∧ Keep h0 h [a4_0] ∧ h0.size ≤ bx4_0 ∧ Exa Z h a4_0 "com/example/motley/motley/CountTree" ∧ Fld Z h a4_0 "com/example/motley/motley/CountTree" "tree" "[J" (.ref bx4_0) ∧ Fld Z h a4_0 "com/example/motley/motley/CountTree" "size" "I" (.int (1 : Int32)) ∧ Fld Z h a4_0 "com/example/motley/motley/CountTree" "total" "J" (.long ((0 : Int64) + q4_1)) ∧ Arv Z h bx4_0 kx4_0 .long (1 : Int32) [(.long ((0 : Int64) + q4_1))] (.long (0 : Int64))
set_option maxRecDepth 65536 in
set_option maxHeartbeats 40000000 in
theorem rm4_1 (l : Launch) (Z : State) (a0 : Array Value) (hw : ∀ d ∈ tables_1, d.before a0 Z = true) (ws : List Jvm.Cond) (a4_0 : Addr) (q4_1 : Int64) (w_tree_a4_0 : Addr) (kc_w_tree_a4_0 : ClassId) (h0 : Heap) (n0 : Nat) (Z0 : n0 ≤ h0.size) (E_a4_0 : Exa Z h0 a4_0 "com/example/motley/motley/CountTree") (F_tree_a4_0 : Fld Z h0 a4_0 "com/example/motley/motley/CountTree" "tree" "[J" (.ref w_tree_a4_0)) (F_size_a4_0 : Fld Z h0 a4_0 "com/example/motley/motley/CountTree" "size" "I" (.int (0 : Int32))) (F_total_a4_0 : Fld Z h0 a4_0 "com/example/motley/motley/CountTree" "total" "J" (.long (0 : Int64))) (V_w_tree_a4_0 : Arv Z h0 w_tree_a4_0 kc_w_tree_a4_0 .long (0 : Int32) [] (.long (0 : Int64))) (g_a4_0 : n0 ≤ a4_0) :
    MetFree l (⟨"com/example/motley/motley/CountTree", "append", "(J)V"⟩ : MethodName) (head1 (Jvm.Cond.code (⟨"com/example/motley/motley/CountTree", "append", "(J)V"⟩ : MethodName) prog_14_method_4_code 3 none :: ws) ({ frames := 3, cells := 1, slots := 1, locals := 50 } : Room)) (fun a U => a = #[(.ref a4_0), (.long q4_1)] ∧ Z.Warmed39 U.vm ∧ U.heap = h0) (fun _ _ _ _ _ => True) (fun _ U o U' => ∃ v L, o = .returned v ∧ Q_rm4_1 Z a4_0 q4_1 w_tree_a4_0 kc_w_tree_a4_0 h0 n0 v U'.heap L ∧ FrameEnd U o U' L ({ frames := 3, cells := 1, slots := 1, locals := 50 } : Room).cells ({ frames := 3, cells := 1, slots := 1, locals := 50 } : Room).slots) := by
  refine MetFree.of_bodySF (plainFor_of_name pn_4) hisR ?_
  intro p e s m args below meth c s₁ Bd hml0 hP hK
  obtain ⟨rfl, hZ, hh⟩ := hP
  have hx := Bd.exec
  have hby := Bd.bytes
  have hml : c.maxLocals = 3 := hml0
  have hown : s.vm.findClass "com/example/motley/motley/CountTree" = some m.cls := findClass_of_methodNamed Bd.named
  have hnm := (name_of_methodNamed Bd.named Bd.method).1
  have X0 : Stand p l e ({ frames := 3, cells := 1, slots := 1, locals := 50 } : Room) s m #[(.ref a4_0), (.long q4_1)] below meth c s₁ [] 0 0 := Stand.of_body Bd
  have e0 : s₁.heap = h0 := by rw [← hh, Bd.state]; rfl
  have N0 := Fr.nil n0
  have pre0 : ∀ t, Steps p.tables e below (s₁.setTop (mkF m 0 #[.val (.ref a4_0), .val (.long q4_1), .second] [])) t → Steps p.tables e below (s₁.setTop (entryFrame m #[(.ref a4_0), (.long q4_1)] 3)) t := fun t k => castTop (ef_rm4_1 m a4_0 q4_1) k
  obtain ⟨cq1, kq1, q1a, q1b, q1c⟩ := isOf hZ e0 E_a4_0
  obtain ⟨_, _, ⟨T1, L1, k1, n1⟩, -, X1, ⟨Lc1, hQ1, l1, y1, z1⟩, st1⟩ := X0.virtualBack hx (y := (⟨"com/example/motley/motley/CountTree", "reserve", "(I)V"⟩ : MethodName)) (z := (⟨"com/example/motley/motley/CountTree", "reserve", "(I)V"⟩ : MethodName)) hown (mvT hZ (ow23 hw)) (mvT hZ (ow24 hw)) (notFace_of_selects (args := #[]) (mvT hZ (ow26 hw))) (mvT hZ (ow26 hw)) (mvT hZ (ow25 hw)) (by decide) (backOf (W := 0) (rm5_1 l Z a0 hw [] a4_0 w_tree_a4_0 kc_w_tree_a4_0 h0 n0 Z0 E_a4_0 F_tree_a4_0 F_size_a4_0 F_total_a4_0 V_w_tree_a4_0 g_a4_0) hZ (ow27 hw) (ow8 hw) (by decide) (by decide)) q1a q1c (g := (mkF m 2 #[.val (.ref a4_0), .val (.long q4_1), .second] [(.int (1 : Int32)), (.ref a4_0)])) rfl (by rw [hml]; rfl) (Steps.refl _) (argsL := [(.int (1 : Int32))]) (rest := []) (lenOf pd__I_V rfl) rfl (by show 2 * 0 + _ ≤ _; exact Nat.le_of_eq rfl) (hb hby d4_2) (fun _ _ => ⟨rfl, e0, (by decide : 0 + 1 ≤ _), (by decide : 0 + 1 ≤ _)⟩)
  dsimp only [Pt.U, Pt.locs, Pt.cells, Pt.slots] at X1 l1 y1 z1 st1 hQ1
  subst l1 y1 z1
  obtain ⟨bx5_0_1, kx5_0_1, rfl, Nq1, Kc1, P1_0, P1_1, P1_2, P1_3, P1_4, P1_5⟩ := hQ1
  have K1 : Keep h0 T1.heap [a4_0] := Keep.trans (Keep.refl h0 [a4_0]) Kc1 (allS (P := fun x => x ∈ ([a4_0] : List Addr) ∨ h0.size ≤ x) (Or.inl (List.mem_of_getElem? (i := 0) rfl)) all0)
  have Z1 : n0 ≤ T1.heap.size := Nat.le_trans Z0 K1.1
  have g_bx5_0_1 : n0 ≤ bx5_0_1 := Nat.le_trans Z0 P1_0
  have sz_bx5_0_1 : h0.size ≤ bx5_0_1 := Nat.le_trans (Nat.le_refl _) P1_0
  have ne_a4_0_bx5_0_1 : a4_0 ≠ bx5_0_1 := Nat.ne_of_lt (Nat.lt_of_lt_of_le E_a4_0.lt P1_0)
  have ne_w_tree_a4_0_bx5_0_1 : w_tree_a4_0 ≠ bx5_0_1 := Nat.ne_of_lt (Nat.lt_of_lt_of_le V_w_tree_a4_0.lt P1_0)
  have N1 := Fr.app N0 Nq1
  obtain ⟨T2, X2, e2, st2⟩ := getF X1 hx hZ hown (host := "") (Or.inl (ow28 hw)) Via.refl rfl P1_3 (g := (mkF m 7 #[.val (.ref a4_0), .val (.long q4_1), .second] [(.ref a4_0), (.ref a4_0)])) rfl rfl (hb hby d4_7)
  obtain ⟨T3, h3, X3, e3, W3, st3⟩ := putF X2 hx hZ hown (host := "") (Or.inl (ow28 hw)) Via.refl e2 P1_3 P1_1 (Or.inl (ow29 hw)) (ow7 hw) (ty := .int) (by decide) rfl rfl (g := (mkF m 12 #[.val (.ref a4_0), .val (.long q4_1), .second] [(.int (1 : Int32)), (.ref a4_0)])) rfl rfl (hb hby d4_12)
  have F3 := P1_3.same W3
  have K3 : Keep h0 h3 [a4_0] := K1.wr W3 (Or.inl (List.mem_of_getElem? (i := 0) rfl))
  have Z3 : n0 ≤ h3.size := Nat.le_trans Z0 K3.1
  have N3 := Fr.snoc X3 N1 g_a4_0
  obtain ⟨T4, X4, e4, st4⟩ := getF X3 hx hZ hown (host := "") (Or.inl (ow28 hw)) Via.refl e3 F3 (g := (mkF m 17 #[.val (.ref a4_0), .val (.long q4_1), .second] [(.ref a4_0), (.ref a4_0)])) rfl rfl (hb hby d4_17)
  have f5 := (P1_5.other W3 (Ne.symm ne_a4_0_bx5_0_1))
  have f6 := (P1_1.wr W3)
  have f7 := (P1_2.other W3 (Or.inr (slot_ne (Or.inl (ow17 hw)) (Or.inl (ow29 hw)) (by decide) (t := (.array .long)) (t' := .int) (by decide) (by decide))))
  have f8 := (P1_4.other W3 (Or.inr (slot_ne (Or.inl (ow51 hw)) (Or.inl (ow29 hw)) (by decide) (t := .long) (t' := .int) (by decide) (by decide))))
  obtain ⟨cq9, kq9, q9a, q9b, q9c⟩ := isOf hZ e4 f6
  obtain ⟨_, _, ⟨T9, L9, k9, n9⟩, -, X9, ⟨Lc9, hQ9, l9, y9, z9⟩, st9⟩ := X4.virtualBack hx (y := (⟨"com/example/motley/motley/CountTree", "add", "(IJ)V"⟩ : MethodName)) (z := (⟨"com/example/motley/motley/CountTree", "add", "(IJ)V"⟩ : MethodName)) hown (mvT hZ (ow45 hw)) (mvT hZ (ow46 hw)) (notFace_of_selects (args := #[]) (mvT hZ (ow48 hw))) (mvT hZ (ow48 hw)) (mvT hZ (ow47 hw)) (by decide) (backOf (W := 0) (rm9_1 l Z a0 hw [] a4_0 q4_1 bx5_0_1 kx5_0_1 (0 : Int64) h3 n0 Z3 f6 f7 F3 f8 f5 g_a4_0 (Ne.symm ne_a4_0_bx5_0_1) g_bx5_0_1) hZ (ow49 hw) (ow8 hw) (by decide) (by decide)) q9a q9c (g := (mkF m 23 #[.val (.ref a4_0), .val (.long q4_1), .second] [(.long q4_1), (.int (0 : Int32)), (.ref a4_0)])) rfl (by rw [hml]; rfl) (Steps.refl _) (argsL := [(.int (0 : Int32)), (.long q4_1)]) (rest := []) (lenOf pd__IJ_V rfl) rfl (by show 2 * 0 + _ ≤ _; exact Nat.le_of_eq rfl) (hb hby d4_23) (fun _ _ => ⟨rfl, e4, (by decide : 1 + 0 ≤ _), (by decide : 1 + 0 ≤ _)⟩)
  dsimp only [Pt.U, Pt.locs, Pt.cells, Pt.slots] at X9 l9 y9 z9 st9 hQ9
  subst l9 y9 z9
  obtain ⟨rfl, Nq9, Kc9, P9_0, P9_1, P9_2, P9_3, P9_4⟩ := hQ9
  have K9 : Keep h0 T9.heap [a4_0] := Keep.trans K3 Kc9 (allS (P := fun x => x ∈ ([a4_0] : List Addr) ∨ h0.size ≤ x) (Or.inl (List.mem_of_getElem? (i := 0) rfl)) (allS (P := fun x => x ∈ ([a4_0] : List Addr) ∨ h0.size ≤ x) (Or.inr sz_bx5_0_1) all0))
  have Z9 : n0 ≤ T9.heap.size := Nat.le_trans Z0 K9.1
  obtain ⟨y10, hy10⟩ : ∃ z : Int64, z = ((0 : Int64) + q4_1) := ⟨_, rfl⟩
  rw [← hy10] at P9_4
  have N9 := Fr.app N3 Nq9
  obtain ⟨fs, hr, hrun, hended, hW, hsame⟩ := X9.leave (v := none) (fun _ => rfl)
  refine ⟨_, _, pre0 _ ?_, hrun, hended, _, _, rfl, ?_, ⟨_, rfl⟩, hW, hsame.mono (by decide) (by decide)⟩
  · show Steps p.tables e below (s₁.setTop (mkF m 0 #[.val (.ref a4_0), .val (.long q4_1), .second] [])) _
    refine XS.aloadN X0.here hx rfl (hb hby d4_0) rfl rfl ?_
    refine XS.iconst X0.here hx rfl (hb hby d4_1) ?_
    refine st1.trans ?_
    show Steps p.tables e below (T1.setTop (mkF m 5 #[.val (.ref a4_0), .val (.long q4_1), .second] [])) _
    refine XS.aloadN X1.here hx rfl (hb hby d4_5) rfl rfl ?_
    refine XS.dup X1.here hx rfl (hb hby d4_6) rfl rfl ?_
    refine st2 _ ?_
    show Steps p.tables e below (T2.setTop (mkF m 10 #[.val (.ref a4_0), .val (.long q4_1), .second] [(.int (0 : Int32)), (.ref a4_0)])) _
    refine XS.iconst X2.here hx rfl (hb hby d4_10) ?_
    refine XS.iadd X2.here hx rfl (hb hby d4_11) rfl ?_
    refine st3 _ ?_
    show Steps p.tables e below (T3.setTop (mkF m 15 #[.val (.ref a4_0), .val (.long q4_1), .second] [])) _
    refine XS.aloadN X3.here hx rfl (hb hby d4_15) rfl rfl ?_
    refine XS.aloadN X3.here hx rfl (hb hby d4_16) rfl rfl ?_
    refine st4 _ ?_
    show Steps p.tables e below (T4.setTop (mkF m 20 #[.val (.ref a4_0), .val (.long q4_1), .second] [(.int (1 : Int32)), (.ref a4_0)])) _
    refine XS.iconst X4.here hx rfl (hb hby d4_20) ?_
    refine XS.isub X4.here hx rfl (hb hby d4_21) rfl ?_
    refine XS.lloadN X4.here hx rfl (hb hby d4_22) rfl ?_
    show Steps p.tables e below (T4.setTop (mkF m 23 #[.val (.ref a4_0), .val (.long q4_1), .second] [(.long q4_1), (.int (0 : Int32)), (.ref a4_0)])) _
    refine st9.trans ?_
    show Steps p.tables e below (T9.setTop (mkF m 26 #[.val (.ref a4_0), .val (.long q4_1), .second] [])) _
    exact X9.returnOut hx Bd.returns (hb hby d4_26) hr
  · show Q_rm4_1 Z a4_0 q4_1 w_tree_a4_0 kc_w_tree_a4_0 h0 n0 _ T9.heap _
    subst hy10
    exact ⟨bx5_0_1, kx5_0_1, rfl, N9, K9, sz_bx5_0_1, P9_0, P9_1, P9_2, P9_3, P9_4⟩
theorem pd__J_V : parseMethodDescriptor "(J)V" = some ⟨[.long], none⟩ := by decide +kernel
theorem ef_rm6_2 (m : MethodId)  : entryFrame m #[(.int (2 : Int32)), (.int (2 : Int32))] 2 = mkF m 0 #[.val (.int (2 : Int32)), .val (.int (2 : Int32))] [] := by first | (simp [entryFrame, mkF, argsToLocals, Value.category]; done) | rfl
def Q_rm6_2 (Z : State)  (h0 : Heap) (n0 : Nat) (v : Option Value) (h : Heap) (L : List Loc) : Prop := v = some (.int (2 : Int32)) ∧ Fr n0 L ∧ h = h0
set_option maxRecDepth 65536 in
set_option maxHeartbeats 40000000 in
theorem rm6_2 (l : Launch) (Z : State) (a0 : Array Value) (hw : ∀ d ∈ tables_1, d.before a0 Z = true) (ws : List Jvm.Cond)  (h0 : Heap) (n0 : Nat) (Z0 : n0 ≤ h0.size) :
    MetFree l (⟨"java/lang/Math", "max", "(II)I"⟩ : MethodName) (head1 (Jvm.Cond.code (⟨"java/lang/Math", "max", "(II)I"⟩ : MethodName) jdk_29_method_65_code 2 (some .int) :: ws) ({ frames := 0, cells := 0, slots := 0, locals := 0 } : Room)) (fun a U => a = #[(.int (2 : Int32)), (.int (2 : Int32))] ∧ Z.Warmed39 U.vm ∧ U.heap = h0) (fun _ _ _ _ _ => True) (fun _ U o U' => ∃ v L, o = .returned v ∧ Q_rm6_2 Z  h0 n0 v U'.heap L ∧ FrameEnd U o U' L ({ frames := 0, cells := 0, slots := 0, locals := 0 } : Room).cells ({ frames := 0, cells := 0, slots := 0, locals := 0 } : Room).slots) := by
  refine MetFree.of_bodySF (Jvm.Free.JP.mathPlain rfl (by decide +kernel)) hisR ?_
  intro p e s m args below meth c s₁ Bd hml0 hP hK
  obtain ⟨rfl, hZ, hh⟩ := hP
  have hx := Bd.exec
  have hby := Bd.bytes
  have hml : c.maxLocals = 2 := hml0
  have hown : s.vm.findClass "java/lang/Math" = some m.cls := findClass_of_methodNamed Bd.named
  have hnm := (name_of_methodNamed Bd.named Bd.method).1
  have X0 : Stand p l e ({ frames := 0, cells := 0, slots := 0, locals := 0 } : Room) s m #[(.int (2 : Int32)), (.int (2 : Int32))] below meth c s₁ [] 0 0 := Stand.of_body Bd
  have e0 : s₁.heap = h0 := by rw [← hh, Bd.state]; rfl
  have N0 := Fr.nil n0
  have pre0 : ∀ t, Steps p.tables e below (s₁.setTop (mkF m 0 #[.val (.int (2 : Int32)), .val (.int (2 : Int32))] [])) t → Steps p.tables e below (s₁.setTop (entryFrame m #[(.int (2 : Int32)), (.int (2 : Int32))] 2)) t := fun t k => castTop (ef_rm6_2 m ) k
  obtain ⟨fs, hr, hrun, hended, hW, hsame⟩ := X0.leave (v := some (.int (2 : Int32))) (fun h => by rw [Bd.returns] at h; cases h)
  refine ⟨_, _, pre0 _ ?_, hrun, hended, _, _, rfl, ?_, ⟨_, rfl⟩, hW, hsame.mono (by decide) (by decide)⟩
  · show Steps p.tables e below (s₁.setTop (mkF m 0 #[.val (.int (2 : Int32)), .val (.int (2 : Int32))] [])) _
    refine XS.iloadN X0.here hx rfl (hb hby d6_0) rfl ?_
    refine XS.iloadN X0.here hx rfl (hb hby d6_1) rfl ?_
    show Steps p.tables e below (s₁.setTop (mkF m 2 #[.val (.int (2 : Int32)), .val (.int (2 : Int32))] [(.int (2 : Int32)), (.int (2 : Int32))])) _
    refine XS.icmpNo X0.here hx rfl (hb hby d6_2) rfl (flt (by decide : ¬ ((2 : Int32) < (2 : Int32)))).1 ?_
    refine XS.iloadN X0.here hx rfl (hb hby d6_5) rfl ?_
    refine XS.goto X0.here hx rfl (pc0 := 6) (pc' := 10) rfl (hb hby d6_6) (by decide) (by decide) ?_
    show Steps p.tables e below (s₁.setTop (mkF m 10 #[.val (.int (2 : Int32)), .val (.int (2 : Int32))] [(.int (2 : Int32))])) _
    exact retI X0 hx Bd.returns (hb hby d6_10) hr
  · show Q_rm6_2 Z  h0 n0 _ s₁.heap _
    rw [e0]
    exact ⟨rfl, N0, rfl⟩
theorem ef_rm8_2 (m : MethodId)  : entryFrame m #[(.int (1 : Int32)), (.int (2 : Int32))] 2 = mkF m 0 #[.val (.int (1 : Int32)), .val (.int (2 : Int32))] [] := by first | (simp [entryFrame, mkF, argsToLocals, Value.category]; done) | rfl
def Q_rm8_2 (Z : State)  (h0 : Heap) (n0 : Nat) (v : Option Value) (h : Heap) (L : List Loc) : Prop := v = some (.int (1 : Int32)) ∧ Fr n0 L ∧ h = h0
set_option maxRecDepth 65536 in
set_option maxHeartbeats 40000000 in
theorem rm8_2 (l : Launch) (Z : State) (a0 : Array Value) (hw : ∀ d ∈ tables_1, d.before a0 Z = true) (ws : List Jvm.Cond)  (h0 : Heap) (n0 : Nat) (Z0 : n0 ≤ h0.size) :
    MetFree l (⟨"java/lang/Math", "min", "(II)I"⟩ : MethodName) (head1 (Jvm.Cond.code (⟨"java/lang/Math", "min", "(II)I"⟩ : MethodName) jdk_29_method_69_code 2 (some .int) :: ws) ({ frames := 0, cells := 0, slots := 0, locals := 0 } : Room)) (fun a U => a = #[(.int (1 : Int32)), (.int (2 : Int32))] ∧ Z.Warmed39 U.vm ∧ U.heap = h0) (fun _ _ _ _ _ => True) (fun _ U o U' => ∃ v L, o = .returned v ∧ Q_rm8_2 Z  h0 n0 v U'.heap L ∧ FrameEnd U o U' L ({ frames := 0, cells := 0, slots := 0, locals := 0 } : Room).cells ({ frames := 0, cells := 0, slots := 0, locals := 0 } : Room).slots) := by
  refine MetFree.of_bodySF (Jvm.Free.JP.mathPlain rfl (by decide +kernel)) hisR ?_
  intro p e s m args below meth c s₁ Bd hml0 hP hK
  obtain ⟨rfl, hZ, hh⟩ := hP
  have hx := Bd.exec
  have hby := Bd.bytes
  have hml : c.maxLocals = 2 := hml0
  have hown : s.vm.findClass "java/lang/Math" = some m.cls := findClass_of_methodNamed Bd.named
  have hnm := (name_of_methodNamed Bd.named Bd.method).1
  have X0 : Stand p l e ({ frames := 0, cells := 0, slots := 0, locals := 0 } : Room) s m #[(.int (1 : Int32)), (.int (2 : Int32))] below meth c s₁ [] 0 0 := Stand.of_body Bd
  have e0 : s₁.heap = h0 := by rw [← hh, Bd.state]; rfl
  have N0 := Fr.nil n0
  have pre0 : ∀ t, Steps p.tables e below (s₁.setTop (mkF m 0 #[.val (.int (1 : Int32)), .val (.int (2 : Int32))] [])) t → Steps p.tables e below (s₁.setTop (entryFrame m #[(.int (1 : Int32)), (.int (2 : Int32))] 2)) t := fun t k => castTop (ef_rm8_2 m ) k
  obtain ⟨fs, hr, hrun, hended, hW, hsame⟩ := X0.leave (v := some (.int (1 : Int32))) (fun h => by rw [Bd.returns] at h; cases h)
  refine ⟨_, _, pre0 _ ?_, hrun, hended, _, _, rfl, ?_, ⟨_, rfl⟩, hW, hsame.mono (by decide) (by decide)⟩
  · show Steps p.tables e below (s₁.setTop (mkF m 0 #[.val (.int (1 : Int32)), .val (.int (2 : Int32))] [])) _
    refine XS.iloadN X0.here hx rfl (hb hby d8_0) rfl ?_
    refine XS.iloadN X0.here hx rfl (hb hby d8_1) rfl ?_
    show Steps p.tables e below (s₁.setTop (mkF m 2 #[.val (.int (1 : Int32)), .val (.int (2 : Int32))] [(.int (2 : Int32)), (.int (1 : Int32))])) _
    refine XS.icmpNo X0.here hx rfl (hb hby d8_2) rfl (flt (by decide : ¬ ((2 : Int32) < (1 : Int32)))).2.2.1 ?_
    refine XS.iloadN X0.here hx rfl (hb hby d8_5) rfl ?_
    refine XS.goto X0.here hx rfl (pc0 := 6) (pc' := 10) rfl (hb hby d8_6) (by decide) (by decide) ?_
    show Steps p.tables e below (s₁.setTop (mkF m 10 #[.val (.int (1 : Int32)), .val (.int (2 : Int32))] [(.int (1 : Int32))])) _
    exact retI X0 hx Bd.returns (hb hby d8_10) hr
  · show Q_rm8_2 Z  h0 n0 _ s₁.heap _
    rw [e0]
    exact ⟨rfl, N0, rfl⟩
theorem ef_rm7_2 (m : MethodId) (y0 : Addr) : entryFrame m #[(.ref y0), (.int (2 : Int32))] 3 = mkF m 0 #[.val (.ref y0), .val (.int (2 : Int32)), .unset] [] := by first | (simp [entryFrame, mkF, argsToLocals, Value.category]; done) | rfl
def Q_rm7_2 (Z : State) (a7_0 : Addr) (kc_a7_0 : ClassId) (t_a7_0_0 : Int64) (h0 : Heap) (n0 : Nat) (v : Option Value) (h : Heap) (L : List Loc) : Prop := ∃ bx7_0 : Addr, ∃ kx7_0 : ClassId, v = some (.ref bx7_0) ∧ Fr n0 L ∧ Keep h0 h [] ∧ h0.size ≤ bx7_0 ∧ Arv Z h bx7_0 kx7_0 .long (2 : Int32) [(.long t_a7_0_0), (.long (0 : Int64))] (.long (0 : Int64))
set_option maxRecDepth 65536 in
set_option maxHeartbeats 40000000 in
theorem rm7_2 (l : Launch) (Z : State) (a0 : Array Value) (hw : ∀ d ∈ tables_1, d.before a0 Z = true) (ws : List Jvm.Cond) (a7_0 : Addr) (kc_a7_0 : ClassId) (t_a7_0_0 : Int64) (h0 : Heap) (n0 : Nat) (Z0 : n0 ≤ h0.size) (V_a7_0 : Arv Z h0 a7_0 kc_a7_0 .long (1 : Int32) [(.long t_a7_0_0)] (.long (0 : Int64))) :
    MetFree l (⟨"java/util/Arrays", "copyOf", "([JI)[J"⟩ : MethodName) (head1 (Jvm.Cond.code (⟨"java/util/Arrays", "copyOf", "([JI)[J"⟩ : MethodName) jdk_65_method_124_code 3 (some (.array .long)) :: ws) ({ frames := 1, cells := 1, slots := 2, locals := 18 } : Room)) (fun a U => a = #[(.ref a7_0), (.int (2 : Int32))] ∧ Z.Warmed39 U.vm ∧ U.heap = h0) (fun _ _ _ _ _ => True) (fun _ U o U' => ∃ v L, o = .returned v ∧ Q_rm7_2 Z a7_0 kc_a7_0 t_a7_0_0 h0 n0 v U'.heap L ∧ FrameEnd U o U' L ({ frames := 1, cells := 1, slots := 2, locals := 18 } : Room).cells ({ frames := 1, cells := 1, slots := 2, locals := 18 } : Room).slots) := by
  refine MetFree.of_bodySF (plainFor_of_name pn_7) hisR ?_
  intro p e s m args below meth c s₁ Bd hml0 hP hK
  obtain ⟨rfl, hZ, hh⟩ := hP
  have hx := Bd.exec
  have hby := Bd.bytes
  have hml : c.maxLocals = 3 := hml0
  have hown : s.vm.findClass "java/util/Arrays" = some m.cls := findClass_of_methodNamed Bd.named
  have hnm := (name_of_methodNamed Bd.named Bd.method).1
  have X0 : Stand p l e ({ frames := 1, cells := 1, slots := 2, locals := 18 } : Room) s m #[(.ref a7_0), (.int (2 : Int32))] below meth c s₁ [] 0 0 := Stand.of_body Bd
  have e0 : s₁.heap = h0 := by rw [← hh, Bd.state]; rfl
  have N0 := Fr.nil n0
  have pre0 : ∀ t, Steps p.tables e below (s₁.setTop (mkF m 0 #[.val (.ref a7_0), .val (.int (2 : Int32)), .unset] [])) t → Steps p.tables e below (s₁.setTop (entryFrame m #[(.ref a7_0), (.int (2 : Int32))] 3)) t := fun t k => castTop (ef_rm7_2 m a7_0) k
  obtain ⟨cl1, Ar1, qk1, Sz1, Nz1, Hh1, Gf1⟩ := id V_a7_0
  obtain ⟨T2, h2, k2, X2, e2, E2, A2, st2⟩ := newP X0 hx hZ (aty := .long) (ow15 hw) e0 (g := (mkF m 15 #[.val (.ref a7_0), .val (.int (2 : Int32)), .unset] [(.int (2 : Int32))])) rfl (hb hby d7_15) rfl (by decide) (cap := 2) (by decide) (by decide) (by decide) (by decide)
  obtain ⟨b2, g2⟩ : ∃ z, z = h0.size := ⟨_, rfl⟩
  rw [← g2] at A2 st2
  have ne_a7_0_b2 : a7_0 ≠ b2 := Nat.ne_of_lt (Nat.lt_of_lt_of_le V_a7_0.lt (Nat.le_of_eq g2.symm))
  have V_b2 : Arv Z h2 b2 k2 .long (2 : Int32) [(.long (0 : Int64)), (.long (0 : Int64))] (.long (0 : Int64)) := (Arv.new A2 (by decide)).pad (pad_rep [] (.long (0 : Int64)) 2)
  have g_b2 : n0 ≤ b2 := Nat.le_trans Z0 (Nat.le_of_eq g2.symm)
  have sz_b2 : h0.size ≤ b2 := Nat.le_trans (Nat.le_refl _) (Nat.le_of_eq g2.symm)
  have K2 : Keep h0 h2 [] := (Keep.refl h0 []).ext E2
  have Z2 : n0 ≤ h2.size := Nat.le_trans Z0 K2.1
  have f3 := (V_a7_0.ext E2)
  obtain ⟨cl4, Ar4, qk4, Sz4, Nz4, Hh4, Gf4⟩ := id f3
  obtain ⟨_, _, ⟨T5, L5, k5, n5⟩, -, X5, ⟨Lc5, hQ5, l5, y5, z5⟩, st5⟩ := Jvm.LawKit.callS X2 hx (y := (⟨"java/lang/Math", "min", "(II)I"⟩ : MethodName)) hown (mvT hZ (ow38 hw)) (mvT hZ (ow39 hw)) (mvT hZ (ow32 hw)) (mvT hZ (ow40 hw)) (by decide) (backOf (W := 4) (rm8_2 l Z a0 hw []  h2 n0 Z2 ) hZ (ow40 hw) (ow32 hw) (by decide) (by decide)) (g := (mkF m 25 #[.val (.ref a7_0), .val (.int (2 : Int32)), .val (.ref b2)] [(.int (2 : Int32)), (.int (1 : Int32)), (.int (0 : Int32)), (.ref b2), (.int (0 : Int32)), (.ref a7_0)])) rfl (by rw [hml]; rfl) (argsL := [(.int (1 : Int32)), (.int (2 : Int32))]) (rest := [(.int (0 : Int32)), (.ref b2), (.int (0 : Int32)), (.ref a7_0)]) (lenOf pd__II_I rfl) rfl (by show 2 * 0 + _ ≤ _; exact Nat.le_of_eq rfl) (hb hby d7_25) (fun _ _ => ⟨rfl, e2, (by decide : 1 + 0 ≤ _), (by decide : 2 + 0 ≤ _)⟩)
  dsimp only [Pt.U, Pt.locs, Pt.cells, Pt.slots] at X5 l5 y5 z5 st5 hQ5
  subst l5 y5 z5
  obtain ⟨rfl, Nq5, e5⟩ := hQ5
  have N5 := Fr.app N0 Nq5
  obtain ⟨T6, h6, Lo6, X6, e6, N6, Kc6, V6, st6⟩ := cpA X5 hx hZ hown (ow41 hw) (ow44 hw) (ow42 hw) (ow43 hw) e5 f3 V_b2 (Or.inl ⟨rfl, rfl⟩) (sp := (0 : Int32)) (dp := (0 : Int32)) (nn := (1 : Int32)) (us := [(.long t_a7_0_0)]) (by decide) (by decide) (by decide) (by decide) (by decide) rfl (Nat.le_of_ble_eq_true rfl) N5 g_b2 (g := (mkF m 28 #[.val (.ref a7_0), .val (.int (2 : Int32)), .val (.ref b2)] [(.int (1 : Int32)), (.int (0 : Int32)), (.ref b2), (.int (0 : Int32)), (.ref a7_0)])) rfl (by rw [hml]; rfl) rfl (hb hby d7_28) (by decide) (W := 0) (by show 2 * 0 + _ ≤ _; exact Nat.le_of_eq rfl) (by decide)
  have V6 : Arv Z h6 b2 k2 .long (2 : Int32) [(.long t_a7_0_0), (.long (0 : Int64))] (.long (0 : Int64)) := V6
  have K6 : Keep h0 h6 [] := Keep.trans K2 Kc6 (allS (P := fun x => x ∈ ([] : List Addr) ∨ h0.size ≤ x) (Or.inr sz_b2) all0)
  have Z6 : n0 ≤ h6.size := Nat.le_trans Z0 K6.1
  obtain ⟨fs, hr, hrun, hended, hW, hsame⟩ := X6.leave (v := some (.ref b2)) (fun h => by rw [Bd.returns] at h; cases h)
  refine ⟨_, _, pre0 _ ?_, hrun, hended, _, _, rfl, ?_, ⟨_, rfl⟩, hW, hsame.mono (by decide) (by decide)⟩
  · show Steps p.tables e below (s₁.setTop (mkF m 0 #[.val (.ref a7_0), .val (.int (2 : Int32)), .unset] [])) _
    refine XS.iloadN X0.here hx rfl (hb hby d7_0) rfl ?_
    refine XS.aloadN X0.here hx rfl (hb hby d7_1) rfl rfl ?_
    show Steps p.tables e below (s₁.setTop (mkF m 2 #[.val (.ref a7_0), .val (.int (2 : Int32)), .unset] [(.ref a7_0), (.int (2 : Int32))])) _
    refine X0.arraylength hx (cell := cl1) (by rw [e0]; exact Ar1.1) (State.isArrayOf_alike hZ.alike Ar1.2.1) (g := (mkF m 2 #[.val (.ref a7_0), .val (.int (2 : Int32)), .unset] [(.ref a7_0), (.int (2 : Int32))])) rfl (rest := [(.int (2 : Int32))]) rfl (hb hby d7_2) _ ?_
    rw [len_of Sz1 Nz1]
    show Steps p.tables e below (s₁.setTop (mkF m 3 #[.val (.ref a7_0), .val (.int (2 : Int32)), .unset] [(.int (1 : Int32)), (.int (2 : Int32))])) _
    refine XS.icmpYes X0.here hx rfl (pc0 := 3) (pc' := 14) rfl (hb hby d7_3) rfl (feq (by decide : ¬ ((2 : Int32) = (1 : Int32)))).2 (by decide) (by decide) ?_
    refine XS.iloadN X0.here hx rfl (hb hby d7_14) rfl ?_
    refine st2 _ ?_
    show Steps p.tables e below (T2.setTop (mkF m 17 #[.val (.ref a7_0), .val (.int (2 : Int32)), .unset] [(.ref b2)])) _
    refine XS.astoreN X2.here hx rfl (hb hby d7_17) rfl rfl (l' := #[.val (.ref a7_0), .val (.int (2 : Int32)), .val (.ref b2)]) rfl ?_
    refine XS.aloadN X2.here hx rfl (hb hby d7_18) rfl rfl ?_
    refine XS.iconst X2.here hx rfl (hb hby d7_19) ?_
    show Steps p.tables e below (T2.setTop (mkF m 20 #[.val (.ref a7_0), .val (.int (2 : Int32)), .val (.ref b2)] [(.int (0 : Int32)), (.ref a7_0)])) _
    refine XS.aloadN X2.here hx rfl (hb hby d7_20) rfl rfl ?_
    refine XS.iconst X2.here hx rfl (hb hby d7_21) ?_
    refine XS.aloadN X2.here hx rfl (hb hby d7_22) rfl rfl ?_
    show Steps p.tables e below (T2.setTop (mkF m 23 #[.val (.ref a7_0), .val (.int (2 : Int32)), .val (.ref b2)] [(.ref a7_0), (.int (0 : Int32)), (.ref b2), (.int (0 : Int32)), (.ref a7_0)])) _
    refine X2.arraylength hx (cell := cl4) (by rw [e2]; exact Ar4.1) (State.isArrayOf_alike hZ.alike Ar4.2.1) (g := (mkF m 23 #[.val (.ref a7_0), .val (.int (2 : Int32)), .val (.ref b2)] [(.ref a7_0), (.int (0 : Int32)), (.ref b2), (.int (0 : Int32)), (.ref a7_0)])) rfl (rest := [(.int (0 : Int32)), (.ref b2), (.int (0 : Int32)), (.ref a7_0)]) rfl (hb hby d7_23) _ ?_
    rw [len_of Sz4 Nz4]
    refine XS.iloadN X2.here hx rfl (hb hby d7_24) rfl ?_
    show Steps p.tables e below (T2.setTop (mkF m 25 #[.val (.ref a7_0), .val (.int (2 : Int32)), .val (.ref b2)] [(.int (2 : Int32)), (.int (1 : Int32)), (.int (0 : Int32)), (.ref b2), (.int (0 : Int32)), (.ref a7_0)])) _
    refine st5 _ ?_
    refine st6 _ ?_
    refine XS.aloadN X6.here hx rfl (hb hby d7_31) rfl rfl ?_
    show Steps p.tables e below (T6.setTop (mkF m 32 #[.val (.ref a7_0), .val (.int (2 : Int32)), .val (.ref b2)] [(.ref b2)])) _
    jvm_step X6.here [X6.here.top, hx, (hb hby d7_32), X6.method', Bd.returns, Value.isRef, FieldType.isReference]
    first | (intro acts; rw [hr _ acts rfl rfl rfl]) | rw [hr _ _ rfl rfl rfl]
    exact Steps.refl _
  · show Q_rm7_2 Z a7_0 kc_a7_0 t_a7_0_0 h0 n0 _ T6.heap _
    rw [e6]
    exact ⟨b2, k2, rfl, N6, K6, sz_b2, V6⟩
theorem d10_0 : decode prog_14_method_8_code 0 = .ok (.lconst 0, 1) := by decide +kernel
theorem d10_1 : decode prog_14_method_8_code 1 = .ok (.lstore_n 2, 1) := by decide +kernel
theorem d10_2 : decode prog_14_method_8_code 2 = .ok (.iload_n 1, 1) := by decide +kernel
theorem d10_3 : decode prog_14_method_8_code 3 = .ok (.istore 4, 2) := by decide +kernel
theorem d10_5 : decode prog_14_method_8_code 5 = .ok (.iload 4, 2) := by decide +kernel
theorem d10_7 : decode prog_14_method_8_code 7 = .ok (.ifCond .le 29, 3) := by decide +kernel
theorem d10_36 : decode prog_14_method_8_code 36 = .ok (.lload_n 2, 1) := by decide +kernel
theorem d10_37 : decode prog_14_method_8_code 37 = .ok (.lreturn, 1) := by decide +kernel
theorem pn_10 : plainName "com/example/motley/motley/CountTree" = true := by first | (simp [plainName, overriddenIn]; done) | decide +kernel
theorem ef_rm10_1 (m : MethodId) (y0 : Addr) : entryFrame m #[(.ref y0), (.int (0 : Int32))] 5 = mkF m 0 #[.val (.ref y0), .val (.int (0 : Int32)), .unset, .unset, .unset] [] := by first | (simp [entryFrame, mkF, argsToLocals, Value.category]; done) | rfl
def Q_rm10_1 (Z : State) (a10_0 : Addr) (w_tree_a10_0 : Addr) (w_total_a10_0 : Int64) (kc_w_tree_a10_0 : ClassId) (t_w_tree_a10_0_0 : Int64) (h0 : Heap) (n0 : Nat) (v : Option Value) (h : Heap) (L : List Loc) : Prop := v = some (.long (0 : Int64)) ∧ Fr n0 L ∧ h = h0
set_option maxRecDepth 65536 in
set_option maxHeartbeats 40000000 in
theorem rm10_1 (l : Launch) (Z : State) (a0 : Array Value) (hw : ∀ d ∈ tables_1, d.before a0 Z = true) (ws : List Jvm.Cond) (a10_0 : Addr) (w_tree_a10_0 : Addr) (w_total_a10_0 : Int64) (kc_w_tree_a10_0 : ClassId) (t_w_tree_a10_0_0 : Int64) (h0 : Heap) (n0 : Nat) (Z0 : n0 ≤ h0.size) (E_a10_0 : Exa Z h0 a10_0 "com/example/motley/motley/CountTree") (F_tree_a10_0 : Fld Z h0 a10_0 "com/example/motley/motley/CountTree" "tree" "[J" (.ref w_tree_a10_0)) (F_size_a10_0 : Fld Z h0 a10_0 "com/example/motley/motley/CountTree" "size" "I" (.int (1 : Int32))) (F_total_a10_0 : Fld Z h0 a10_0 "com/example/motley/motley/CountTree" "total" "J" (.long w_total_a10_0)) (V_w_tree_a10_0 : Arv Z h0 w_tree_a10_0 kc_w_tree_a10_0 .long (1 : Int32) [(.long t_w_tree_a10_0_0)] (.long (0 : Int64))) :
    MetFree l (⟨"com/example/motley/motley/CountTree", "sumBefore", "(I)J"⟩ : MethodName) (head1 (Jvm.Cond.code (⟨"com/example/motley/motley/CountTree", "sumBefore", "(I)J"⟩ : MethodName) prog_14_method_8_code 5 (some .long) :: ws) ({ frames := 0, cells := 0, slots := 0, locals := 0 } : Room)) (fun a U => a = #[(.ref a10_0), (.int (0 : Int32))] ∧ Z.Warmed39 U.vm ∧ U.heap = h0) (fun _ _ _ _ _ => True) (fun _ U o U' => ∃ v L, o = .returned v ∧ Q_rm10_1 Z a10_0 w_tree_a10_0 w_total_a10_0 kc_w_tree_a10_0 t_w_tree_a10_0_0 h0 n0 v U'.heap L ∧ FrameEnd U o U' L ({ frames := 0, cells := 0, slots := 0, locals := 0 } : Room).cells ({ frames := 0, cells := 0, slots := 0, locals := 0 } : Room).slots) := by
  refine MetFree.of_bodySF (plainFor_of_name pn_10) hisR ?_
  intro p e s m args below meth c s₁ Bd hml0 hP hK
  obtain ⟨rfl, hZ, hh⟩ := hP
  have hx := Bd.exec
  have hby := Bd.bytes
  have hml : c.maxLocals = 5 := hml0
  have hown : s.vm.findClass "com/example/motley/motley/CountTree" = some m.cls := findClass_of_methodNamed Bd.named
  have hnm := (name_of_methodNamed Bd.named Bd.method).1
  have X0 : Stand p l e ({ frames := 0, cells := 0, slots := 0, locals := 0 } : Room) s m #[(.ref a10_0), (.int (0 : Int32))] below meth c s₁ [] 0 0 := Stand.of_body Bd
  have e0 : s₁.heap = h0 := by rw [← hh, Bd.state]; rfl
  have N0 := Fr.nil n0
  have pre0 : ∀ t, Steps p.tables e below (s₁.setTop (mkF m 0 #[.val (.ref a10_0), .val (.int (0 : Int32)), .unset, .unset, .unset] [])) t → Steps p.tables e below (s₁.setTop (entryFrame m #[(.ref a10_0), (.int (0 : Int32))] 5)) t := fun t k => castTop (ef_rm10_1 m a10_0) k
  obtain ⟨fs, hr, hrun, hended, hW, hsame⟩ := X0.leave (v := some (.long (0 : Int64))) (fun h => by rw [Bd.returns] at h; cases h)
  refine ⟨_, _, pre0 _ ?_, hrun, hended, _, _, rfl, ?_, ⟨_, rfl⟩, hW, hsame.mono (by decide) (by decide)⟩
  · show Steps p.tables e below (s₁.setTop (mkF m 0 #[.val (.ref a10_0), .val (.int (0 : Int32)), .unset, .unset, .unset] [])) _
    refine XS.lconst X0.here hx rfl (hb hby d10_0) ?_
    refine XS.lstoreN X0.here hx rfl (hb hby d10_1) rfl (l' := #[.val (.ref a10_0), .val (.int (0 : Int32)), .val (.long (0 : Int64)), .second, .unset]) rfl ?_
    refine XS.iloadN X0.here hx rfl (hb hby d10_2) rfl ?_
    show Steps p.tables e below (s₁.setTop (mkF m 3 #[.val (.ref a10_0), .val (.int (0 : Int32)), .val (.long (0 : Int64)), .second, .unset] [(.int (0 : Int32))])) _
    refine XS.istore X0.here hx rfl (hb hby d10_3) rfl (l' := #[.val (.ref a10_0), .val (.int (0 : Int32)), .val (.long (0 : Int64)), .second, .val (.int (0 : Int32))]) rfl ?_
    refine XS.iload X0.here hx rfl (hb hby d10_5) rfl ?_
    show Steps p.tables e below (s₁.setTop (mkF m 7 #[.val (.ref a10_0), .val (.int (0 : Int32)), .val (.long (0 : Int64)), .second, .val (.int (0 : Int32))] [(.int (0 : Int32))])) _
    refine XS.ifYes X0.here hx rfl (pc0 := 7) (pc' := 36) rfl (hb hby d10_7) rfl ((if0 _ _).trans (flt (by decide : ¬ ((0 : Int32) < (0 : Int32)))).2.2.2) (by decide) (by decide) ?_
    refine XS.lloadN X0.here hx rfl (hb hby d10_36) rfl ?_
    show Steps p.tables e below (s₁.setTop (mkF m 37 #[.val (.ref a10_0), .val (.int (0 : Int32)), .val (.long (0 : Int64)), .second, .val (.int (0 : Int32))] [(.long (0 : Int64))])) _
    exact own_retJ X0 hx Bd.returns (hb hby d10_37) hr
  · show Q_rm10_1 Z a10_0 w_tree_a10_0 w_total_a10_0 kc_w_tree_a10_0 t_w_tree_a10_0_0 h0 n0 _ s₁.heap _
    rw [e0]
    exact ⟨rfl, N0, rfl⟩
theorem pd__I_J : parseMethodDescriptor "(I)J" = some ⟨[.int], some .long⟩ := by decide +kernel
theorem d5_74 : decode prog_14_method_3_code 74 = .ok (.aload 4, 2) := by decide +kernel
theorem d5_76 : decode prog_14_method_3_code 76 = .ok (.iload 5, 2) := by decide +kernel
theorem d5_78 : decode prog_14_method_3_code 78 = .ok (.iconst 1, 1) := by decide +kernel
theorem d5_79 : decode prog_14_method_3_code 79 = .ok (.isub, 1) := by decide +kernel
theorem d5_80 : decode prog_14_method_3_code 80 = .ok (.aload_n 0, 1) := by decide +kernel
theorem d5_81 : decode prog_14_method_3_code 81 = .ok (.getfield 29, 3) := by decide +kernel
theorem d5_84 : decode prog_14_method_3_code 84 = .ok (.aload_n 0, 1) := by decide +kernel
theorem d5_85 : decode prog_14_method_3_code 85 = .ok (.iload 6, 2) := by decide +kernel
theorem d5_87 : decode prog_14_method_3_code 87 = .ok (.invokevirtual 33, 3) := by decide +kernel
theorem d5_90 : decode prog_14_method_3_code 90 = .ok (.lsub, 1) := by decide +kernel
theorem d5_91 : decode prog_14_method_3_code 91 = .ok (.lastore, 1) := by decide +kernel
theorem ef_rm5_2 (m : MethodId) (y0 : Addr) : entryFrame m #[(.ref y0), (.int (1 : Int32))] 7 = mkF m 0 #[.val (.ref y0), .val (.int (1 : Int32)), .unset, .unset, .unset, .unset, .unset] [] := by first | (simp [entryFrame, mkF, argsToLocals, Value.category]; done) | rfl
def Q_rm5_2 (Z : State) (a5_0 : Addr) (w_tree_a5_0 : Addr) (w_total_a5_0 : Int64) (kc_w_tree_a5_0 : ClassId) (t_w_tree_a5_0_0 : Int64) (h0 : Heap) (n0 : Nat) (v : Option Value) (h : Heap) (L : List Loc) : Prop := ∃ bx5_0 : Addr, ∃ kx5_0 : ClassId, v = none ∧ Fr n0 L ∧ Keep h0 h [a5_0] ∧ h0.size ≤ bx5_0 ∧ Exa Z h a5_0 "com/example/motley/motley/CountTree" ∧ Fld Z h a5_0 "com/example/motley/motley/CountTree" "tree" "[J" (.ref bx5_0) ∧ Fld Z h a5_0 "com/example/motley/motley/CountTree" "size" "I" (.int (1 : Int32)) ∧ Fld Z h a5_0 "com/example/motley/motley/CountTree" "total" "J" (.long w_total_a5_0) ∧ Arv Z h bx5_0 kx5_0 .long (2 : Int32) [(.long t_w_tree_a5_0_0), (.long (w_total_a5_0 - (0 : Int64)))] (.long (0 : Int64))
set_option maxRecDepth 65536 in
set_option maxHeartbeats 40000000 in
theorem rm5_2 (l : Launch) (Z : State) (a0 : Array Value) (hw : ∀ d ∈ tables_1, d.before a0 Z = true) (ws : List Jvm.Cond) (a5_0 : Addr) (w_tree_a5_0 : Addr) (w_total_a5_0 : Int64) (kc_w_tree_a5_0 : ClassId) (t_w_tree_a5_0_0 : Int64) (h0 : Heap) (n0 : Nat) (Z0 : n0 ≤ h0.size) (E_a5_0 : Exa Z h0 a5_0 "com/example/motley/motley/CountTree") (F_tree_a5_0 : Fld Z h0 a5_0 "com/example/motley/motley/CountTree" "tree" "[J" (.ref w_tree_a5_0)) (F_size_a5_0 : Fld Z h0 a5_0 "com/example/motley/motley/CountTree" "size" "I" (.int (1 : Int32))) (F_total_a5_0 : Fld Z h0 a5_0 "com/example/motley/motley/CountTree" "total" "J" (.long w_total_a5_0)) (V_w_tree_a5_0 : Arv Z h0 w_tree_a5_0 kc_w_tree_a5_0 .long (1 : Int32) [(.long t_w_tree_a5_0_0)] (.long (0 : Int64))) (g_a5_0 : n0 ≤ a5_0) :
    MetFree l (⟨"com/example/motley/motley/CountTree", "reserve", "(I)V"⟩ : MethodName) (head1 (Jvm.Cond.code (⟨"com/example/motley/motley/CountTree", "reserve", "(I)V"⟩ : MethodName) prog_14_method_3_code 7 none :: ws) ({ frames := 2, cells := 1, slots := 2, locals := 32 } : Room)) (fun a U => a = #[(.ref a5_0), (.int (1 : Int32))] ∧ Z.Warmed39 U.vm ∧ U.heap = h0) (fun _ _ _ _ _ => True) (fun _ U o U' => ∃ v L, o = .returned v ∧ Q_rm5_2 Z a5_0 w_tree_a5_0 w_total_a5_0 kc_w_tree_a5_0 t_w_tree_a5_0_0 h0 n0 v U'.heap L ∧ FrameEnd U o U' L ({ frames := 2, cells := 1, slots := 2, locals := 32 } : Room).cells ({ frames := 2, cells := 1, slots := 2, locals := 32 } : Room).slots) := by
  refine MetFree.of_bodySF (plainFor_of_name pn_5) hisR ?_
  intro p e s m args below meth c s₁ Bd hml0 hP hK
  obtain ⟨rfl, hZ, hh⟩ := hP
  have hx := Bd.exec
  have hby := Bd.bytes
  have hml : c.maxLocals = 7 := hml0
  have hown : s.vm.findClass "com/example/motley/motley/CountTree" = some m.cls := findClass_of_methodNamed Bd.named
  have hnm := (name_of_methodNamed Bd.named Bd.method).1
  have X0 : Stand p l e ({ frames := 2, cells := 1, slots := 2, locals := 32 } : Room) s m #[(.ref a5_0), (.int (1 : Int32))] below meth c s₁ [] 0 0 := Stand.of_body Bd
  have e0 : s₁.heap = h0 := by rw [← hh, Bd.state]; rfl
  have N0 := Fr.nil n0
  have pre0 : ∀ t, Steps p.tables e below (s₁.setTop (mkF m 0 #[.val (.ref a5_0), .val (.int (1 : Int32)), .unset, .unset, .unset, .unset, .unset] [])) t → Steps p.tables e below (s₁.setTop (entryFrame m #[(.ref a5_0), (.int (1 : Int32))] 7)) t := fun t k => castTop (ef_rm5_2 m a5_0) k
  obtain ⟨T1, X1, e1, st1⟩ := getF X0 hx hZ hown (host := "") (Or.inl (ow28 hw)) Via.refl e0 F_size_a5_0 (g := (mkF m 1 #[.val (.ref a5_0), .val (.int (1 : Int32)), .unset, .unset, .unset, .unset, .unset] [(.ref a5_0)])) rfl rfl (hb hby d5_1)
  obtain ⟨T2, X2, e2, st2⟩ := getF X1 hx hZ hown (host := "") (Or.inl (ow16 hw)) Via.refl e1 F_tree_a5_0 (g := (mkF m 9 #[.val (.ref a5_0), .val (.int (1 : Int32)), .val (.int (2 : Int32)), .unset, .unset, .unset, .unset] [(.ref a5_0), (.int (2 : Int32))])) rfl rfl (hb hby d5_9)
  obtain ⟨cl3, Ar3, qk3, Sz3, Nz3, Hh3, Gf3⟩ := id V_w_tree_a5_0
  obtain ⟨T4, X4, e4, st4⟩ := getF X2 hx hZ hown (host := "") (Or.inl (ow16 hw)) Via.refl e2 F_tree_a5_0 (g := (mkF m 20 #[.val (.ref a5_0), .val (.int (1 : Int32)), .val (.int (2 : Int32)), .unset, .unset, .unset, .unset] [(.ref a5_0), (.int (2 : Int32)), (.int (2 : Int32))])) rfl rfl (hb hby d5_20)
  obtain ⟨cl5, Ar5, qk5, Sz5, Nz5, Hh5, Gf5⟩ := id V_w_tree_a5_0
  obtain ⟨_, _, ⟨T6, L6, k6, n6⟩, -, X6, ⟨Lc6, hQ6, l6, y6, z6⟩, st6⟩ := Jvm.LawKit.callS X4 hx (y := (⟨"java/lang/Math", "max", "(II)I"⟩ : MethodName)) hown (mvT hZ (ow30 hw)) (mvT hZ (ow31 hw)) (mvT hZ (ow32 hw)) (mvT hZ (ow33 hw)) (by decide) (backOf (W := 0) (rm6_2 l Z a0 hw []  h0 n0 Z0 ) hZ (ow33 hw) (ow32 hw) (by decide) (by decide)) (g := (mkF m 25 #[.val (.ref a5_0), .val (.int (1 : Int32)), .val (.int (2 : Int32)), .unset, .unset, .unset, .unset] [(.int (2 : Int32)), (.int (2 : Int32))])) rfl (by rw [hml]; rfl) (argsL := [(.int (2 : Int32)), (.int (2 : Int32))]) (rest := []) (lenOf pd__II_I rfl) rfl (by show 2 * 0 + _ ≤ _; exact Nat.le_of_eq rfl) (hb hby d5_25) (fun _ _ => ⟨rfl, e4, (by decide : 0 + 0 ≤ _), (by decide : 0 + 0 ≤ _)⟩)
  dsimp only [Pt.U, Pt.locs, Pt.cells, Pt.slots] at X6 l6 y6 z6 st6 hQ6
  subst l6 y6 z6
  obtain ⟨rfl, Nq6, e6⟩ := hQ6
  have N6 := Fr.app N0 Nq6
  obtain ⟨T7, X7, e7, st7⟩ := getF X6 hx hZ hown (host := "") (Or.inl (ow16 hw)) Via.refl e6 F_tree_a5_0 (g := (mkF m 30 #[.val (.ref a5_0), .val (.int (1 : Int32)), .val (.int (2 : Int32)), .val (.int (2 : Int32)), .unset, .unset, .unset] [(.ref a5_0)])) rfl rfl (hb hby d5_30)
  obtain ⟨_, _, ⟨T8, L8, k8, n8⟩, -, X8, ⟨Lc8, hQ8, l8, y8, z8⟩, st8⟩ := Jvm.LawKit.callS X7 hx (y := (⟨"java/util/Arrays", "copyOf", "([JI)[J"⟩ : MethodName)) hown (mvT hZ (ow34 hw)) (mvT hZ (ow35 hw)) (mvT hZ (ow36 hw)) (mvT hZ (ow37 hw)) (by decide) (backOf (W := 0) (rm7_2 l Z a0 hw [] w_tree_a5_0 kc_w_tree_a5_0 t_w_tree_a5_0_0 h0 n0 Z0 V_w_tree_a5_0) hZ (ow37 hw) (ow36 hw) (by decide) (by decide)) (g := (mkF m 34 #[.val (.ref a5_0), .val (.int (1 : Int32)), .val (.int (2 : Int32)), .val (.int (2 : Int32)), .unset, .unset, .unset] [(.int (2 : Int32)), (.ref w_tree_a5_0)])) rfl (by rw [hml]; rfl) (argsL := [(.ref w_tree_a5_0), (.int (2 : Int32))]) (rest := []) (lenOf pd___JI__J rfl) rfl (by show 2 * 0 + _ ≤ _; exact Nat.le_of_eq rfl) (hb hby d5_34) (fun _ _ => ⟨rfl, e7, (by decide : 0 + 1 ≤ _), (by decide : 0 + 2 ≤ _)⟩)
  dsimp only [Pt.U, Pt.locs, Pt.cells, Pt.slots] at X8 l8 y8 z8 st8 hQ8
  subst l8 y8 z8
  obtain ⟨bx7_0_8, kx7_0_8, rfl, Nq8, Kc8, P8_0, P8_1⟩ := hQ8
  have K8 : Keep h0 T8.heap [a5_0] := Keep.trans (Keep.refl h0 [a5_0]) Kc8 all0
  have Z8 : n0 ≤ T8.heap.size := Nat.le_trans Z0 K8.1
  have g_bx7_0_8 : n0 ≤ bx7_0_8 := Nat.le_trans Z0 P8_0
  have sz_bx7_0_8 : h0.size ≤ bx7_0_8 := Nat.le_trans (Nat.le_refl _) P8_0
  have ne_a5_0_bx7_0_8 : a5_0 ≠ bx7_0_8 := Nat.ne_of_lt (Nat.lt_of_lt_of_le E_a5_0.lt P8_0)
  have ne_w_tree_a5_0_bx7_0_8 : w_tree_a5_0 ≠ bx7_0_8 := Nat.ne_of_lt (Nat.lt_of_lt_of_le V_w_tree_a5_0.lt P8_0)
  have N8 := Fr.app N6 Nq8
  have f9 := (F_tree_a5_0.keep Kc8 nin0)
  obtain ⟨T10, X10, e10, st10⟩ := getF X8 hx hZ hown (host := "") (Or.inl (ow16 hw)) Via.refl rfl f9 (g := (mkF m 40 #[.val (.ref a5_0), .val (.int (1 : Int32)), .val (.int (2 : Int32)), .val (.int (2 : Int32)), .val (.ref bx7_0_8), .unset, .unset] [(.ref a5_0)])) rfl rfl (hb hby d5_40)
  have f11 := (V_w_tree_a5_0.keep Kc8 nin0)
  obtain ⟨cl12, Ar12, qk12, Sz12, Nz12, Hh12, Gf12⟩ := id f11
  have f13 := (F_size_a5_0.keep Kc8 nin0)
  obtain ⟨T14, X14, e14, st14⟩ := getF X10 hx hZ hown (host := "") (Or.inl (ow28 hw)) Via.refl e10 f13 (g := (mkF m 68 #[.val (.ref a5_0), .val (.int (1 : Int32)), .val (.int (2 : Int32)), .val (.int (2 : Int32)), .val (.ref bx7_0_8), .val (.int (2 : Int32)), .val (.int (0 : Int32))] [(.ref a5_0), (.int (0 : Int32))])) rfl rfl (hb hby d5_68)
  have f15 := (F_total_a5_0.keep Kc8 nin0)
  obtain ⟨T16, X16, e16, st16⟩ := getF X14 hx hZ hown (host := "") (Or.inl (ow50 hw)) Via.refl e14 f15 (g := (mkF m 81 #[.val (.ref a5_0), .val (.int (1 : Int32)), .val (.int (2 : Int32)), .val (.int (2 : Int32)), .val (.ref bx7_0_8), .val (.int (2 : Int32)), .val (.int (0 : Int32))] [(.ref a5_0), (.int (1 : Int32)), (.ref bx7_0_8)])) rfl rfl (hb hby d5_81)
  have f17 := (E_a5_0.keep Kc8)
  obtain ⟨cq18, kq18, q18a, q18b, q18c⟩ := isOf hZ e16 f17
  obtain ⟨_, _, ⟨T18, L18, k18, n18⟩, -, X18, ⟨Lc18, hQ18, l18, y18, z18⟩, st18⟩ := X16.virtualBack hx (y := (⟨"com/example/motley/motley/CountTree", "sumBefore", "(I)J"⟩ : MethodName)) (z := (⟨"com/example/motley/motley/CountTree", "sumBefore", "(I)J"⟩ : MethodName)) hown (mvT hZ (ow52 hw)) (mvT hZ (ow53 hw)) (notFace_of_selects (args := #[]) (mvT hZ (ow55 hw))) (mvT hZ (ow55 hw)) (mvT hZ (ow54 hw)) (by decide) (backOf (W := 4) (rm10_1 l Z a0 hw [] a5_0 w_tree_a5_0 w_total_a5_0 kc_w_tree_a5_0 t_w_tree_a5_0_0 T8.heap n0 Z8 f17 f9 f13 f15 f11) hZ (ow56 hw) (ow8 hw) (by decide) (by decide)) q18a q18c (g := (mkF m 87 #[.val (.ref a5_0), .val (.int (1 : Int32)), .val (.int (2 : Int32)), .val (.int (2 : Int32)), .val (.ref bx7_0_8), .val (.int (2 : Int32)), .val (.int (0 : Int32))] [(.int (0 : Int32)), (.ref a5_0), (.long w_total_a5_0), (.int (1 : Int32)), (.ref bx7_0_8)])) rfl (by rw [hml]; rfl) (Steps.refl _) (argsL := [(.int (0 : Int32))]) (rest := [(.long w_total_a5_0), (.int (1 : Int32)), (.ref bx7_0_8)]) (lenOf pd__I_J rfl) rfl (by show 2 * 0 + _ ≤ _; exact Nat.le_of_eq rfl) (hb hby d5_87) (fun _ _ => ⟨rfl, e16, (by decide : 1 + 0 ≤ _), (by decide : 2 + 0 ≤ _)⟩)
  dsimp only [Pt.U, Pt.locs, Pt.cells, Pt.slots] at X18 l18 y18 z18 st18 hQ18
  subst l18 y18 z18
  obtain ⟨rfl, Nq18, e18⟩ := hQ18
  have N18 := Fr.app N8 Nq18
  obtain ⟨cl19, Ar19, qk19, Sz19, Nz19, Hh19, Gf19⟩ := id P8_1
  obtain ⟨T20, h20, X20, e20, W20, st20⟩ := stJ X18 hx hZ e18 Ar19 (j := (1 : Int32)) (inb_of Sz19 ⟨by decide, by decide⟩) (g := (mkF m 91 #[.val (.ref a5_0), .val (.int (1 : Int32)), .val (.int (2 : Int32)), .val (.int (2 : Int32)), .val (.ref bx7_0_8), .val (.int (2 : Int32)), .val (.int (0 : Int32))] [(.long (w_total_a5_0 - (0 : Int64))), (.int (1 : Int32)), (.ref bx7_0_8)])) rfl rfl (hb hby d5_91)
  have V20 : Arv Z h20 bx7_0_8 kx7_0_8 .long (2 : Int32) [(.long t_w_tree_a5_0_0), (.long (w_total_a5_0 - (0 : Int64)))] (.long (0 : Int64)) := Arv.set Ar19 qk19 Sz19 Nz19 Hh19 Gf19 rfl W20 1 rfl (Nat.le_of_ble_eq_true rfl)
  have K20 : Keep h0 h20 [a5_0] := K8.wr W20 (Or.inr sz_bx7_0_8)
  have Z20 : n0 ≤ h20.size := Nat.le_trans Z0 K20.1
  have N20 := Fr.snoc X20 N18 g_bx7_0_8
  have f21 := (f17.wr W20)
  have f22 := (f9.other W20 (Or.inl ne_a5_0_bx7_0_8))
  obtain ⟨T23, h23, X23, e23, W23, st23⟩ := putF X20 hx hZ hown (host := "") (Or.inl (ow16 hw)) Via.refl e20 f22 f21 (Or.inl (ow17 hw)) (ow7 hw) (ty := (.array .long)) (by decide) rfl rfl (g := (mkF m 101 #[.val (.ref a5_0), .val (.int (1 : Int32)), .val (.int (2 : Int32)), .val (.int (2 : Int32)), .val (.ref bx7_0_8), .val (.int (3 : Int32)), .val (.int (0 : Int32))] [(.ref bx7_0_8), (.ref a5_0)])) rfl rfl (hb hby d5_101)
  have F23 := f22.same W23
  have K23 : Keep h0 h23 [a5_0] := K20.wr W23 (Or.inl (List.mem_of_getElem? (i := 0) rfl))
  have Z23 : n0 ≤ h23.size := Nat.le_trans Z0 K23.1
  have N23 := Fr.snoc X23 N20 g_a5_0
  obtain ⟨fs, hr, hrun, hended, hW, hsame⟩ := X23.leave (v := none) (fun _ => rfl)
  refine ⟨_, _, pre0 _ ?_, hrun, hended, _, _, rfl, ?_, ⟨_, rfl⟩, hW, hsame.mono (by decide) (by decide)⟩
  · show Steps p.tables e below (s₁.setTop (mkF m 0 #[.val (.ref a5_0), .val (.int (1 : Int32)), .unset, .unset, .unset, .unset, .unset] [])) _
    refine XS.aloadN X0.here hx rfl (hb hby d5_0) rfl rfl ?_
    refine st1 _ ?_
    refine XS.iloadN X1.here hx rfl (hb hby d5_4) rfl ?_
    show Steps p.tables e below (T1.setTop (mkF m 5 #[.val (.ref a5_0), .val (.int (1 : Int32)), .unset, .unset, .unset, .unset, .unset] [(.int (1 : Int32)), (.int (1 : Int32))])) _
    refine XS.iadd X1.here hx rfl (hb hby d5_5) rfl ?_
    refine XS.istoreN X1.here hx rfl (hb hby d5_6) rfl (l' := #[.val (.ref a5_0), .val (.int (1 : Int32)), .val (.int (2 : Int32)), .unset, .unset, .unset, .unset]) rfl ?_
    refine XS.iloadN X1.here hx rfl (hb hby d5_7) rfl ?_
    show Steps p.tables e below (T1.setTop (mkF m 8 #[.val (.ref a5_0), .val (.int (1 : Int32)), .val (.int (2 : Int32)), .unset, .unset, .unset, .unset] [(.int (2 : Int32))])) _
    refine XS.aloadN X1.here hx rfl (hb hby d5_8) rfl rfl ?_
    refine st2 _ ?_
    show Steps p.tables e below (T2.setTop (mkF m 12 #[.val (.ref a5_0), .val (.int (1 : Int32)), .val (.int (2 : Int32)), .unset, .unset, .unset, .unset] [(.ref w_tree_a5_0), (.int (2 : Int32))])) _
    refine X2.arraylength hx (cell := cl3) (by rw [e2]; exact Ar3.1) (State.isArrayOf_alike hZ.alike Ar3.2.1) (g := (mkF m 12 #[.val (.ref a5_0), .val (.int (1 : Int32)), .val (.int (2 : Int32)), .unset, .unset, .unset, .unset] [(.ref w_tree_a5_0), (.int (2 : Int32))])) rfl (rest := [(.int (2 : Int32))]) rfl (hb hby d5_12) _ ?_
    rw [len_of Sz3 Nz3]
    show Steps p.tables e below (T2.setTop (mkF m 13 #[.val (.ref a5_0), .val (.int (1 : Int32)), .val (.int (2 : Int32)), .unset, .unset, .unset, .unset] [(.int (1 : Int32)), (.int (2 : Int32))])) _
    refine XS.icmpYes X2.here hx rfl (pc0 := 13) (pc' := 17) rfl (hb hby d5_13) rfl (tlt (by decide : (1 : Int32) < (2 : Int32))).2.2.1 (by decide) (by decide) ?_
    refine XS.iloadN X2.here hx rfl (hb hby d5_17) rfl ?_
    refine XS.iconst X2.here hx rfl (hb hby d5_18) ?_
    show Steps p.tables e below (T2.setTop (mkF m 19 #[.val (.ref a5_0), .val (.int (1 : Int32)), .val (.int (2 : Int32)), .unset, .unset, .unset, .unset] [(.int (2 : Int32)), (.int (2 : Int32))])) _
    refine XS.aloadN X2.here hx rfl (hb hby d5_19) rfl rfl ?_
    refine st4 _ ?_
    show Steps p.tables e below (T4.setTop (mkF m 23 #[.val (.ref a5_0), .val (.int (1 : Int32)), .val (.int (2 : Int32)), .unset, .unset, .unset, .unset] [(.ref w_tree_a5_0), (.int (2 : Int32)), (.int (2 : Int32))])) _
    refine X4.arraylength hx (cell := cl5) (by rw [e4]; exact Ar5.1) (State.isArrayOf_alike hZ.alike Ar5.2.1) (g := (mkF m 23 #[.val (.ref a5_0), .val (.int (1 : Int32)), .val (.int (2 : Int32)), .unset, .unset, .unset, .unset] [(.ref w_tree_a5_0), (.int (2 : Int32)), (.int (2 : Int32))])) rfl (rest := [(.int (2 : Int32)), (.int (2 : Int32))]) rfl (hb hby d5_23) _ ?_
    rw [len_of Sz5 Nz5]
    refine XS.imul X4.here hx rfl (hb hby d5_24) rfl ?_
    show Steps p.tables e below (T4.setTop (mkF m 25 #[.val (.ref a5_0), .val (.int (1 : Int32)), .val (.int (2 : Int32)), .unset, .unset, .unset, .unset] [(.int (2 : Int32)), (.int (2 : Int32))])) _
    refine st6 _ ?_
    refine XS.istoreN X6.here hx rfl (hb hby d5_28) rfl (l' := #[.val (.ref a5_0), .val (.int (1 : Int32)), .val (.int (2 : Int32)), .val (.int (2 : Int32)), .unset, .unset, .unset]) rfl ?_
    refine XS.aloadN X6.here hx rfl (hb hby d5_29) rfl rfl ?_
    show Steps p.tables e below (T6.setTop (mkF m 30 #[.val (.ref a5_0), .val (.int (1 : Int32)), .val (.int (2 : Int32)), .val (.int (2 : Int32)), .unset, .unset, .unset] [(.ref a5_0)])) _
    refine st7 _ ?_
    refine XS.iloadN X7.here hx rfl (hb hby d5_33) rfl ?_
    refine st8 _ ?_
    show Steps p.tables e below (T8.setTop (mkF m 37 #[.val (.ref a5_0), .val (.int (1 : Int32)), .val (.int (2 : Int32)), .val (.int (2 : Int32)), .unset, .unset, .unset] [(.ref bx7_0_8)])) _
    refine XS.astore X8.here hx rfl (hb hby d5_37) rfl rfl (l' := #[.val (.ref a5_0), .val (.int (1 : Int32)), .val (.int (2 : Int32)), .val (.int (2 : Int32)), .val (.ref bx7_0_8), .unset, .unset]) rfl ?_
    refine XS.aloadN X8.here hx rfl (hb hby d5_39) rfl rfl ?_
    refine st10 _ ?_
    show Steps p.tables e below (T10.setTop (mkF m 43 #[.val (.ref a5_0), .val (.int (1 : Int32)), .val (.int (2 : Int32)), .val (.int (2 : Int32)), .val (.ref bx7_0_8), .unset, .unset] [(.ref w_tree_a5_0)])) _
    refine X10.arraylength hx (cell := cl12) (by rw [e10]; exact Ar12.1) (State.isArrayOf_alike hZ.alike Ar12.2.1) (g := (mkF m 43 #[.val (.ref a5_0), .val (.int (1 : Int32)), .val (.int (2 : Int32)), .val (.int (2 : Int32)), .val (.ref bx7_0_8), .unset, .unset] [(.ref w_tree_a5_0)])) rfl (rest := []) rfl (hb hby d5_43) _ ?_
    rw [len_of Sz12 Nz12]
    refine XS.iconst X10.here hx rfl (hb hby d5_44) ?_
    show Steps p.tables e below (T10.setTop (mkF m 45 #[.val (.ref a5_0), .val (.int (1 : Int32)), .val (.int (2 : Int32)), .val (.int (2 : Int32)), .val (.ref bx7_0_8), .unset, .unset] [(.int (1 : Int32)), (.int (1 : Int32))])) _
    refine XS.iadd X10.here hx rfl (hb hby d5_45) rfl ?_
    refine XS.istore X10.here hx rfl (hb hby d5_46) rfl (l' := #[.val (.ref a5_0), .val (.int (1 : Int32)), .val (.int (2 : Int32)), .val (.int (2 : Int32)), .val (.ref bx7_0_8), .val (.int (2 : Int32)), .unset]) rfl ?_
    refine XS.iload X10.here hx rfl (hb hby d5_48) rfl ?_
    show Steps p.tables e below (T10.setTop (mkF m 50 #[.val (.ref a5_0), .val (.int (1 : Int32)), .val (.int (2 : Int32)), .val (.int (2 : Int32)), .val (.ref bx7_0_8), .val (.int (2 : Int32)), .unset] [(.int (2 : Int32))])) _
    refine XS.iloadN X10.here hx rfl (hb hby d5_50) rfl ?_
    show Steps p.tables e below (T10.setTop (mkF m 51 #[.val (.ref a5_0), .val (.int (1 : Int32)), .val (.int (2 : Int32)), .val (.int (2 : Int32)), .val (.ref bx7_0_8), .val (.int (2 : Int32)), .unset] [(.int (2 : Int32)), (.int (2 : Int32))])) _
    refine XS.icmpNo X10.here hx rfl (hb hby d5_51) rfl (flt (by decide : ¬ ((2 : Int32) < (2 : Int32)))).2.2.1 ?_
    refine XS.iload X10.here hx rfl (hb hby d5_54) rfl ?_
    refine XS.iload X10.here hx rfl (hb hby d5_56) rfl ?_
    show Steps p.tables e below (T10.setTop (mkF m 58 #[.val (.ref a5_0), .val (.int (1 : Int32)), .val (.int (2 : Int32)), .val (.int (2 : Int32)), .val (.ref bx7_0_8), .val (.int (2 : Int32)), .unset] [(.int (2 : Int32)), (.int (2 : Int32))])) _
    refine XS.iload X10.here hx rfl (hb hby d5_58) rfl ?_
    refine XS.ineg X10.here hx rfl (hb hby d5_60) rfl ?_
    refine XS.iand X10.here hx rfl (hb hby d5_61) rfl ?_
    show Steps p.tables e below (T10.setTop (mkF m 62 #[.val (.ref a5_0), .val (.int (1 : Int32)), .val (.int (2 : Int32)), .val (.int (2 : Int32)), .val (.ref bx7_0_8), .val (.int (2 : Int32)), .unset] [(.int (2 : Int32)), (.int (2 : Int32))])) _
    refine XS.isub X10.here hx rfl (hb hby d5_62) rfl ?_
    refine XS.istore X10.here hx rfl (hb hby d5_63) rfl (l' := #[.val (.ref a5_0), .val (.int (1 : Int32)), .val (.int (2 : Int32)), .val (.int (2 : Int32)), .val (.ref bx7_0_8), .val (.int (2 : Int32)), .val (.int (0 : Int32))]) rfl ?_
    refine XS.iload X10.here hx rfl (hb hby d5_65) rfl ?_
    show Steps p.tables e below (T10.setTop (mkF m 67 #[.val (.ref a5_0), .val (.int (1 : Int32)), .val (.int (2 : Int32)), .val (.int (2 : Int32)), .val (.ref bx7_0_8), .val (.int (2 : Int32)), .val (.int (0 : Int32))] [(.int (0 : Int32))])) _
    refine XS.aloadN X10.here hx rfl (hb hby d5_67) rfl rfl ?_
    refine st14 _ ?_
    show Steps p.tables e below (T14.setTop (mkF m 71 #[.val (.ref a5_0), .val (.int (1 : Int32)), .val (.int (2 : Int32)), .val (.int (2 : Int32)), .val (.ref bx7_0_8), .val (.int (2 : Int32)), .val (.int (0 : Int32))] [(.int (1 : Int32)), (.int (0 : Int32))])) _
    refine XS.icmpNo X14.here hx rfl (hb hby d5_71) rfl (tlt (by decide : (0 : Int32) < (1 : Int32))).2.1 ?_
    refine XS.aload X14.here hx rfl (hb hby d5_74) rfl rfl ?_
    refine XS.iload X14.here hx rfl (hb hby d5_76) rfl ?_
    show Steps p.tables e below (T14.setTop (mkF m 78 #[.val (.ref a5_0), .val (.int (1 : Int32)), .val (.int (2 : Int32)), .val (.int (2 : Int32)), .val (.ref bx7_0_8), .val (.int (2 : Int32)), .val (.int (0 : Int32))] [(.int (2 : Int32)), (.ref bx7_0_8)])) _
    refine XS.iconst X14.here hx rfl (hb hby d5_78) ?_
    refine XS.isub X14.here hx rfl (hb hby d5_79) rfl ?_
    refine XS.aloadN X14.here hx rfl (hb hby d5_80) rfl rfl ?_
    show Steps p.tables e below (T14.setTop (mkF m 81 #[.val (.ref a5_0), .val (.int (1 : Int32)), .val (.int (2 : Int32)), .val (.int (2 : Int32)), .val (.ref bx7_0_8), .val (.int (2 : Int32)), .val (.int (0 : Int32))] [(.ref a5_0), (.int (1 : Int32)), (.ref bx7_0_8)])) _
    refine st16 _ ?_
    refine XS.aloadN X16.here hx rfl (hb hby d5_84) rfl rfl ?_
    refine XS.iload X16.here hx rfl (hb hby d5_85) rfl ?_
    show Steps p.tables e below (T16.setTop (mkF m 87 #[.val (.ref a5_0), .val (.int (1 : Int32)), .val (.int (2 : Int32)), .val (.int (2 : Int32)), .val (.ref bx7_0_8), .val (.int (2 : Int32)), .val (.int (0 : Int32))] [(.int (0 : Int32)), (.ref a5_0), (.long w_total_a5_0), (.int (1 : Int32)), (.ref bx7_0_8)])) _
    refine st18.trans ?_
    refine XS.lsub X18.here hx rfl (hb hby d5_90) rfl ?_
    refine st20 _ ?_
    show Steps p.tables e below (T20.setTop (mkF m 92 #[.val (.ref a5_0), .val (.int (1 : Int32)), .val (.int (2 : Int32)), .val (.int (2 : Int32)), .val (.ref bx7_0_8), .val (.int (2 : Int32)), .val (.int (0 : Int32))] [])) _
    refine XS.iinc X20.here hx rfl (hb hby d5_92) rfl (l' := #[.val (.ref a5_0), .val (.int (1 : Int32)), .val (.int (2 : Int32)), .val (.int (2 : Int32)), .val (.ref bx7_0_8), .val (.int (3 : Int32)), .val (.int (0 : Int32))]) rfl ?_
    refine XS.goto X20.here hx rfl (pc0 := 95) (pc' := 48) rfl (hb hby d5_95) (by decide) (by decide) ?_
    refine XS.iload X20.here hx rfl (hb hby d5_48) rfl ?_
    show Steps p.tables e below (T20.setTop (mkF m 50 #[.val (.ref a5_0), .val (.int (1 : Int32)), .val (.int (2 : Int32)), .val (.int (2 : Int32)), .val (.ref bx7_0_8), .val (.int (3 : Int32)), .val (.int (0 : Int32))] [(.int (3 : Int32))])) _
    refine XS.iloadN X20.here hx rfl (hb hby d5_50) rfl ?_
    show Steps p.tables e below (T20.setTop (mkF m 51 #[.val (.ref a5_0), .val (.int (1 : Int32)), .val (.int (2 : Int32)), .val (.int (2 : Int32)), .val (.ref bx7_0_8), .val (.int (3 : Int32)), .val (.int (0 : Int32))] [(.int (2 : Int32)), (.int (3 : Int32))])) _
    refine XS.icmpYes X20.here hx rfl (pc0 := 51) (pc' := 98) rfl (hb hby d5_51) rfl (tlt (by decide : (2 : Int32) < (3 : Int32))).2.2.1 (by decide) (by decide) ?_
    refine XS.aloadN X20.here hx rfl (hb hby d5_98) rfl rfl ?_
    refine XS.aload X20.here hx rfl (hb hby d5_99) rfl rfl ?_
    show Steps p.tables e below (T20.setTop (mkF m 101 #[.val (.ref a5_0), .val (.int (1 : Int32)), .val (.int (2 : Int32)), .val (.int (2 : Int32)), .val (.ref bx7_0_8), .val (.int (3 : Int32)), .val (.int (0 : Int32))] [(.ref bx7_0_8), (.ref a5_0)])) _
    refine st23 _ ?_
    show Steps p.tables e below (T23.setTop (mkF m 104 #[.val (.ref a5_0), .val (.int (1 : Int32)), .val (.int (2 : Int32)), .val (.int (2 : Int32)), .val (.ref bx7_0_8), .val (.int (3 : Int32)), .val (.int (0 : Int32))] [])) _
    exact X23.returnOut hx Bd.returns (hb hby d5_104) hr
  · have f24 := (f21.wr W23)
    have f25 := ((f13.other W20 (Or.inl ne_a5_0_bx7_0_8)).other W23 (Or.inr (slot_ne (Or.inl (ow29 hw)) (Or.inl (ow17 hw)) (by decide) (t := .int) (t' := (.array .long)) (by decide) (by decide))))
    have f26 := ((f15.other W20 (Or.inl ne_a5_0_bx7_0_8)).other W23 (Or.inr (slot_ne (Or.inl (ow51 hw)) (Or.inl (ow17 hw)) (by decide) (t := .long) (t' := (.array .long)) (by decide) (by decide))))
    have f27 := (V20.other W23 (Ne.symm ne_a5_0_bx7_0_8))
    show Q_rm5_2 Z a5_0 w_tree_a5_0 w_total_a5_0 kc_w_tree_a5_0 t_w_tree_a5_0_0 h0 n0 _ T23.heap _
    rw [e23]
    exact ⟨bx7_0_8, kx7_0_8, rfl, N23, K23, sz_bx7_0_8, f24, F23, f25, f26, f27⟩
theorem ef_rm9_2 (m : MethodId) (y0 : Addr) (y2 : Int64) : entryFrame m #[(.ref y0), (.int (1 : Int32)), (.long y2)] 5 = mkF m 0 #[.val (.ref y0), .val (.int (1 : Int32)), .val (.long y2), .second, .unset] [] := by first | (simp [entryFrame, mkF, argsToLocals, Value.category]; done) | rfl
def Q_rm9_2 (Z : State) (a9_0 : Addr) (q9_2 : Int64) (w_tree_a9_0 : Addr) (w_total_a9_0 : Int64) (kc_w_tree_a9_0 : ClassId) (t_w_tree_a9_0_0 : Int64) (t_w_tree_a9_0_1 : Int64) (h0 : Heap) (n0 : Nat) (v : Option Value) (h : Heap) (L : List Loc) : Prop := v = none ∧ Fr n0 L ∧ Keep h0 h [a9_0, w_tree_a9_0] ∧ Exa Z h a9_0 "com/example/motley/motley/CountTree" ∧ Fld Z h a9_0 "com/example/motley/motley/CountTree" "tree" "[J" (.ref w_tree_a9_0) ∧ Fld Z h a9_0 "com/example/motley/motley/CountTree" "size" "I" (.int (2 : Int32)) ∧ Fld Z h a9_0 "com/example/motley/motley/CountTree" "total" "J" (.long (w_total_a9_0 + q9_2)) ∧ Arv Z h w_tree_a9_0 kc_w_tree_a9_0 .long (2 : Int32) [(.long t_w_tree_a9_0_0), (.long (t_w_tree_a9_0_1 + q9_2))] (.long (0 : Int64))
set_option maxRecDepth 65536 in
set_option maxHeartbeats 40000000 in
theorem rm9_2 (l : Launch) (Z : State) (a0 : Array Value) (hw : ∀ d ∈ tables_1, d.before a0 Z = true) (ws : List Jvm.Cond) (a9_0 : Addr) (q9_2 : Int64) (w_tree_a9_0 : Addr) (w_total_a9_0 : Int64) (kc_w_tree_a9_0 : ClassId) (t_w_tree_a9_0_0 : Int64) (t_w_tree_a9_0_1 : Int64) (h0 : Heap) (n0 : Nat) (Z0 : n0 ≤ h0.size) (E_a9_0 : Exa Z h0 a9_0 "com/example/motley/motley/CountTree") (F_tree_a9_0 : Fld Z h0 a9_0 "com/example/motley/motley/CountTree" "tree" "[J" (.ref w_tree_a9_0)) (F_size_a9_0 : Fld Z h0 a9_0 "com/example/motley/motley/CountTree" "size" "I" (.int (2 : Int32))) (F_total_a9_0 : Fld Z h0 a9_0 "com/example/motley/motley/CountTree" "total" "J" (.long w_total_a9_0)) (V_w_tree_a9_0 : Arv Z h0 w_tree_a9_0 kc_w_tree_a9_0 .long (2 : Int32) [(.long t_w_tree_a9_0_0), (.long t_w_tree_a9_0_1)] (.long (0 : Int64))) (g_a9_0 : n0 ≤ a9_0) (ne_w_tree_a9_0_a9_0 : w_tree_a9_0 ≠ a9_0) (g_w_tree_a9_0 : n0 ≤ w_tree_a9_0) :
    MetFree l (⟨"com/example/motley/motley/CountTree", "add", "(IJ)V"⟩ : MethodName) (head1 (Jvm.Cond.code (⟨"com/example/motley/motley/CountTree", "add", "(IJ)V"⟩ : MethodName) prog_14_method_7_code 5 none :: ws) ({ frames := 0, cells := 0, slots := 0, locals := 0 } : Room)) (fun a U => a = #[(.ref a9_0), (.int (1 : Int32)), (.long q9_2)] ∧ Z.Warmed39 U.vm ∧ U.heap = h0) (fun _ _ _ _ _ => True) (fun _ U o U' => ∃ v L, o = .returned v ∧ Q_rm9_2 Z a9_0 q9_2 w_tree_a9_0 w_total_a9_0 kc_w_tree_a9_0 t_w_tree_a9_0_0 t_w_tree_a9_0_1 h0 n0 v U'.heap L ∧ FrameEnd U o U' L ({ frames := 0, cells := 0, slots := 0, locals := 0 } : Room).cells ({ frames := 0, cells := 0, slots := 0, locals := 0 } : Room).slots) := by
  refine MetFree.of_bodySF (plainFor_of_name pn_9) hisR ?_
  intro p e s m args below meth c s₁ Bd hml0 hP hK
  obtain ⟨rfl, hZ, hh⟩ := hP
  have hx := Bd.exec
  have hby := Bd.bytes
  have hml : c.maxLocals = 5 := hml0
  have hown : s.vm.findClass "com/example/motley/motley/CountTree" = some m.cls := findClass_of_methodNamed Bd.named
  have hnm := (name_of_methodNamed Bd.named Bd.method).1
  have X0 : Stand p l e ({ frames := 0, cells := 0, slots := 0, locals := 0 } : Room) s m #[(.ref a9_0), (.int (1 : Int32)), (.long q9_2)] below meth c s₁ [] 0 0 := Stand.of_body Bd
  have e0 : s₁.heap = h0 := by rw [← hh, Bd.state]; rfl
  have N0 := Fr.nil n0
  have pre0 : ∀ t, Steps p.tables e below (s₁.setTop (mkF m 0 #[.val (.ref a9_0), .val (.int (1 : Int32)), .val (.long q9_2), .second, .unset] [])) t → Steps p.tables e below (s₁.setTop (entryFrame m #[(.ref a9_0), (.int (1 : Int32)), (.long q9_2)] 5)) t := fun t k => castTop (ef_rm9_2 m a9_0 q9_2) k
  obtain ⟨T1, X1, e1, st1⟩ := getF X0 hx hZ hown (host := "") (Or.inl (ow50 hw)) Via.refl e0 F_total_a9_0 (g := (mkF m 2 #[.val (.ref a9_0), .val (.int (1 : Int32)), .val (.long q9_2), .second, .unset] [(.ref a9_0), (.ref a9_0)])) rfl rfl (hb hby d9_2)
  obtain ⟨T2, h2, X2, e2, W2, st2⟩ := putF X1 hx hZ hown (host := "") (Or.inl (ow50 hw)) Via.refl e1 F_total_a9_0 E_a9_0 (Or.inl (ow51 hw)) (ow7 hw) (ty := .long) (by decide) rfl rfl (g := (mkF m 7 #[.val (.ref a9_0), .val (.int (1 : Int32)), .val (.long q9_2), .second, .unset] [(.long (w_total_a9_0 + q9_2)), (.ref a9_0)])) rfl rfl (hb hby d9_7)
  have F2 := F_total_a9_0.same W2
  have K2 : Keep h0 h2 [a9_0, w_tree_a9_0] := (Keep.refl h0 [a9_0, w_tree_a9_0]).wr W2 (Or.inl (List.mem_of_getElem? (i := 0) rfl))
  have Z2 : n0 ≤ h2.size := Nat.le_trans Z0 K2.1
  have N2 := Fr.snoc X2 N0 g_a9_0
  have f3 := (F_tree_a9_0.other W2 (Or.inr (slot_ne (Or.inl (ow17 hw)) (Or.inl (ow51 hw)) (by decide) (t := (.array .long)) (t' := .long) (by decide) (by decide))))
  obtain ⟨T4, X4, e4, st4⟩ := getF X2 hx hZ hown (host := "") (Or.inl (ow16 hw)) Via.refl e2 f3 (g := (mkF m 18 #[.val (.ref a9_0), .val (.int (1 : Int32)), .val (.long q9_2), .second, .val (.int (2 : Int32))] [(.ref a9_0), (.int (2 : Int32))])) rfl rfl (hb hby d9_18)
  have f5 := (V_w_tree_a9_0.other W2 ne_w_tree_a9_0_a9_0)
  obtain ⟨cl6, Ar6, qk6, Sz6, Nz6, Hh6, Gf6⟩ := id f5
  obtain ⟨T7, X7, e7, st7⟩ := getF X4 hx hZ hown (host := "") (Or.inl (ow16 hw)) Via.refl e4 f3 (g := (mkF m 26 #[.val (.ref a9_0), .val (.int (1 : Int32)), .val (.long q9_2), .second, .val (.int (2 : Int32))] [(.ref a9_0)])) rfl rfl (hb hby d9_26)
  obtain ⟨cl8, Ar8, qk8, Sz8, Nz8, Hh8, Gf8⟩ := id f5
  obtain ⟨cl9, Ar9, qk9, Sz9, Nz9, Hh9, Gf9⟩ := id f5
  obtain ⟨T10, h10, X10, e10, W10, st10⟩ := stJ X7 hx hZ e7 Ar9 (j := (1 : Int32)) (inb_of Sz9 ⟨by decide, by decide⟩) (g := (mkF m 37 #[.val (.ref a9_0), .val (.int (1 : Int32)), .val (.long q9_2), .second, .val (.int (2 : Int32))] [(.long (t_w_tree_a9_0_1 + q9_2)), (.int (1 : Int32)), (.ref w_tree_a9_0)])) rfl rfl (hb hby d9_37)
  have V10 : Arv Z h10 w_tree_a9_0 kc_w_tree_a9_0 .long (2 : Int32) [(.long t_w_tree_a9_0_0), (.long (t_w_tree_a9_0_1 + q9_2))] (.long (0 : Int64)) := Arv.set Ar9 qk9 Sz9 Nz9 Hh9 Gf9 rfl W10 1 rfl (Nat.le_of_ble_eq_true rfl)
  have K10 : Keep h0 h10 [a9_0, w_tree_a9_0] := K2.wr W10 (Or.inl (List.mem_of_getElem? (i := 1) rfl))
  have Z10 : n0 ≤ h10.size := Nat.le_trans Z0 K10.1
  have N10 := Fr.snoc X10 N2 g_w_tree_a9_0
  have f11 := (f3.other W10 (Or.inl (Ne.symm ne_w_tree_a9_0_a9_0)))
  obtain ⟨T12, X12, e12, st12⟩ := getF X10 hx hZ hown (host := "") (Or.inl (ow16 hw)) Via.refl e10 f11 (g := (mkF m 18 #[.val (.ref a9_0), .val (.int (1 : Int32)), .val (.long q9_2), .second, .val (.int (4 : Int32))] [(.ref a9_0), (.int (4 : Int32))])) rfl rfl (hb hby d9_18)
  obtain ⟨cl13, Ar13, qk13, Sz13, Nz13, Hh13, Gf13⟩ := id V10
  obtain ⟨fs, hr, hrun, hended, hW, hsame⟩ := X12.leave (v := none) (fun _ => rfl)
  refine ⟨_, _, pre0 _ ?_, hrun, hended, _, _, rfl, ?_, ⟨_, rfl⟩, hW, hsame.mono (by decide) (by decide)⟩
  · show Steps p.tables e below (s₁.setTop (mkF m 0 #[.val (.ref a9_0), .val (.int (1 : Int32)), .val (.long q9_2), .second, .unset] [])) _
    refine XS.aloadN X0.here hx rfl (hb hby d9_0) rfl rfl ?_
    refine XS.dup X0.here hx rfl (hb hby d9_1) rfl rfl ?_
    refine st1 _ ?_
    show Steps p.tables e below (T1.setTop (mkF m 5 #[.val (.ref a9_0), .val (.int (1 : Int32)), .val (.long q9_2), .second, .unset] [(.long w_total_a9_0), (.ref a9_0)])) _
    refine XS.lloadN X1.here hx rfl (hb hby d9_5) rfl ?_
    refine XS.ladd X1.here hx rfl (hb hby d9_6) rfl ?_
    refine st2 _ ?_
    show Steps p.tables e below (T2.setTop (mkF m 10 #[.val (.ref a9_0), .val (.int (1 : Int32)), .val (.long q9_2), .second, .unset] [])) _
    refine XS.iloadN X2.here hx rfl (hb hby d9_10) rfl ?_
    refine XS.iconst X2.here hx rfl (hb hby d9_11) ?_
    refine XS.iadd X2.here hx rfl (hb hby d9_12) rfl ?_
    show Steps p.tables e below (T2.setTop (mkF m 13 #[.val (.ref a9_0), .val (.int (1 : Int32)), .val (.long q9_2), .second, .unset] [(.int (2 : Int32))])) _
    refine XS.istore X2.here hx rfl (hb hby d9_13) rfl (l' := #[.val (.ref a9_0), .val (.int (1 : Int32)), .val (.long q9_2), .second, .val (.int (2 : Int32))]) rfl ?_
    refine XS.iload X2.here hx rfl (hb hby d9_15) rfl ?_
    refine XS.aloadN X2.here hx rfl (hb hby d9_17) rfl rfl ?_
    show Steps p.tables e below (T2.setTop (mkF m 18 #[.val (.ref a9_0), .val (.int (1 : Int32)), .val (.long q9_2), .second, .val (.int (2 : Int32))] [(.ref a9_0), (.int (2 : Int32))])) _
    refine st4 _ ?_
    show Steps p.tables e below (T4.setTop (mkF m 21 #[.val (.ref a9_0), .val (.int (1 : Int32)), .val (.long q9_2), .second, .val (.int (2 : Int32))] [(.ref w_tree_a9_0), (.int (2 : Int32))])) _
    refine X4.arraylength hx (cell := cl6) (by rw [e4]; exact Ar6.1) (State.isArrayOf_alike hZ.alike Ar6.2.1) (g := (mkF m 21 #[.val (.ref a9_0), .val (.int (1 : Int32)), .val (.long q9_2), .second, .val (.int (2 : Int32))] [(.ref w_tree_a9_0), (.int (2 : Int32))])) rfl (rest := [(.int (2 : Int32))]) rfl (hb hby d9_21) _ ?_
    rw [len_of Sz6 Nz6]
    show Steps p.tables e below (T4.setTop (mkF m 22 #[.val (.ref a9_0), .val (.int (1 : Int32)), .val (.long q9_2), .second, .val (.int (2 : Int32))] [(.int (2 : Int32)), (.int (2 : Int32))])) _
    refine XS.icmpNo X4.here hx rfl (hb hby d9_22) rfl (flt (by decide : ¬ ((2 : Int32) < (2 : Int32)))).2.2.1 ?_
    refine XS.aloadN X4.here hx rfl (hb hby d9_25) rfl rfl ?_
    refine st7 _ ?_
    show Steps p.tables e below (T7.setTop (mkF m 29 #[.val (.ref a9_0), .val (.int (1 : Int32)), .val (.long q9_2), .second, .val (.int (2 : Int32))] [(.ref w_tree_a9_0)])) _
    refine XS.iload X7.here hx rfl (hb hby d9_29) rfl ?_
    refine XS.iconst X7.here hx rfl (hb hby d9_31) ?_
    refine XS.isub X7.here hx rfl (hb hby d9_32) rfl ?_
    show Steps p.tables e below (T7.setTop (mkF m 33 #[.val (.ref a9_0), .val (.int (1 : Int32)), .val (.long q9_2), .second, .val (.int (2 : Int32))] [(.int (1 : Int32)), (.ref w_tree_a9_0)])) _
    jvm_step X7.here [X7.here.top, hx, (hb hby d9_33), Value.category]
    refine X7.laload hx (j := (1 : Int32)) (v := (.long t_w_tree_a9_0_1)) (by rw [e7]; exact Ar8.1) (State.isArrayOf_alike hZ.alike Ar8.2.1) Ar8.2.2 (inb_of Sz8 ⟨by decide, by decide⟩) (Hh8.at (inb_of Sz8 ⟨by decide, by decide⟩) rfl) (g := (mkF m 34 #[.val (.ref a9_0), .val (.int (1 : Int32)), .val (.long q9_2), .second, .val (.int (2 : Int32))] [(.int (1 : Int32)), (.ref w_tree_a9_0), (.int (1 : Int32)), (.ref w_tree_a9_0)])) rfl rfl (hb hby d9_34) _ ?_
    refine XS.lloadN X7.here hx rfl (hb hby d9_35) rfl ?_
    show Steps p.tables e below (T7.setTop (mkF m 36 #[.val (.ref a9_0), .val (.int (1 : Int32)), .val (.long q9_2), .second, .val (.int (2 : Int32))] [(.long q9_2), (.long t_w_tree_a9_0_1), (.int (1 : Int32)), (.ref w_tree_a9_0)])) _
    refine XS.ladd X7.here hx rfl (hb hby d9_36) rfl ?_
    refine st10 _ ?_
    refine XS.iload X10.here hx rfl (hb hby d9_38) rfl ?_
    show Steps p.tables e below (T10.setTop (mkF m 40 #[.val (.ref a9_0), .val (.int (1 : Int32)), .val (.long q9_2), .second, .val (.int (2 : Int32))] [(.int (2 : Int32))])) _
    refine XS.iload X10.here hx rfl (hb hby d9_40) rfl ?_
    refine XS.iload X10.here hx rfl (hb hby d9_42) rfl ?_
    refine XS.ineg X10.here hx rfl (hb hby d9_44) rfl ?_
    show Steps p.tables e below (T10.setTop (mkF m 45 #[.val (.ref a9_0), .val (.int (1 : Int32)), .val (.long q9_2), .second, .val (.int (2 : Int32))] [(.int (-2 : Int32)), (.int (2 : Int32)), (.int (2 : Int32))])) _
    refine XS.iand X10.here hx rfl (hb hby d9_45) rfl ?_
    refine XS.iadd X10.here hx rfl (hb hby d9_46) rfl ?_
    refine XS.istore X10.here hx rfl (hb hby d9_47) rfl (l' := #[.val (.ref a9_0), .val (.int (1 : Int32)), .val (.long q9_2), .second, .val (.int (4 : Int32))]) rfl ?_
    show Steps p.tables e below (T10.setTop (mkF m 49 #[.val (.ref a9_0), .val (.int (1 : Int32)), .val (.long q9_2), .second, .val (.int (4 : Int32))] [])) _
    refine XS.goto X10.here hx rfl (pc0 := 49) (pc' := 15) rfl (hb hby d9_49) (by decide) (by decide) ?_
    refine XS.iload X10.here hx rfl (hb hby d9_15) rfl ?_
    refine XS.aloadN X10.here hx rfl (hb hby d9_17) rfl rfl ?_
    show Steps p.tables e below (T10.setTop (mkF m 18 #[.val (.ref a9_0), .val (.int (1 : Int32)), .val (.long q9_2), .second, .val (.int (4 : Int32))] [(.ref a9_0), (.int (4 : Int32))])) _
    refine st12 _ ?_
    show Steps p.tables e below (T12.setTop (mkF m 21 #[.val (.ref a9_0), .val (.int (1 : Int32)), .val (.long q9_2), .second, .val (.int (4 : Int32))] [(.ref w_tree_a9_0), (.int (4 : Int32))])) _
    refine X12.arraylength hx (cell := cl13) (by rw [e12]; exact Ar13.1) (State.isArrayOf_alike hZ.alike Ar13.2.1) (g := (mkF m 21 #[.val (.ref a9_0), .val (.int (1 : Int32)), .val (.long q9_2), .second, .val (.int (4 : Int32))] [(.ref w_tree_a9_0), (.int (4 : Int32))])) rfl (rest := [(.int (4 : Int32))]) rfl (hb hby d9_21) _ ?_
    rw [len_of Sz13 Nz13]
    show Steps p.tables e below (T12.setTop (mkF m 22 #[.val (.ref a9_0), .val (.int (1 : Int32)), .val (.long q9_2), .second, .val (.int (4 : Int32))] [(.int (2 : Int32)), (.int (4 : Int32))])) _
    refine XS.icmpYes X12.here hx rfl (pc0 := 22) (pc' := 52) rfl (hb hby d9_22) rfl (tlt (by decide : (2 : Int32) < (4 : Int32))).2.2.1 (by decide) (by decide) ?_
    show Steps p.tables e below (T12.setTop (mkF m 52 #[.val (.ref a9_0), .val (.int (1 : Int32)), .val (.long q9_2), .second, .val (.int (4 : Int32))] [])) _
    exact X12.returnOut hx Bd.returns (hb hby d9_52) hr
  · have f14 := ((E_a9_0.wr W2).wr W10)
    have f15 := ((F_size_a9_0.other W2 (Or.inr (slot_ne (Or.inl (ow29 hw)) (Or.inl (ow51 hw)) (by decide) (t := .int) (t' := .long) (by decide) (by decide)))).other W10 (Or.inl (Ne.symm ne_w_tree_a9_0_a9_0)))
    have f16 := (F2.other W10 (Or.inl (Ne.symm ne_w_tree_a9_0_a9_0)))
    show Q_rm9_2 Z a9_0 q9_2 w_tree_a9_0 w_total_a9_0 kc_w_tree_a9_0 t_w_tree_a9_0_0 t_w_tree_a9_0_1 h0 n0 _ T12.heap _
    rw [e12]
    exact ⟨rfl, N10, K10, f14, f11, f15, f16, V10⟩
theorem ef_rm4_2 (m : MethodId) (y0 : Addr) (y1 : Int64) : entryFrame m #[(.ref y0), (.long y1)] 3 = mkF m 0 #[.val (.ref y0), .val (.long y1), .second] [] := by first | (simp [entryFrame, mkF, argsToLocals, Value.category]; done) | rfl
def Q_rm4_2 (Z : State) (a4_0 : Addr) (q4_1 : Int64) (w_tree_a4_0 : Addr) (w_total_a4_0 : Int64) (kc_w_tree_a4_0 : ClassId) (t_w_tree_a4_0_0 : Int64) (h0 : Heap) (n0 : Nat) (v : Option Value) (h : Heap) (L : List Loc) : Prop := ∃ bx4_0 : Addr, ∃ kx4_0 : ClassId, v = none ∧ Fr n0 L ∧ Keep h0 h [a4_0] ∧ h0.size ≤ bx4_0 ∧ Exa Z h a4_0 "com/example/motley/motley/CountTree" ∧ Fld Z h a4_0 "com/example/motley/motley/CountTree" "tree" "[J" (.ref bx4_0) ∧ Fld Z h a4_0 "com/example/motley/motley/CountTree" "size" "I" (.int (2 : Int32)) ∧ Fld Z h a4_0 "com/example/motley/motley/CountTree" "total" "J" (.long (w_total_a4_0 + q4_1)) ∧ Arv Z h bx4_0 kx4_0 .long (2 : Int32) [(.long t_w_tree_a4_0_0), (.long ((w_total_a4_0 - (0 : Int64)) + q4_1))] (.long (0 : Int64))
set_option maxRecDepth 65536 in
set_option maxHeartbeats 40000000 in
theorem rm4_2 (l : Launch) (Z : State) (a0 : Array Value) (hw : ∀ d ∈ tables_1, d.before a0 Z = true) (ws : List Jvm.Cond) (a4_0 : Addr) (q4_1 : Int64) (w_tree_a4_0 : Addr) (w_total_a4_0 : Int64) (kc_w_tree_a4_0 : ClassId) (t_w_tree_a4_0_0 : Int64) (h0 : Heap) (n0 : Nat) (Z0 : n0 ≤ h0.size) (E_a4_0 : Exa Z h0 a4_0 "com/example/motley/motley/CountTree") (F_tree_a4_0 : Fld Z h0 a4_0 "com/example/motley/motley/CountTree" "tree" "[J" (.ref w_tree_a4_0)) (F_size_a4_0 : Fld Z h0 a4_0 "com/example/motley/motley/CountTree" "size" "I" (.int (1 : Int32))) (F_total_a4_0 : Fld Z h0 a4_0 "com/example/motley/motley/CountTree" "total" "J" (.long w_total_a4_0)) (V_w_tree_a4_0 : Arv Z h0 w_tree_a4_0 kc_w_tree_a4_0 .long (1 : Int32) [(.long t_w_tree_a4_0_0)] (.long (0 : Int64))) (g_a4_0 : n0 ≤ a4_0) :
    MetFree l (⟨"com/example/motley/motley/CountTree", "append", "(J)V"⟩ : MethodName) (head1 (Jvm.Cond.code (⟨"com/example/motley/motley/CountTree", "append", "(J)V"⟩ : MethodName) prog_14_method_4_code 3 none :: ws) ({ frames := 3, cells := 1, slots := 2, locals := 50 } : Room)) (fun a U => a = #[(.ref a4_0), (.long q4_1)] ∧ Z.Warmed39 U.vm ∧ U.heap = h0) (fun _ _ _ _ _ => True) (fun _ U o U' => ∃ v L, o = .returned v ∧ Q_rm4_2 Z a4_0 q4_1 w_tree_a4_0 w_total_a4_0 kc_w_tree_a4_0 t_w_tree_a4_0_0 h0 n0 v U'.heap L ∧ FrameEnd U o U' L ({ frames := 3, cells := 1, slots := 2, locals := 50 } : Room).cells ({ frames := 3, cells := 1, slots := 2, locals := 50 } : Room).slots) := by
  refine MetFree.of_bodySF (plainFor_of_name pn_4) hisR ?_
  intro p e s m args below meth c s₁ Bd hml0 hP hK
  obtain ⟨rfl, hZ, hh⟩ := hP
  have hx := Bd.exec
  have hby := Bd.bytes
  have hml : c.maxLocals = 3 := hml0
  have hown : s.vm.findClass "com/example/motley/motley/CountTree" = some m.cls := findClass_of_methodNamed Bd.named
  have hnm := (name_of_methodNamed Bd.named Bd.method).1
  have X0 : Stand p l e ({ frames := 3, cells := 1, slots := 2, locals := 50 } : Room) s m #[(.ref a4_0), (.long q4_1)] below meth c s₁ [] 0 0 := Stand.of_body Bd
  have e0 : s₁.heap = h0 := by rw [← hh, Bd.state]; rfl
  have N0 := Fr.nil n0
  have pre0 : ∀ t, Steps p.tables e below (s₁.setTop (mkF m 0 #[.val (.ref a4_0), .val (.long q4_1), .second] [])) t → Steps p.tables e below (s₁.setTop (entryFrame m #[(.ref a4_0), (.long q4_1)] 3)) t := fun t k => castTop (ef_rm4_2 m a4_0 q4_1) k
  obtain ⟨cq1, kq1, q1a, q1b, q1c⟩ := isOf hZ e0 E_a4_0
  obtain ⟨_, _, ⟨T1, L1, k1, n1⟩, -, X1, ⟨Lc1, hQ1, l1, y1, z1⟩, st1⟩ := X0.virtualBack hx (y := (⟨"com/example/motley/motley/CountTree", "reserve", "(I)V"⟩ : MethodName)) (z := (⟨"com/example/motley/motley/CountTree", "reserve", "(I)V"⟩ : MethodName)) hown (mvT hZ (ow23 hw)) (mvT hZ (ow24 hw)) (notFace_of_selects (args := #[]) (mvT hZ (ow26 hw))) (mvT hZ (ow26 hw)) (mvT hZ (ow25 hw)) (by decide) (backOf (W := 0) (rm5_2 l Z a0 hw [] a4_0 w_tree_a4_0 w_total_a4_0 kc_w_tree_a4_0 t_w_tree_a4_0_0 h0 n0 Z0 E_a4_0 F_tree_a4_0 F_size_a4_0 F_total_a4_0 V_w_tree_a4_0 g_a4_0) hZ (ow27 hw) (ow8 hw) (by decide) (by decide)) q1a q1c (g := (mkF m 2 #[.val (.ref a4_0), .val (.long q4_1), .second] [(.int (1 : Int32)), (.ref a4_0)])) rfl (by rw [hml]; rfl) (Steps.refl _) (argsL := [(.int (1 : Int32))]) (rest := []) (lenOf pd__I_V rfl) rfl (by show 2 * 0 + _ ≤ _; exact Nat.le_of_eq rfl) (hb hby d4_2) (fun _ _ => ⟨rfl, e0, (by decide : 0 + 1 ≤ _), (by decide : 0 + 2 ≤ _)⟩)
  dsimp only [Pt.U, Pt.locs, Pt.cells, Pt.slots] at X1 l1 y1 z1 st1 hQ1
  subst l1 y1 z1
  obtain ⟨bx5_0_1, kx5_0_1, rfl, Nq1, Kc1, P1_0, P1_1, P1_2, P1_3, P1_4, P1_5⟩ := hQ1
  have K1 : Keep h0 T1.heap [a4_0] := Keep.trans (Keep.refl h0 [a4_0]) Kc1 (allS (P := fun x => x ∈ ([a4_0] : List Addr) ∨ h0.size ≤ x) (Or.inl (List.mem_of_getElem? (i := 0) rfl)) all0)
  have Z1 : n0 ≤ T1.heap.size := Nat.le_trans Z0 K1.1
  have g_bx5_0_1 : n0 ≤ bx5_0_1 := Nat.le_trans Z0 P1_0
  have sz_bx5_0_1 : h0.size ≤ bx5_0_1 := Nat.le_trans (Nat.le_refl _) P1_0
  have ne_a4_0_bx5_0_1 : a4_0 ≠ bx5_0_1 := Nat.ne_of_lt (Nat.lt_of_lt_of_le E_a4_0.lt P1_0)
  have ne_w_tree_a4_0_bx5_0_1 : w_tree_a4_0 ≠ bx5_0_1 := Nat.ne_of_lt (Nat.lt_of_lt_of_le V_w_tree_a4_0.lt P1_0)
  obtain ⟨y2, hy2⟩ : ∃ z : Int64, z = (w_total_a4_0 - (0 : Int64)) := ⟨_, rfl⟩
  rw [← hy2] at P1_5
  have N1 := Fr.app N0 Nq1
  obtain ⟨T3, X3, e3, st3⟩ := getF X1 hx hZ hown (host := "") (Or.inl (ow28 hw)) Via.refl rfl P1_3 (g := (mkF m 7 #[.val (.ref a4_0), .val (.long q4_1), .second] [(.ref a4_0), (.ref a4_0)])) rfl rfl (hb hby d4_7)
  obtain ⟨T4, h4, X4, e4, W4, st4⟩ := putF X3 hx hZ hown (host := "") (Or.inl (ow28 hw)) Via.refl e3 P1_3 P1_1 (Or.inl (ow29 hw)) (ow7 hw) (ty := .int) (by decide) rfl rfl (g := (mkF m 12 #[.val (.ref a4_0), .val (.long q4_1), .second] [(.int (2 : Int32)), (.ref a4_0)])) rfl rfl (hb hby d4_12)
  have F4 := P1_3.same W4
  have K4 : Keep h0 h4 [a4_0] := K1.wr W4 (Or.inl (List.mem_of_getElem? (i := 0) rfl))
  have Z4 : n0 ≤ h4.size := Nat.le_trans Z0 K4.1
  have N4 := Fr.snoc X4 N1 g_a4_0
  obtain ⟨T5, X5, e5, st5⟩ := getF X4 hx hZ hown (host := "") (Or.inl (ow28 hw)) Via.refl e4 F4 (g := (mkF m 17 #[.val (.ref a4_0), .val (.long q4_1), .second] [(.ref a4_0), (.ref a4_0)])) rfl rfl (hb hby d4_17)
  have f6 := (P1_5.other W4 (Ne.symm ne_a4_0_bx5_0_1))
  have f7 := (P1_1.wr W4)
  have f8 := (P1_2.other W4 (Or.inr (slot_ne (Or.inl (ow17 hw)) (Or.inl (ow29 hw)) (by decide) (t := (.array .long)) (t' := .int) (by decide) (by decide))))
  have f9 := (P1_4.other W4 (Or.inr (slot_ne (Or.inl (ow51 hw)) (Or.inl (ow29 hw)) (by decide) (t := .long) (t' := .int) (by decide) (by decide))))
  obtain ⟨cq10, kq10, q10a, q10b, q10c⟩ := isOf hZ e5 f7
  obtain ⟨_, _, ⟨T10, L10, k10, n10⟩, -, X10, ⟨Lc10, hQ10, l10, y10, z10⟩, st10⟩ := X5.virtualBack hx (y := (⟨"com/example/motley/motley/CountTree", "add", "(IJ)V"⟩ : MethodName)) (z := (⟨"com/example/motley/motley/CountTree", "add", "(IJ)V"⟩ : MethodName)) hown (mvT hZ (ow45 hw)) (mvT hZ (ow46 hw)) (notFace_of_selects (args := #[]) (mvT hZ (ow48 hw))) (mvT hZ (ow48 hw)) (mvT hZ (ow47 hw)) (by decide) (backOf (W := 0) (rm9_2 l Z a0 hw [] a4_0 q4_1 bx5_0_1 w_total_a4_0 kx5_0_1 t_w_tree_a4_0_0 y2 h4 n0 Z4 f7 f8 F4 f9 f6 g_a4_0 (Ne.symm ne_a4_0_bx5_0_1) g_bx5_0_1) hZ (ow49 hw) (ow8 hw) (by decide) (by decide)) q10a q10c (g := (mkF m 23 #[.val (.ref a4_0), .val (.long q4_1), .second] [(.long q4_1), (.int (1 : Int32)), (.ref a4_0)])) rfl (by rw [hml]; rfl) (Steps.refl _) (argsL := [(.int (1 : Int32)), (.long q4_1)]) (rest := []) (lenOf pd__IJ_V rfl) rfl (by show 2 * 0 + _ ≤ _; exact Nat.le_of_eq rfl) (hb hby d4_23) (fun _ _ => ⟨rfl, e5, (by decide : 1 + 0 ≤ _), (by decide : 2 + 0 ≤ _)⟩)
  dsimp only [Pt.U, Pt.locs, Pt.cells, Pt.slots] at X10 l10 y10 z10 st10 hQ10
  subst l10 y10 z10
  obtain ⟨rfl, Nq10, Kc10, P10_0, P10_1, P10_2, P10_3, P10_4⟩ := hQ10
  have K10 : Keep h0 T10.heap [a4_0] := Keep.trans K4 Kc10 (allS (P := fun x => x ∈ ([a4_0] : List Addr) ∨ h0.size ≤ x) (Or.inl (List.mem_of_getElem? (i := 0) rfl)) (allS (P := fun x => x ∈ ([a4_0] : List Addr) ∨ h0.size ≤ x) (Or.inr sz_bx5_0_1) all0))
  have Z10 : n0 ≤ T10.heap.size := Nat.le_trans Z0 K10.1
  obtain ⟨y11, hy11⟩ : ∃ z : Int64, z = (w_total_a4_0 + q4_1) := ⟨_, rfl⟩
  rw [← hy11] at P10_3
  obtain ⟨y12, hy12⟩ : ∃ z : Int64, z = (y2 + q4_1) := ⟨_, rfl⟩
  rw [← hy12] at P10_4
  have N10 := Fr.app N4 Nq10
  obtain ⟨fs, hr, hrun, hended, hW, hsame⟩ := X10.leave (v := none) (fun _ => rfl)
  refine ⟨_, _, pre0 _ ?_, hrun, hended, _, _, rfl, ?_, ⟨_, rfl⟩, hW, hsame.mono (by decide) (by decide)⟩
  · show Steps p.tables e below (s₁.setTop (mkF m 0 #[.val (.ref a4_0), .val (.long q4_1), .second] [])) _
    refine XS.aloadN X0.here hx rfl (hb hby d4_0) rfl rfl ?_
    refine XS.iconst X0.here hx rfl (hb hby d4_1) ?_
    refine st1.trans ?_
    show Steps p.tables e below (T1.setTop (mkF m 5 #[.val (.ref a4_0), .val (.long q4_1), .second] [])) _
    refine XS.aloadN X1.here hx rfl (hb hby d4_5) rfl rfl ?_
    refine XS.dup X1.here hx rfl (hb hby d4_6) rfl rfl ?_
    refine st3 _ ?_
    show Steps p.tables e below (T3.setTop (mkF m 10 #[.val (.ref a4_0), .val (.long q4_1), .second] [(.int (1 : Int32)), (.ref a4_0)])) _
    refine XS.iconst X3.here hx rfl (hb hby d4_10) ?_
    refine XS.iadd X3.here hx rfl (hb hby d4_11) rfl ?_
    refine st4 _ ?_
    show Steps p.tables e below (T4.setTop (mkF m 15 #[.val (.ref a4_0), .val (.long q4_1), .second] [])) _
    refine XS.aloadN X4.here hx rfl (hb hby d4_15) rfl rfl ?_
    refine XS.aloadN X4.here hx rfl (hb hby d4_16) rfl rfl ?_
    refine st5 _ ?_
    show Steps p.tables e below (T5.setTop (mkF m 20 #[.val (.ref a4_0), .val (.long q4_1), .second] [(.int (2 : Int32)), (.ref a4_0)])) _
    refine XS.iconst X5.here hx rfl (hb hby d4_20) ?_
    refine XS.isub X5.here hx rfl (hb hby d4_21) rfl ?_
    refine XS.lloadN X5.here hx rfl (hb hby d4_22) rfl ?_
    show Steps p.tables e below (T5.setTop (mkF m 23 #[.val (.ref a4_0), .val (.long q4_1), .second] [(.long q4_1), (.int (1 : Int32)), (.ref a4_0)])) _
    refine st10.trans ?_
    show Steps p.tables e below (T10.setTop (mkF m 26 #[.val (.ref a4_0), .val (.long q4_1), .second] [])) _
    exact X10.returnOut hx Bd.returns (hb hby d4_26) hr
  · show Q_rm4_2 Z a4_0 q4_1 w_tree_a4_0 w_total_a4_0 kc_w_tree_a4_0 t_w_tree_a4_0_0 h0 n0 _ T10.heap _
    subst hy12
    subst hy11
    subst hy2
    exact ⟨bx5_0_1, kx5_0_1, rfl, N10, K10, sz_bx5_0_1, P10_0, P10_1, P10_2, P10_3, P10_4⟩
theorem d6_9 : decode jdk_29_method_65_code 9 = .ok (.iload_n 1, 1) := by decide +kernel
theorem ef_rm6_3 (m : MethodId)  : entryFrame m #[(.int (3 : Int32)), (.int (4 : Int32))] 2 = mkF m 0 #[.val (.int (3 : Int32)), .val (.int (4 : Int32))] [] := by first | (simp [entryFrame, mkF, argsToLocals, Value.category]; done) | rfl
def Q_rm6_3 (Z : State)  (h0 : Heap) (n0 : Nat) (v : Option Value) (h : Heap) (L : List Loc) : Prop := v = some (.int (4 : Int32)) ∧ Fr n0 L ∧ h = h0
set_option maxRecDepth 65536 in
set_option maxHeartbeats 40000000 in
theorem rm6_3 (l : Launch) (Z : State) (a0 : Array Value) (hw : ∀ d ∈ tables_1, d.before a0 Z = true) (ws : List Jvm.Cond)  (h0 : Heap) (n0 : Nat) (Z0 : n0 ≤ h0.size) :
    MetFree l (⟨"java/lang/Math", "max", "(II)I"⟩ : MethodName) (head1 (Jvm.Cond.code (⟨"java/lang/Math", "max", "(II)I"⟩ : MethodName) jdk_29_method_65_code 2 (some .int) :: ws) ({ frames := 0, cells := 0, slots := 0, locals := 0 } : Room)) (fun a U => a = #[(.int (3 : Int32)), (.int (4 : Int32))] ∧ Z.Warmed39 U.vm ∧ U.heap = h0) (fun _ _ _ _ _ => True) (fun _ U o U' => ∃ v L, o = .returned v ∧ Q_rm6_3 Z  h0 n0 v U'.heap L ∧ FrameEnd U o U' L ({ frames := 0, cells := 0, slots := 0, locals := 0 } : Room).cells ({ frames := 0, cells := 0, slots := 0, locals := 0 } : Room).slots) := by
  refine MetFree.of_bodySF (Jvm.Free.JP.mathPlain rfl (by decide +kernel)) hisR ?_
  intro p e s m args below meth c s₁ Bd hml0 hP hK
  obtain ⟨rfl, hZ, hh⟩ := hP
  have hx := Bd.exec
  have hby := Bd.bytes
  have hml : c.maxLocals = 2 := hml0
  have hown : s.vm.findClass "java/lang/Math" = some m.cls := findClass_of_methodNamed Bd.named
  have hnm := (name_of_methodNamed Bd.named Bd.method).1
  have X0 : Stand p l e ({ frames := 0, cells := 0, slots := 0, locals := 0 } : Room) s m #[(.int (3 : Int32)), (.int (4 : Int32))] below meth c s₁ [] 0 0 := Stand.of_body Bd
  have e0 : s₁.heap = h0 := by rw [← hh, Bd.state]; rfl
  have N0 := Fr.nil n0
  have pre0 : ∀ t, Steps p.tables e below (s₁.setTop (mkF m 0 #[.val (.int (3 : Int32)), .val (.int (4 : Int32))] [])) t → Steps p.tables e below (s₁.setTop (entryFrame m #[(.int (3 : Int32)), (.int (4 : Int32))] 2)) t := fun t k => castTop (ef_rm6_3 m ) k
  obtain ⟨fs, hr, hrun, hended, hW, hsame⟩ := X0.leave (v := some (.int (4 : Int32))) (fun h => by rw [Bd.returns] at h; cases h)
  refine ⟨_, _, pre0 _ ?_, hrun, hended, _, _, rfl, ?_, ⟨_, rfl⟩, hW, hsame.mono (by decide) (by decide)⟩
  · show Steps p.tables e below (s₁.setTop (mkF m 0 #[.val (.int (3 : Int32)), .val (.int (4 : Int32))] [])) _
    refine XS.iloadN X0.here hx rfl (hb hby d6_0) rfl ?_
    refine XS.iloadN X0.here hx rfl (hb hby d6_1) rfl ?_
    show Steps p.tables e below (s₁.setTop (mkF m 2 #[.val (.int (3 : Int32)), .val (.int (4 : Int32))] [(.int (4 : Int32)), (.int (3 : Int32))])) _
    refine XS.icmpYes X0.here hx rfl (pc0 := 2) (pc' := 9) rfl (hb hby d6_2) rfl (tlt (by decide : (3 : Int32) < (4 : Int32))).1 (by decide) (by decide) ?_
    refine XS.iloadN X0.here hx rfl (hb hby d6_9) rfl ?_
    show Steps p.tables e below (s₁.setTop (mkF m 10 #[.val (.int (3 : Int32)), .val (.int (4 : Int32))] [(.int (4 : Int32))])) _
    exact retI X0 hx Bd.returns (hb hby d6_10) hr
  · show Q_rm6_3 Z  h0 n0 _ s₁.heap _
    rw [e0]
    exact ⟨rfl, N0, rfl⟩
theorem ef_rm8_3 (m : MethodId)  : entryFrame m #[(.int (2 : Int32)), (.int (4 : Int32))] 2 = mkF m 0 #[.val (.int (2 : Int32)), .val (.int (4 : Int32))] [] := by first | (simp [entryFrame, mkF, argsToLocals, Value.category]; done) | rfl
def Q_rm8_3 (Z : State)  (h0 : Heap) (n0 : Nat) (v : Option Value) (h : Heap) (L : List Loc) : Prop := v = some (.int (2 : Int32)) ∧ Fr n0 L ∧ h = h0
set_option maxRecDepth 65536 in
set_option maxHeartbeats 40000000 in
theorem rm8_3 (l : Launch) (Z : State) (a0 : Array Value) (hw : ∀ d ∈ tables_1, d.before a0 Z = true) (ws : List Jvm.Cond)  (h0 : Heap) (n0 : Nat) (Z0 : n0 ≤ h0.size) :
    MetFree l (⟨"java/lang/Math", "min", "(II)I"⟩ : MethodName) (head1 (Jvm.Cond.code (⟨"java/lang/Math", "min", "(II)I"⟩ : MethodName) jdk_29_method_69_code 2 (some .int) :: ws) ({ frames := 0, cells := 0, slots := 0, locals := 0 } : Room)) (fun a U => a = #[(.int (2 : Int32)), (.int (4 : Int32))] ∧ Z.Warmed39 U.vm ∧ U.heap = h0) (fun _ _ _ _ _ => True) (fun _ U o U' => ∃ v L, o = .returned v ∧ Q_rm8_3 Z  h0 n0 v U'.heap L ∧ FrameEnd U o U' L ({ frames := 0, cells := 0, slots := 0, locals := 0 } : Room).cells ({ frames := 0, cells := 0, slots := 0, locals := 0 } : Room).slots) := by
  refine MetFree.of_bodySF (Jvm.Free.JP.mathPlain rfl (by decide +kernel)) hisR ?_
  intro p e s m args below meth c s₁ Bd hml0 hP hK
  obtain ⟨rfl, hZ, hh⟩ := hP
  have hx := Bd.exec
  have hby := Bd.bytes
  have hml : c.maxLocals = 2 := hml0
  have hown : s.vm.findClass "java/lang/Math" = some m.cls := findClass_of_methodNamed Bd.named
  have hnm := (name_of_methodNamed Bd.named Bd.method).1
  have X0 : Stand p l e ({ frames := 0, cells := 0, slots := 0, locals := 0 } : Room) s m #[(.int (2 : Int32)), (.int (4 : Int32))] below meth c s₁ [] 0 0 := Stand.of_body Bd
  have e0 : s₁.heap = h0 := by rw [← hh, Bd.state]; rfl
  have N0 := Fr.nil n0
  have pre0 : ∀ t, Steps p.tables e below (s₁.setTop (mkF m 0 #[.val (.int (2 : Int32)), .val (.int (4 : Int32))] [])) t → Steps p.tables e below (s₁.setTop (entryFrame m #[(.int (2 : Int32)), (.int (4 : Int32))] 2)) t := fun t k => castTop (ef_rm8_3 m ) k
  obtain ⟨fs, hr, hrun, hended, hW, hsame⟩ := X0.leave (v := some (.int (2 : Int32))) (fun h => by rw [Bd.returns] at h; cases h)
  refine ⟨_, _, pre0 _ ?_, hrun, hended, _, _, rfl, ?_, ⟨_, rfl⟩, hW, hsame.mono (by decide) (by decide)⟩
  · show Steps p.tables e below (s₁.setTop (mkF m 0 #[.val (.int (2 : Int32)), .val (.int (4 : Int32))] [])) _
    refine XS.iloadN X0.here hx rfl (hb hby d8_0) rfl ?_
    refine XS.iloadN X0.here hx rfl (hb hby d8_1) rfl ?_
    show Steps p.tables e below (s₁.setTop (mkF m 2 #[.val (.int (2 : Int32)), .val (.int (4 : Int32))] [(.int (4 : Int32)), (.int (2 : Int32))])) _
    refine XS.icmpNo X0.here hx rfl (hb hby d8_2) rfl (flt (by decide : ¬ ((4 : Int32) < (2 : Int32)))).2.2.1 ?_
    refine XS.iloadN X0.here hx rfl (hb hby d8_5) rfl ?_
    refine XS.goto X0.here hx rfl (pc0 := 6) (pc' := 10) rfl (hb hby d8_6) (by decide) (by decide) ?_
    show Steps p.tables e below (s₁.setTop (mkF m 10 #[.val (.int (2 : Int32)), .val (.int (4 : Int32))] [(.int (2 : Int32))])) _
    exact retI X0 hx Bd.returns (hb hby d8_10) hr
  · show Q_rm8_3 Z  h0 n0 _ s₁.heap _
    rw [e0]
    exact ⟨rfl, N0, rfl⟩
theorem ef_rm7_3 (m : MethodId) (y0 : Addr) : entryFrame m #[(.ref y0), (.int (4 : Int32))] 3 = mkF m 0 #[.val (.ref y0), .val (.int (4 : Int32)), .unset] [] := by first | (simp [entryFrame, mkF, argsToLocals, Value.category]; done) | rfl
def Q_rm7_3 (Z : State) (a7_0 : Addr) (kc_a7_0 : ClassId) (t_a7_0_0 : Int64) (t_a7_0_1 : Int64) (h0 : Heap) (n0 : Nat) (v : Option Value) (h : Heap) (L : List Loc) : Prop := ∃ bx7_0 : Addr, ∃ kx7_0 : ClassId, v = some (.ref bx7_0) ∧ Fr n0 L ∧ Keep h0 h [] ∧ h0.size ≤ bx7_0 ∧ Arv Z h bx7_0 kx7_0 .long (4 : Int32) [(.long t_a7_0_0), (.long t_a7_0_1), (.long (0 : Int64)), (.long (0 : Int64))] (.long (0 : Int64))
set_option maxRecDepth 65536 in
set_option maxHeartbeats 40000000 in
theorem rm7_3 (l : Launch) (Z : State) (a0 : Array Value) (hw : ∀ d ∈ tables_1, d.before a0 Z = true) (ws : List Jvm.Cond) (a7_0 : Addr) (kc_a7_0 : ClassId) (t_a7_0_0 : Int64) (t_a7_0_1 : Int64) (h0 : Heap) (n0 : Nat) (Z0 : n0 ≤ h0.size) (V_a7_0 : Arv Z h0 a7_0 kc_a7_0 .long (2 : Int32) [(.long t_a7_0_0), (.long t_a7_0_1)] (.long (0 : Int64))) :
    MetFree l (⟨"java/util/Arrays", "copyOf", "([JI)[J"⟩ : MethodName) (head1 (Jvm.Cond.code (⟨"java/util/Arrays", "copyOf", "([JI)[J"⟩ : MethodName) jdk_65_method_124_code 3 (some (.array .long)) :: ws) ({ frames := 1, cells := 1, slots := 4, locals := 18 } : Room)) (fun a U => a = #[(.ref a7_0), (.int (4 : Int32))] ∧ Z.Warmed39 U.vm ∧ U.heap = h0) (fun _ _ _ _ _ => True) (fun _ U o U' => ∃ v L, o = .returned v ∧ Q_rm7_3 Z a7_0 kc_a7_0 t_a7_0_0 t_a7_0_1 h0 n0 v U'.heap L ∧ FrameEnd U o U' L ({ frames := 1, cells := 1, slots := 4, locals := 18 } : Room).cells ({ frames := 1, cells := 1, slots := 4, locals := 18 } : Room).slots) := by
  refine MetFree.of_bodySF (plainFor_of_name pn_7) hisR ?_
  intro p e s m args below meth c s₁ Bd hml0 hP hK
  obtain ⟨rfl, hZ, hh⟩ := hP
  have hx := Bd.exec
  have hby := Bd.bytes
  have hml : c.maxLocals = 3 := hml0
  have hown : s.vm.findClass "java/util/Arrays" = some m.cls := findClass_of_methodNamed Bd.named
  have hnm := (name_of_methodNamed Bd.named Bd.method).1
  have X0 : Stand p l e ({ frames := 1, cells := 1, slots := 4, locals := 18 } : Room) s m #[(.ref a7_0), (.int (4 : Int32))] below meth c s₁ [] 0 0 := Stand.of_body Bd
  have e0 : s₁.heap = h0 := by rw [← hh, Bd.state]; rfl
  have N0 := Fr.nil n0
  have pre0 : ∀ t, Steps p.tables e below (s₁.setTop (mkF m 0 #[.val (.ref a7_0), .val (.int (4 : Int32)), .unset] [])) t → Steps p.tables e below (s₁.setTop (entryFrame m #[(.ref a7_0), (.int (4 : Int32))] 3)) t := fun t k => castTop (ef_rm7_3 m a7_0) k
  obtain ⟨cl1, Ar1, qk1, Sz1, Nz1, Hh1, Gf1⟩ := id V_a7_0
  obtain ⟨T2, h2, k2, X2, e2, E2, A2, st2⟩ := newP X0 hx hZ (aty := .long) (ow15 hw) e0 (g := (mkF m 15 #[.val (.ref a7_0), .val (.int (4 : Int32)), .unset] [(.int (4 : Int32))])) rfl (hb hby d7_15) rfl (by decide) (cap := 4) (by decide) (by decide) (by decide) (by decide)
  obtain ⟨b2, g2⟩ : ∃ z, z = h0.size := ⟨_, rfl⟩
  rw [← g2] at A2 st2
  have ne_a7_0_b2 : a7_0 ≠ b2 := Nat.ne_of_lt (Nat.lt_of_lt_of_le V_a7_0.lt (Nat.le_of_eq g2.symm))
  have V_b2 : Arv Z h2 b2 k2 .long (4 : Int32) [(.long (0 : Int64)), (.long (0 : Int64)), (.long (0 : Int64)), (.long (0 : Int64))] (.long (0 : Int64)) := (Arv.new A2 (by decide)).pad (pad_rep [] (.long (0 : Int64)) 4)
  have g_b2 : n0 ≤ b2 := Nat.le_trans Z0 (Nat.le_of_eq g2.symm)
  have sz_b2 : h0.size ≤ b2 := Nat.le_trans (Nat.le_refl _) (Nat.le_of_eq g2.symm)
  have K2 : Keep h0 h2 [] := (Keep.refl h0 []).ext E2
  have Z2 : n0 ≤ h2.size := Nat.le_trans Z0 K2.1
  have f3 := (V_a7_0.ext E2)
  obtain ⟨cl4, Ar4, qk4, Sz4, Nz4, Hh4, Gf4⟩ := id f3
  obtain ⟨_, _, ⟨T5, L5, k5, n5⟩, -, X5, ⟨Lc5, hQ5, l5, y5, z5⟩, st5⟩ := Jvm.LawKit.callS X2 hx (y := (⟨"java/lang/Math", "min", "(II)I"⟩ : MethodName)) hown (mvT hZ (ow38 hw)) (mvT hZ (ow39 hw)) (mvT hZ (ow32 hw)) (mvT hZ (ow40 hw)) (by decide) (backOf (W := 4) (rm8_3 l Z a0 hw []  h2 n0 Z2 ) hZ (ow40 hw) (ow32 hw) (by decide) (by decide)) (g := (mkF m 25 #[.val (.ref a7_0), .val (.int (4 : Int32)), .val (.ref b2)] [(.int (4 : Int32)), (.int (2 : Int32)), (.int (0 : Int32)), (.ref b2), (.int (0 : Int32)), (.ref a7_0)])) rfl (by rw [hml]; rfl) (argsL := [(.int (2 : Int32)), (.int (4 : Int32))]) (rest := [(.int (0 : Int32)), (.ref b2), (.int (0 : Int32)), (.ref a7_0)]) (lenOf pd__II_I rfl) rfl (by show 2 * 0 + _ ≤ _; exact Nat.le_of_eq rfl) (hb hby d7_25) (fun _ _ => ⟨rfl, e2, (by decide : 1 + 0 ≤ _), (by decide : 4 + 0 ≤ _)⟩)
  dsimp only [Pt.U, Pt.locs, Pt.cells, Pt.slots] at X5 l5 y5 z5 st5 hQ5
  subst l5 y5 z5
  obtain ⟨rfl, Nq5, e5⟩ := hQ5
  have N5 := Fr.app N0 Nq5
  obtain ⟨T6, h6, Lo6, X6, e6, N6, Kc6, V6, st6⟩ := cpA X5 hx hZ hown (ow41 hw) (ow44 hw) (ow42 hw) (ow43 hw) e5 f3 V_b2 (Or.inl ⟨rfl, rfl⟩) (sp := (0 : Int32)) (dp := (0 : Int32)) (nn := (2 : Int32)) (us := [(.long t_a7_0_0), (.long t_a7_0_1)]) (by decide) (by decide) (by decide) (by decide) (by decide) rfl (Nat.le_of_ble_eq_true rfl) N5 g_b2 (g := (mkF m 28 #[.val (.ref a7_0), .val (.int (4 : Int32)), .val (.ref b2)] [(.int (2 : Int32)), (.int (0 : Int32)), (.ref b2), (.int (0 : Int32)), (.ref a7_0)])) rfl (by rw [hml]; rfl) rfl (hb hby d7_28) (by decide) (W := 0) (by show 2 * 0 + _ ≤ _; exact Nat.le_of_eq rfl) (by decide)
  have V6 : Arv Z h6 b2 k2 .long (4 : Int32) [(.long t_a7_0_0), (.long t_a7_0_1), (.long (0 : Int64)), (.long (0 : Int64))] (.long (0 : Int64)) := V6
  have K6 : Keep h0 h6 [] := Keep.trans K2 Kc6 (allS (P := fun x => x ∈ ([] : List Addr) ∨ h0.size ≤ x) (Or.inr sz_b2) all0)
  have Z6 : n0 ≤ h6.size := Nat.le_trans Z0 K6.1
  obtain ⟨fs, hr, hrun, hended, hW, hsame⟩ := X6.leave (v := some (.ref b2)) (fun h => by rw [Bd.returns] at h; cases h)
  refine ⟨_, _, pre0 _ ?_, hrun, hended, _, _, rfl, ?_, ⟨_, rfl⟩, hW, hsame.mono (by decide) (by decide)⟩
  · show Steps p.tables e below (s₁.setTop (mkF m 0 #[.val (.ref a7_0), .val (.int (4 : Int32)), .unset] [])) _
    refine XS.iloadN X0.here hx rfl (hb hby d7_0) rfl ?_
    refine XS.aloadN X0.here hx rfl (hb hby d7_1) rfl rfl ?_
    show Steps p.tables e below (s₁.setTop (mkF m 2 #[.val (.ref a7_0), .val (.int (4 : Int32)), .unset] [(.ref a7_0), (.int (4 : Int32))])) _
    refine X0.arraylength hx (cell := cl1) (by rw [e0]; exact Ar1.1) (State.isArrayOf_alike hZ.alike Ar1.2.1) (g := (mkF m 2 #[.val (.ref a7_0), .val (.int (4 : Int32)), .unset] [(.ref a7_0), (.int (4 : Int32))])) rfl (rest := [(.int (4 : Int32))]) rfl (hb hby d7_2) _ ?_
    rw [len_of Sz1 Nz1]
    show Steps p.tables e below (s₁.setTop (mkF m 3 #[.val (.ref a7_0), .val (.int (4 : Int32)), .unset] [(.int (2 : Int32)), (.int (4 : Int32))])) _
    refine XS.icmpYes X0.here hx rfl (pc0 := 3) (pc' := 14) rfl (hb hby d7_3) rfl (feq (by decide : ¬ ((4 : Int32) = (2 : Int32)))).2 (by decide) (by decide) ?_
    refine XS.iloadN X0.here hx rfl (hb hby d7_14) rfl ?_
    refine st2 _ ?_
    show Steps p.tables e below (T2.setTop (mkF m 17 #[.val (.ref a7_0), .val (.int (4 : Int32)), .unset] [(.ref b2)])) _
    refine XS.astoreN X2.here hx rfl (hb hby d7_17) rfl rfl (l' := #[.val (.ref a7_0), .val (.int (4 : Int32)), .val (.ref b2)]) rfl ?_
    refine XS.aloadN X2.here hx rfl (hb hby d7_18) rfl rfl ?_
    refine XS.iconst X2.here hx rfl (hb hby d7_19) ?_
    show Steps p.tables e below (T2.setTop (mkF m 20 #[.val (.ref a7_0), .val (.int (4 : Int32)), .val (.ref b2)] [(.int (0 : Int32)), (.ref a7_0)])) _
    refine XS.aloadN X2.here hx rfl (hb hby d7_20) rfl rfl ?_
    refine XS.iconst X2.here hx rfl (hb hby d7_21) ?_
    refine XS.aloadN X2.here hx rfl (hb hby d7_22) rfl rfl ?_
    show Steps p.tables e below (T2.setTop (mkF m 23 #[.val (.ref a7_0), .val (.int (4 : Int32)), .val (.ref b2)] [(.ref a7_0), (.int (0 : Int32)), (.ref b2), (.int (0 : Int32)), (.ref a7_0)])) _
    refine X2.arraylength hx (cell := cl4) (by rw [e2]; exact Ar4.1) (State.isArrayOf_alike hZ.alike Ar4.2.1) (g := (mkF m 23 #[.val (.ref a7_0), .val (.int (4 : Int32)), .val (.ref b2)] [(.ref a7_0), (.int (0 : Int32)), (.ref b2), (.int (0 : Int32)), (.ref a7_0)])) rfl (rest := [(.int (0 : Int32)), (.ref b2), (.int (0 : Int32)), (.ref a7_0)]) rfl (hb hby d7_23) _ ?_
    rw [len_of Sz4 Nz4]
    refine XS.iloadN X2.here hx rfl (hb hby d7_24) rfl ?_
    show Steps p.tables e below (T2.setTop (mkF m 25 #[.val (.ref a7_0), .val (.int (4 : Int32)), .val (.ref b2)] [(.int (4 : Int32)), (.int (2 : Int32)), (.int (0 : Int32)), (.ref b2), (.int (0 : Int32)), (.ref a7_0)])) _
    refine st5 _ ?_
    refine st6 _ ?_
    refine XS.aloadN X6.here hx rfl (hb hby d7_31) rfl rfl ?_
    show Steps p.tables e below (T6.setTop (mkF m 32 #[.val (.ref a7_0), .val (.int (4 : Int32)), .val (.ref b2)] [(.ref b2)])) _
    jvm_step X6.here [X6.here.top, hx, (hb hby d7_32), X6.method', Bd.returns, Value.isRef, FieldType.isReference]
    first | (intro acts; rw [hr _ acts rfl rfl rfl]) | rw [hr _ _ rfl rfl rfl]
    exact Steps.refl _
  · show Q_rm7_3 Z a7_0 kc_a7_0 t_a7_0_0 t_a7_0_1 h0 n0 _ T6.heap _
    rw [e6]
    exact ⟨b2, k2, rfl, N6, K6, sz_b2, V6⟩
theorem ef_rm10_2 (m : MethodId) (y0 : Addr) : entryFrame m #[(.ref y0), (.int (0 : Int32))] 5 = mkF m 0 #[.val (.ref y0), .val (.int (0 : Int32)), .unset, .unset, .unset] [] := by first | (simp [entryFrame, mkF, argsToLocals, Value.category]; done) | rfl
def Q_rm10_2 (Z : State) (a10_0 : Addr) (w_tree_a10_0 : Addr) (w_total_a10_0 : Int64) (kc_w_tree_a10_0 : ClassId) (t_w_tree_a10_0_0 : Int64) (t_w_tree_a10_0_1 : Int64) (h0 : Heap) (n0 : Nat) (v : Option Value) (h : Heap) (L : List Loc) : Prop := v = some (.long (0 : Int64)) ∧ Fr n0 L ∧ h = h0
set_option maxRecDepth 65536 in
set_option maxHeartbeats 40000000 in
theorem rm10_2 (l : Launch) (Z : State) (a0 : Array Value) (hw : ∀ d ∈ tables_1, d.before a0 Z = true) (ws : List Jvm.Cond) (a10_0 : Addr) (w_tree_a10_0 : Addr) (w_total_a10_0 : Int64) (kc_w_tree_a10_0 : ClassId) (t_w_tree_a10_0_0 : Int64) (t_w_tree_a10_0_1 : Int64) (h0 : Heap) (n0 : Nat) (Z0 : n0 ≤ h0.size) (E_a10_0 : Exa Z h0 a10_0 "com/example/motley/motley/CountTree") (F_tree_a10_0 : Fld Z h0 a10_0 "com/example/motley/motley/CountTree" "tree" "[J" (.ref w_tree_a10_0)) (F_size_a10_0 : Fld Z h0 a10_0 "com/example/motley/motley/CountTree" "size" "I" (.int (2 : Int32))) (F_total_a10_0 : Fld Z h0 a10_0 "com/example/motley/motley/CountTree" "total" "J" (.long w_total_a10_0)) (V_w_tree_a10_0 : Arv Z h0 w_tree_a10_0 kc_w_tree_a10_0 .long (2 : Int32) [(.long t_w_tree_a10_0_0), (.long t_w_tree_a10_0_1)] (.long (0 : Int64))) :
    MetFree l (⟨"com/example/motley/motley/CountTree", "sumBefore", "(I)J"⟩ : MethodName) (head1 (Jvm.Cond.code (⟨"com/example/motley/motley/CountTree", "sumBefore", "(I)J"⟩ : MethodName) prog_14_method_8_code 5 (some .long) :: ws) ({ frames := 0, cells := 0, slots := 0, locals := 0 } : Room)) (fun a U => a = #[(.ref a10_0), (.int (0 : Int32))] ∧ Z.Warmed39 U.vm ∧ U.heap = h0) (fun _ _ _ _ _ => True) (fun _ U o U' => ∃ v L, o = .returned v ∧ Q_rm10_2 Z a10_0 w_tree_a10_0 w_total_a10_0 kc_w_tree_a10_0 t_w_tree_a10_0_0 t_w_tree_a10_0_1 h0 n0 v U'.heap L ∧ FrameEnd U o U' L ({ frames := 0, cells := 0, slots := 0, locals := 0 } : Room).cells ({ frames := 0, cells := 0, slots := 0, locals := 0 } : Room).slots) := by
  refine MetFree.of_bodySF (plainFor_of_name pn_10) hisR ?_
  intro p e s m args below meth c s₁ Bd hml0 hP hK
  obtain ⟨rfl, hZ, hh⟩ := hP
  have hx := Bd.exec
  have hby := Bd.bytes
  have hml : c.maxLocals = 5 := hml0
  have hown : s.vm.findClass "com/example/motley/motley/CountTree" = some m.cls := findClass_of_methodNamed Bd.named
  have hnm := (name_of_methodNamed Bd.named Bd.method).1
  have X0 : Stand p l e ({ frames := 0, cells := 0, slots := 0, locals := 0 } : Room) s m #[(.ref a10_0), (.int (0 : Int32))] below meth c s₁ [] 0 0 := Stand.of_body Bd
  have e0 : s₁.heap = h0 := by rw [← hh, Bd.state]; rfl
  have N0 := Fr.nil n0
  have pre0 : ∀ t, Steps p.tables e below (s₁.setTop (mkF m 0 #[.val (.ref a10_0), .val (.int (0 : Int32)), .unset, .unset, .unset] [])) t → Steps p.tables e below (s₁.setTop (entryFrame m #[(.ref a10_0), (.int (0 : Int32))] 5)) t := fun t k => castTop (ef_rm10_2 m a10_0) k
  obtain ⟨fs, hr, hrun, hended, hW, hsame⟩ := X0.leave (v := some (.long (0 : Int64))) (fun h => by rw [Bd.returns] at h; cases h)
  refine ⟨_, _, pre0 _ ?_, hrun, hended, _, _, rfl, ?_, ⟨_, rfl⟩, hW, hsame.mono (by decide) (by decide)⟩
  · show Steps p.tables e below (s₁.setTop (mkF m 0 #[.val (.ref a10_0), .val (.int (0 : Int32)), .unset, .unset, .unset] [])) _
    refine XS.lconst X0.here hx rfl (hb hby d10_0) ?_
    refine XS.lstoreN X0.here hx rfl (hb hby d10_1) rfl (l' := #[.val (.ref a10_0), .val (.int (0 : Int32)), .val (.long (0 : Int64)), .second, .unset]) rfl ?_
    refine XS.iloadN X0.here hx rfl (hb hby d10_2) rfl ?_
    show Steps p.tables e below (s₁.setTop (mkF m 3 #[.val (.ref a10_0), .val (.int (0 : Int32)), .val (.long (0 : Int64)), .second, .unset] [(.int (0 : Int32))])) _
    refine XS.istore X0.here hx rfl (hb hby d10_3) rfl (l' := #[.val (.ref a10_0), .val (.int (0 : Int32)), .val (.long (0 : Int64)), .second, .val (.int (0 : Int32))]) rfl ?_
    refine XS.iload X0.here hx rfl (hb hby d10_5) rfl ?_
    show Steps p.tables e below (s₁.setTop (mkF m 7 #[.val (.ref a10_0), .val (.int (0 : Int32)), .val (.long (0 : Int64)), .second, .val (.int (0 : Int32))] [(.int (0 : Int32))])) _
    refine XS.ifYes X0.here hx rfl (pc0 := 7) (pc' := 36) rfl (hb hby d10_7) rfl ((if0 _ _).trans (flt (by decide : ¬ ((0 : Int32) < (0 : Int32)))).2.2.2) (by decide) (by decide) ?_
    refine XS.lloadN X0.here hx rfl (hb hby d10_36) rfl ?_
    show Steps p.tables e below (s₁.setTop (mkF m 37 #[.val (.ref a10_0), .val (.int (0 : Int32)), .val (.long (0 : Int64)), .second, .val (.int (0 : Int32))] [(.long (0 : Int64))])) _
    exact own_retJ X0 hx Bd.returns (hb hby d10_37) hr
  · show Q_rm10_2 Z a10_0 w_tree_a10_0 w_total_a10_0 kc_w_tree_a10_0 t_w_tree_a10_0_0 t_w_tree_a10_0_1 h0 n0 _ s₁.heap _
    rw [e0]
    exact ⟨rfl, N0, rfl⟩
theorem ef_rm5_3 (m : MethodId) (y0 : Addr) : entryFrame m #[(.ref y0), (.int (1 : Int32))] 7 = mkF m 0 #[.val (.ref y0), .val (.int (1 : Int32)), .unset, .unset, .unset, .unset, .unset] [] := by first | (simp [entryFrame, mkF, argsToLocals, Value.category]; done) | rfl
def Q_rm5_3 (Z : State) (a5_0 : Addr) (w_tree_a5_0 : Addr) (w_total_a5_0 : Int64) (kc_w_tree_a5_0 : ClassId) (t_w_tree_a5_0_0 : Int64) (t_w_tree_a5_0_1 : Int64) (h0 : Heap) (n0 : Nat) (v : Option Value) (h : Heap) (L : List Loc) : Prop := ∃ bx5_0 : Addr, ∃ kx5_0 : ClassId, v = none ∧ Fr n0 L ∧ Keep h0 h [a5_0] ∧ h0.size ≤ bx5_0 ∧ Exa Z h a5_0 "com/example/motley/motley/CountTree" ∧ Fld Z h a5_0 "com/example/motley/motley/CountTree" "tree" "[J" (.ref bx5_0) ∧ Fld Z h a5_0 "com/example/motley/motley/CountTree" "size" "I" (.int (2 : Int32)) ∧ Fld Z h a5_0 "com/example/motley/motley/CountTree" "total" "J" (.long w_total_a5_0) ∧ Arv Z h bx5_0 kx5_0 .long (4 : Int32) [(.long t_w_tree_a5_0_0), (.long t_w_tree_a5_0_1), (.long (0 : Int64)), (.long (w_total_a5_0 - (0 : Int64)))] (.long (0 : Int64))
set_option maxRecDepth 65536 in
set_option maxHeartbeats 40000000 in
theorem rm5_3 (l : Launch) (Z : State) (a0 : Array Value) (hw : ∀ d ∈ tables_1, d.before a0 Z = true) (ws : List Jvm.Cond) (a5_0 : Addr) (w_tree_a5_0 : Addr) (w_total_a5_0 : Int64) (kc_w_tree_a5_0 : ClassId) (t_w_tree_a5_0_0 : Int64) (t_w_tree_a5_0_1 : Int64) (h0 : Heap) (n0 : Nat) (Z0 : n0 ≤ h0.size) (E_a5_0 : Exa Z h0 a5_0 "com/example/motley/motley/CountTree") (F_tree_a5_0 : Fld Z h0 a5_0 "com/example/motley/motley/CountTree" "tree" "[J" (.ref w_tree_a5_0)) (F_size_a5_0 : Fld Z h0 a5_0 "com/example/motley/motley/CountTree" "size" "I" (.int (2 : Int32))) (F_total_a5_0 : Fld Z h0 a5_0 "com/example/motley/motley/CountTree" "total" "J" (.long w_total_a5_0)) (V_w_tree_a5_0 : Arv Z h0 w_tree_a5_0 kc_w_tree_a5_0 .long (2 : Int32) [(.long t_w_tree_a5_0_0), (.long t_w_tree_a5_0_1)] (.long (0 : Int64))) (g_a5_0 : n0 ≤ a5_0) :
    MetFree l (⟨"com/example/motley/motley/CountTree", "reserve", "(I)V"⟩ : MethodName) (head1 (Jvm.Cond.code (⟨"com/example/motley/motley/CountTree", "reserve", "(I)V"⟩ : MethodName) prog_14_method_3_code 7 none :: ws) ({ frames := 2, cells := 1, slots := 4, locals := 32 } : Room)) (fun a U => a = #[(.ref a5_0), (.int (1 : Int32))] ∧ Z.Warmed39 U.vm ∧ U.heap = h0) (fun _ _ _ _ _ => True) (fun _ U o U' => ∃ v L, o = .returned v ∧ Q_rm5_3 Z a5_0 w_tree_a5_0 w_total_a5_0 kc_w_tree_a5_0 t_w_tree_a5_0_0 t_w_tree_a5_0_1 h0 n0 v U'.heap L ∧ FrameEnd U o U' L ({ frames := 2, cells := 1, slots := 4, locals := 32 } : Room).cells ({ frames := 2, cells := 1, slots := 4, locals := 32 } : Room).slots) := by
  refine MetFree.of_bodySF (plainFor_of_name pn_5) hisR ?_
  intro p e s m args below meth c s₁ Bd hml0 hP hK
  obtain ⟨rfl, hZ, hh⟩ := hP
  have hx := Bd.exec
  have hby := Bd.bytes
  have hml : c.maxLocals = 7 := hml0
  have hown : s.vm.findClass "com/example/motley/motley/CountTree" = some m.cls := findClass_of_methodNamed Bd.named
  have hnm := (name_of_methodNamed Bd.named Bd.method).1
  have X0 : Stand p l e ({ frames := 2, cells := 1, slots := 4, locals := 32 } : Room) s m #[(.ref a5_0), (.int (1 : Int32))] below meth c s₁ [] 0 0 := Stand.of_body Bd
  have e0 : s₁.heap = h0 := by rw [← hh, Bd.state]; rfl
  have N0 := Fr.nil n0
  have pre0 : ∀ t, Steps p.tables e below (s₁.setTop (mkF m 0 #[.val (.ref a5_0), .val (.int (1 : Int32)), .unset, .unset, .unset, .unset, .unset] [])) t → Steps p.tables e below (s₁.setTop (entryFrame m #[(.ref a5_0), (.int (1 : Int32))] 7)) t := fun t k => castTop (ef_rm5_3 m a5_0) k
  obtain ⟨T1, X1, e1, st1⟩ := getF X0 hx hZ hown (host := "") (Or.inl (ow28 hw)) Via.refl e0 F_size_a5_0 (g := (mkF m 1 #[.val (.ref a5_0), .val (.int (1 : Int32)), .unset, .unset, .unset, .unset, .unset] [(.ref a5_0)])) rfl rfl (hb hby d5_1)
  obtain ⟨T2, X2, e2, st2⟩ := getF X1 hx hZ hown (host := "") (Or.inl (ow16 hw)) Via.refl e1 F_tree_a5_0 (g := (mkF m 9 #[.val (.ref a5_0), .val (.int (1 : Int32)), .val (.int (3 : Int32)), .unset, .unset, .unset, .unset] [(.ref a5_0), (.int (3 : Int32))])) rfl rfl (hb hby d5_9)
  obtain ⟨cl3, Ar3, qk3, Sz3, Nz3, Hh3, Gf3⟩ := id V_w_tree_a5_0
  obtain ⟨T4, X4, e4, st4⟩ := getF X2 hx hZ hown (host := "") (Or.inl (ow16 hw)) Via.refl e2 F_tree_a5_0 (g := (mkF m 20 #[.val (.ref a5_0), .val (.int (1 : Int32)), .val (.int (3 : Int32)), .unset, .unset, .unset, .unset] [(.ref a5_0), (.int (2 : Int32)), (.int (3 : Int32))])) rfl rfl (hb hby d5_20)
  obtain ⟨cl5, Ar5, qk5, Sz5, Nz5, Hh5, Gf5⟩ := id V_w_tree_a5_0
  obtain ⟨_, _, ⟨T6, L6, k6, n6⟩, -, X6, ⟨Lc6, hQ6, l6, y6, z6⟩, st6⟩ := Jvm.LawKit.callS X4 hx (y := (⟨"java/lang/Math", "max", "(II)I"⟩ : MethodName)) hown (mvT hZ (ow30 hw)) (mvT hZ (ow31 hw)) (mvT hZ (ow32 hw)) (mvT hZ (ow33 hw)) (by decide) (backOf (W := 0) (rm6_3 l Z a0 hw []  h0 n0 Z0 ) hZ (ow33 hw) (ow32 hw) (by decide) (by decide)) (g := (mkF m 25 #[.val (.ref a5_0), .val (.int (1 : Int32)), .val (.int (3 : Int32)), .unset, .unset, .unset, .unset] [(.int (4 : Int32)), (.int (3 : Int32))])) rfl (by rw [hml]; rfl) (argsL := [(.int (3 : Int32)), (.int (4 : Int32))]) (rest := []) (lenOf pd__II_I rfl) rfl (by show 2 * 0 + _ ≤ _; exact Nat.le_of_eq rfl) (hb hby d5_25) (fun _ _ => ⟨rfl, e4, (by decide : 0 + 0 ≤ _), (by decide : 0 + 0 ≤ _)⟩)
  dsimp only [Pt.U, Pt.locs, Pt.cells, Pt.slots] at X6 l6 y6 z6 st6 hQ6
  subst l6 y6 z6
  obtain ⟨rfl, Nq6, e6⟩ := hQ6
  have N6 := Fr.app N0 Nq6
  obtain ⟨T7, X7, e7, st7⟩ := getF X6 hx hZ hown (host := "") (Or.inl (ow16 hw)) Via.refl e6 F_tree_a5_0 (g := (mkF m 30 #[.val (.ref a5_0), .val (.int (1 : Int32)), .val (.int (3 : Int32)), .val (.int (4 : Int32)), .unset, .unset, .unset] [(.ref a5_0)])) rfl rfl (hb hby d5_30)
  obtain ⟨_, _, ⟨T8, L8, k8, n8⟩, -, X8, ⟨Lc8, hQ8, l8, y8, z8⟩, st8⟩ := Jvm.LawKit.callS X7 hx (y := (⟨"java/util/Arrays", "copyOf", "([JI)[J"⟩ : MethodName)) hown (mvT hZ (ow34 hw)) (mvT hZ (ow35 hw)) (mvT hZ (ow36 hw)) (mvT hZ (ow37 hw)) (by decide) (backOf (W := 0) (rm7_3 l Z a0 hw [] w_tree_a5_0 kc_w_tree_a5_0 t_w_tree_a5_0_0 t_w_tree_a5_0_1 h0 n0 Z0 V_w_tree_a5_0) hZ (ow37 hw) (ow36 hw) (by decide) (by decide)) (g := (mkF m 34 #[.val (.ref a5_0), .val (.int (1 : Int32)), .val (.int (3 : Int32)), .val (.int (4 : Int32)), .unset, .unset, .unset] [(.int (4 : Int32)), (.ref w_tree_a5_0)])) rfl (by rw [hml]; rfl) (argsL := [(.ref w_tree_a5_0), (.int (4 : Int32))]) (rest := []) (lenOf pd___JI__J rfl) rfl (by show 2 * 0 + _ ≤ _; exact Nat.le_of_eq rfl) (hb hby d5_34) (fun _ _ => ⟨rfl, e7, (by decide : 0 + 1 ≤ _), (by decide : 0 + 4 ≤ _)⟩)
  dsimp only [Pt.U, Pt.locs, Pt.cells, Pt.slots] at X8 l8 y8 z8 st8 hQ8
  subst l8 y8 z8
  obtain ⟨bx7_0_8, kx7_0_8, rfl, Nq8, Kc8, P8_0, P8_1⟩ := hQ8
  have K8 : Keep h0 T8.heap [a5_0] := Keep.trans (Keep.refl h0 [a5_0]) Kc8 all0
  have Z8 : n0 ≤ T8.heap.size := Nat.le_trans Z0 K8.1
  have g_bx7_0_8 : n0 ≤ bx7_0_8 := Nat.le_trans Z0 P8_0
  have sz_bx7_0_8 : h0.size ≤ bx7_0_8 := Nat.le_trans (Nat.le_refl _) P8_0
  have ne_a5_0_bx7_0_8 : a5_0 ≠ bx7_0_8 := Nat.ne_of_lt (Nat.lt_of_lt_of_le E_a5_0.lt P8_0)
  have ne_w_tree_a5_0_bx7_0_8 : w_tree_a5_0 ≠ bx7_0_8 := Nat.ne_of_lt (Nat.lt_of_lt_of_le V_w_tree_a5_0.lt P8_0)
  have N8 := Fr.app N6 Nq8
  have f9 := (F_tree_a5_0.keep Kc8 nin0)
  obtain ⟨T10, X10, e10, st10⟩ := getF X8 hx hZ hown (host := "") (Or.inl (ow16 hw)) Via.refl rfl f9 (g := (mkF m 40 #[.val (.ref a5_0), .val (.int (1 : Int32)), .val (.int (3 : Int32)), .val (.int (4 : Int32)), .val (.ref bx7_0_8), .unset, .unset] [(.ref a5_0)])) rfl rfl (hb hby d5_40)
  have f11 := (V_w_tree_a5_0.keep Kc8 nin0)
  obtain ⟨cl12, Ar12, qk12, Sz12, Nz12, Hh12, Gf12⟩ := id f11
  have f13 := (F_size_a5_0.keep Kc8 nin0)
  obtain ⟨T14, X14, e14, st14⟩ := getF X10 hx hZ hown (host := "") (Or.inl (ow28 hw)) Via.refl e10 f13 (g := (mkF m 68 #[.val (.ref a5_0), .val (.int (1 : Int32)), .val (.int (3 : Int32)), .val (.int (4 : Int32)), .val (.ref bx7_0_8), .val (.int (3 : Int32)), .val (.int (2 : Int32))] [(.ref a5_0), (.int (2 : Int32))])) rfl rfl (hb hby d5_68)
  obtain ⟨T15, X15, e15, st15⟩ := getF X14 hx hZ hown (host := "") (Or.inl (ow28 hw)) Via.refl e14 f13 (g := (mkF m 68 #[.val (.ref a5_0), .val (.int (1 : Int32)), .val (.int (3 : Int32)), .val (.int (4 : Int32)), .val (.ref bx7_0_8), .val (.int (4 : Int32)), .val (.int (0 : Int32))] [(.ref a5_0), (.int (0 : Int32))])) rfl rfl (hb hby d5_68)
  have f16 := (F_total_a5_0.keep Kc8 nin0)
  obtain ⟨T17, X17, e17, st17⟩ := getF X15 hx hZ hown (host := "") (Or.inl (ow50 hw)) Via.refl e15 f16 (g := (mkF m 81 #[.val (.ref a5_0), .val (.int (1 : Int32)), .val (.int (3 : Int32)), .val (.int (4 : Int32)), .val (.ref bx7_0_8), .val (.int (4 : Int32)), .val (.int (0 : Int32))] [(.ref a5_0), (.int (3 : Int32)), (.ref bx7_0_8)])) rfl rfl (hb hby d5_81)
  have f18 := (E_a5_0.keep Kc8)
  obtain ⟨cq19, kq19, q19a, q19b, q19c⟩ := isOf hZ e17 f18
  obtain ⟨_, _, ⟨T19, L19, k19, n19⟩, -, X19, ⟨Lc19, hQ19, l19, y19, z19⟩, st19⟩ := X17.virtualBack hx (y := (⟨"com/example/motley/motley/CountTree", "sumBefore", "(I)J"⟩ : MethodName)) (z := (⟨"com/example/motley/motley/CountTree", "sumBefore", "(I)J"⟩ : MethodName)) hown (mvT hZ (ow52 hw)) (mvT hZ (ow53 hw)) (notFace_of_selects (args := #[]) (mvT hZ (ow55 hw))) (mvT hZ (ow55 hw)) (mvT hZ (ow54 hw)) (by decide) (backOf (W := 4) (rm10_2 l Z a0 hw [] a5_0 w_tree_a5_0 w_total_a5_0 kc_w_tree_a5_0 t_w_tree_a5_0_0 t_w_tree_a5_0_1 T8.heap n0 Z8 f18 f9 f13 f16 f11) hZ (ow56 hw) (ow8 hw) (by decide) (by decide)) q19a q19c (g := (mkF m 87 #[.val (.ref a5_0), .val (.int (1 : Int32)), .val (.int (3 : Int32)), .val (.int (4 : Int32)), .val (.ref bx7_0_8), .val (.int (4 : Int32)), .val (.int (0 : Int32))] [(.int (0 : Int32)), (.ref a5_0), (.long w_total_a5_0), (.int (3 : Int32)), (.ref bx7_0_8)])) rfl (by rw [hml]; rfl) (Steps.refl _) (argsL := [(.int (0 : Int32))]) (rest := [(.long w_total_a5_0), (.int (3 : Int32)), (.ref bx7_0_8)]) (lenOf pd__I_J rfl) rfl (by show 2 * 0 + _ ≤ _; exact Nat.le_of_eq rfl) (hb hby d5_87) (fun _ _ => ⟨rfl, e17, (by decide : 1 + 0 ≤ _), (by decide : 4 + 0 ≤ _)⟩)
  dsimp only [Pt.U, Pt.locs, Pt.cells, Pt.slots] at X19 l19 y19 z19 st19 hQ19
  subst l19 y19 z19
  obtain ⟨rfl, Nq19, e19⟩ := hQ19
  have N19 := Fr.app N8 Nq19
  obtain ⟨cl20, Ar20, qk20, Sz20, Nz20, Hh20, Gf20⟩ := id P8_1
  obtain ⟨T21, h21, X21, e21, W21, st21⟩ := stJ X19 hx hZ e19 Ar20 (j := (3 : Int32)) (inb_of Sz20 ⟨by decide, by decide⟩) (g := (mkF m 91 #[.val (.ref a5_0), .val (.int (1 : Int32)), .val (.int (3 : Int32)), .val (.int (4 : Int32)), .val (.ref bx7_0_8), .val (.int (4 : Int32)), .val (.int (0 : Int32))] [(.long (w_total_a5_0 - (0 : Int64))), (.int (3 : Int32)), (.ref bx7_0_8)])) rfl rfl (hb hby d5_91)
  have V21 : Arv Z h21 bx7_0_8 kx7_0_8 .long (4 : Int32) [(.long t_w_tree_a5_0_0), (.long t_w_tree_a5_0_1), (.long (0 : Int64)), (.long (w_total_a5_0 - (0 : Int64)))] (.long (0 : Int64)) := Arv.set Ar20 qk20 Sz20 Nz20 Hh20 Gf20 rfl W21 3 rfl (Nat.le_of_ble_eq_true rfl)
  have K21 : Keep h0 h21 [a5_0] := K8.wr W21 (Or.inr sz_bx7_0_8)
  have Z21 : n0 ≤ h21.size := Nat.le_trans Z0 K21.1
  have N21 := Fr.snoc X21 N19 g_bx7_0_8
  have f22 := (f18.wr W21)
  have f23 := (f9.other W21 (Or.inl ne_a5_0_bx7_0_8))
  obtain ⟨T24, h24, X24, e24, W24, st24⟩ := putF X21 hx hZ hown (host := "") (Or.inl (ow16 hw)) Via.refl e21 f23 f22 (Or.inl (ow17 hw)) (ow7 hw) (ty := (.array .long)) (by decide) rfl rfl (g := (mkF m 101 #[.val (.ref a5_0), .val (.int (1 : Int32)), .val (.int (3 : Int32)), .val (.int (4 : Int32)), .val (.ref bx7_0_8), .val (.int (5 : Int32)), .val (.int (0 : Int32))] [(.ref bx7_0_8), (.ref a5_0)])) rfl rfl (hb hby d5_101)
  have F24 := f23.same W24
  have K24 : Keep h0 h24 [a5_0] := K21.wr W24 (Or.inl (List.mem_of_getElem? (i := 0) rfl))
  have Z24 : n0 ≤ h24.size := Nat.le_trans Z0 K24.1
  have N24 := Fr.snoc X24 N21 g_a5_0
  obtain ⟨fs, hr, hrun, hended, hW, hsame⟩ := X24.leave (v := none) (fun _ => rfl)
  refine ⟨_, _, pre0 _ ?_, hrun, hended, _, _, rfl, ?_, ⟨_, rfl⟩, hW, hsame.mono (by decide) (by decide)⟩
  · show Steps p.tables e below (s₁.setTop (mkF m 0 #[.val (.ref a5_0), .val (.int (1 : Int32)), .unset, .unset, .unset, .unset, .unset] [])) _
    refine XS.aloadN X0.here hx rfl (hb hby d5_0) rfl rfl ?_
    refine st1 _ ?_
    refine XS.iloadN X1.here hx rfl (hb hby d5_4) rfl ?_
    show Steps p.tables e below (T1.setTop (mkF m 5 #[.val (.ref a5_0), .val (.int (1 : Int32)), .unset, .unset, .unset, .unset, .unset] [(.int (1 : Int32)), (.int (2 : Int32))])) _
    refine XS.iadd X1.here hx rfl (hb hby d5_5) rfl ?_
    refine XS.istoreN X1.here hx rfl (hb hby d5_6) rfl (l' := #[.val (.ref a5_0), .val (.int (1 : Int32)), .val (.int (3 : Int32)), .unset, .unset, .unset, .unset]) rfl ?_
    refine XS.iloadN X1.here hx rfl (hb hby d5_7) rfl ?_
    show Steps p.tables e below (T1.setTop (mkF m 8 #[.val (.ref a5_0), .val (.int (1 : Int32)), .val (.int (3 : Int32)), .unset, .unset, .unset, .unset] [(.int (3 : Int32))])) _
    refine XS.aloadN X1.here hx rfl (hb hby d5_8) rfl rfl ?_
    refine st2 _ ?_
    show Steps p.tables e below (T2.setTop (mkF m 12 #[.val (.ref a5_0), .val (.int (1 : Int32)), .val (.int (3 : Int32)), .unset, .unset, .unset, .unset] [(.ref w_tree_a5_0), (.int (3 : Int32))])) _
    refine X2.arraylength hx (cell := cl3) (by rw [e2]; exact Ar3.1) (State.isArrayOf_alike hZ.alike Ar3.2.1) (g := (mkF m 12 #[.val (.ref a5_0), .val (.int (1 : Int32)), .val (.int (3 : Int32)), .unset, .unset, .unset, .unset] [(.ref w_tree_a5_0), (.int (3 : Int32))])) rfl (rest := [(.int (3 : Int32))]) rfl (hb hby d5_12) _ ?_
    rw [len_of Sz3 Nz3]
    show Steps p.tables e below (T2.setTop (mkF m 13 #[.val (.ref a5_0), .val (.int (1 : Int32)), .val (.int (3 : Int32)), .unset, .unset, .unset, .unset] [(.int (2 : Int32)), (.int (3 : Int32))])) _
    refine XS.icmpYes X2.here hx rfl (pc0 := 13) (pc' := 17) rfl (hb hby d5_13) rfl (tlt (by decide : (2 : Int32) < (3 : Int32))).2.2.1 (by decide) (by decide) ?_
    refine XS.iloadN X2.here hx rfl (hb hby d5_17) rfl ?_
    refine XS.iconst X2.here hx rfl (hb hby d5_18) ?_
    show Steps p.tables e below (T2.setTop (mkF m 19 #[.val (.ref a5_0), .val (.int (1 : Int32)), .val (.int (3 : Int32)), .unset, .unset, .unset, .unset] [(.int (2 : Int32)), (.int (3 : Int32))])) _
    refine XS.aloadN X2.here hx rfl (hb hby d5_19) rfl rfl ?_
    refine st4 _ ?_
    show Steps p.tables e below (T4.setTop (mkF m 23 #[.val (.ref a5_0), .val (.int (1 : Int32)), .val (.int (3 : Int32)), .unset, .unset, .unset, .unset] [(.ref w_tree_a5_0), (.int (2 : Int32)), (.int (3 : Int32))])) _
    refine X4.arraylength hx (cell := cl5) (by rw [e4]; exact Ar5.1) (State.isArrayOf_alike hZ.alike Ar5.2.1) (g := (mkF m 23 #[.val (.ref a5_0), .val (.int (1 : Int32)), .val (.int (3 : Int32)), .unset, .unset, .unset, .unset] [(.ref w_tree_a5_0), (.int (2 : Int32)), (.int (3 : Int32))])) rfl (rest := [(.int (2 : Int32)), (.int (3 : Int32))]) rfl (hb hby d5_23) _ ?_
    rw [len_of Sz5 Nz5]
    refine XS.imul X4.here hx rfl (hb hby d5_24) rfl ?_
    show Steps p.tables e below (T4.setTop (mkF m 25 #[.val (.ref a5_0), .val (.int (1 : Int32)), .val (.int (3 : Int32)), .unset, .unset, .unset, .unset] [(.int (4 : Int32)), (.int (3 : Int32))])) _
    refine st6 _ ?_
    refine XS.istoreN X6.here hx rfl (hb hby d5_28) rfl (l' := #[.val (.ref a5_0), .val (.int (1 : Int32)), .val (.int (3 : Int32)), .val (.int (4 : Int32)), .unset, .unset, .unset]) rfl ?_
    refine XS.aloadN X6.here hx rfl (hb hby d5_29) rfl rfl ?_
    show Steps p.tables e below (T6.setTop (mkF m 30 #[.val (.ref a5_0), .val (.int (1 : Int32)), .val (.int (3 : Int32)), .val (.int (4 : Int32)), .unset, .unset, .unset] [(.ref a5_0)])) _
    refine st7 _ ?_
    refine XS.iloadN X7.here hx rfl (hb hby d5_33) rfl ?_
    refine st8 _ ?_
    show Steps p.tables e below (T8.setTop (mkF m 37 #[.val (.ref a5_0), .val (.int (1 : Int32)), .val (.int (3 : Int32)), .val (.int (4 : Int32)), .unset, .unset, .unset] [(.ref bx7_0_8)])) _
    refine XS.astore X8.here hx rfl (hb hby d5_37) rfl rfl (l' := #[.val (.ref a5_0), .val (.int (1 : Int32)), .val (.int (3 : Int32)), .val (.int (4 : Int32)), .val (.ref bx7_0_8), .unset, .unset]) rfl ?_
    refine XS.aloadN X8.here hx rfl (hb hby d5_39) rfl rfl ?_
    refine st10 _ ?_
    show Steps p.tables e below (T10.setTop (mkF m 43 #[.val (.ref a5_0), .val (.int (1 : Int32)), .val (.int (3 : Int32)), .val (.int (4 : Int32)), .val (.ref bx7_0_8), .unset, .unset] [(.ref w_tree_a5_0)])) _
    refine X10.arraylength hx (cell := cl12) (by rw [e10]; exact Ar12.1) (State.isArrayOf_alike hZ.alike Ar12.2.1) (g := (mkF m 43 #[.val (.ref a5_0), .val (.int (1 : Int32)), .val (.int (3 : Int32)), .val (.int (4 : Int32)), .val (.ref bx7_0_8), .unset, .unset] [(.ref w_tree_a5_0)])) rfl (rest := []) rfl (hb hby d5_43) _ ?_
    rw [len_of Sz12 Nz12]
    refine XS.iconst X10.here hx rfl (hb hby d5_44) ?_
    show Steps p.tables e below (T10.setTop (mkF m 45 #[.val (.ref a5_0), .val (.int (1 : Int32)), .val (.int (3 : Int32)), .val (.int (4 : Int32)), .val (.ref bx7_0_8), .unset, .unset] [(.int (1 : Int32)), (.int (2 : Int32))])) _
    refine XS.iadd X10.here hx rfl (hb hby d5_45) rfl ?_
    refine XS.istore X10.here hx rfl (hb hby d5_46) rfl (l' := #[.val (.ref a5_0), .val (.int (1 : Int32)), .val (.int (3 : Int32)), .val (.int (4 : Int32)), .val (.ref bx7_0_8), .val (.int (3 : Int32)), .unset]) rfl ?_
    refine XS.iload X10.here hx rfl (hb hby d5_48) rfl ?_
    show Steps p.tables e below (T10.setTop (mkF m 50 #[.val (.ref a5_0), .val (.int (1 : Int32)), .val (.int (3 : Int32)), .val (.int (4 : Int32)), .val (.ref bx7_0_8), .val (.int (3 : Int32)), .unset] [(.int (3 : Int32))])) _
    refine XS.iloadN X10.here hx rfl (hb hby d5_50) rfl ?_
    show Steps p.tables e below (T10.setTop (mkF m 51 #[.val (.ref a5_0), .val (.int (1 : Int32)), .val (.int (3 : Int32)), .val (.int (4 : Int32)), .val (.ref bx7_0_8), .val (.int (3 : Int32)), .unset] [(.int (4 : Int32)), (.int (3 : Int32))])) _
    refine XS.icmpNo X10.here hx rfl (hb hby d5_51) rfl (flt (by decide : ¬ ((4 : Int32) < (3 : Int32)))).2.2.1 ?_
    refine XS.iload X10.here hx rfl (hb hby d5_54) rfl ?_
    refine XS.iload X10.here hx rfl (hb hby d5_56) rfl ?_
    show Steps p.tables e below (T10.setTop (mkF m 58 #[.val (.ref a5_0), .val (.int (1 : Int32)), .val (.int (3 : Int32)), .val (.int (4 : Int32)), .val (.ref bx7_0_8), .val (.int (3 : Int32)), .unset] [(.int (3 : Int32)), (.int (3 : Int32))])) _
    refine XS.iload X10.here hx rfl (hb hby d5_58) rfl ?_
    refine XS.ineg X10.here hx rfl (hb hby d5_60) rfl ?_
    refine XS.iand X10.here hx rfl (hb hby d5_61) rfl ?_
    show Steps p.tables e below (T10.setTop (mkF m 62 #[.val (.ref a5_0), .val (.int (1 : Int32)), .val (.int (3 : Int32)), .val (.int (4 : Int32)), .val (.ref bx7_0_8), .val (.int (3 : Int32)), .unset] [(.int (1 : Int32)), (.int (3 : Int32))])) _
    refine XS.isub X10.here hx rfl (hb hby d5_62) rfl ?_
    refine XS.istore X10.here hx rfl (hb hby d5_63) rfl (l' := #[.val (.ref a5_0), .val (.int (1 : Int32)), .val (.int (3 : Int32)), .val (.int (4 : Int32)), .val (.ref bx7_0_8), .val (.int (3 : Int32)), .val (.int (2 : Int32))]) rfl ?_
    refine XS.iload X10.here hx rfl (hb hby d5_65) rfl ?_
    show Steps p.tables e below (T10.setTop (mkF m 67 #[.val (.ref a5_0), .val (.int (1 : Int32)), .val (.int (3 : Int32)), .val (.int (4 : Int32)), .val (.ref bx7_0_8), .val (.int (3 : Int32)), .val (.int (2 : Int32))] [(.int (2 : Int32))])) _
    refine XS.aloadN X10.here hx rfl (hb hby d5_67) rfl rfl ?_
    refine st14 _ ?_
    show Steps p.tables e below (T14.setTop (mkF m 71 #[.val (.ref a5_0), .val (.int (1 : Int32)), .val (.int (3 : Int32)), .val (.int (4 : Int32)), .val (.ref bx7_0_8), .val (.int (3 : Int32)), .val (.int (2 : Int32))] [(.int (2 : Int32)), (.int (2 : Int32))])) _
    refine XS.icmpYes X14.here hx rfl (pc0 := 71) (pc' := 92) rfl (hb hby d5_71) rfl (flt (by decide : ¬ ((2 : Int32) < (2 : Int32)))).2.1 (by decide) (by decide) ?_
    refine XS.iinc X14.here hx rfl (hb hby d5_92) rfl (l' := #[.val (.ref a5_0), .val (.int (1 : Int32)), .val (.int (3 : Int32)), .val (.int (4 : Int32)), .val (.ref bx7_0_8), .val (.int (4 : Int32)), .val (.int (2 : Int32))]) rfl ?_
    refine XS.goto X14.here hx rfl (pc0 := 95) (pc' := 48) rfl (hb hby d5_95) (by decide) (by decide) ?_
    show Steps p.tables e below (T14.setTop (mkF m 48 #[.val (.ref a5_0), .val (.int (1 : Int32)), .val (.int (3 : Int32)), .val (.int (4 : Int32)), .val (.ref bx7_0_8), .val (.int (4 : Int32)), .val (.int (2 : Int32))] [])) _
    refine XS.iload X14.here hx rfl (hb hby d5_48) rfl ?_
    refine XS.iloadN X14.here hx rfl (hb hby d5_50) rfl ?_
    show Steps p.tables e below (T14.setTop (mkF m 51 #[.val (.ref a5_0), .val (.int (1 : Int32)), .val (.int (3 : Int32)), .val (.int (4 : Int32)), .val (.ref bx7_0_8), .val (.int (4 : Int32)), .val (.int (2 : Int32))] [(.int (4 : Int32)), (.int (4 : Int32))])) _
    refine XS.icmpNo X14.here hx rfl (hb hby d5_51) rfl (flt (by decide : ¬ ((4 : Int32) < (4 : Int32)))).2.2.1 ?_
    refine XS.iload X14.here hx rfl (hb hby d5_54) rfl ?_
    refine XS.iload X14.here hx rfl (hb hby d5_56) rfl ?_
    show Steps p.tables e below (T14.setTop (mkF m 58 #[.val (.ref a5_0), .val (.int (1 : Int32)), .val (.int (3 : Int32)), .val (.int (4 : Int32)), .val (.ref bx7_0_8), .val (.int (4 : Int32)), .val (.int (2 : Int32))] [(.int (4 : Int32)), (.int (4 : Int32))])) _
    refine XS.iload X14.here hx rfl (hb hby d5_58) rfl ?_
    refine XS.ineg X14.here hx rfl (hb hby d5_60) rfl ?_
    refine XS.iand X14.here hx rfl (hb hby d5_61) rfl ?_
    show Steps p.tables e below (T14.setTop (mkF m 62 #[.val (.ref a5_0), .val (.int (1 : Int32)), .val (.int (3 : Int32)), .val (.int (4 : Int32)), .val (.ref bx7_0_8), .val (.int (4 : Int32)), .val (.int (2 : Int32))] [(.int (4 : Int32)), (.int (4 : Int32))])) _
    refine XS.isub X14.here hx rfl (hb hby d5_62) rfl ?_
    refine XS.istore X14.here hx rfl (hb hby d5_63) rfl (l' := #[.val (.ref a5_0), .val (.int (1 : Int32)), .val (.int (3 : Int32)), .val (.int (4 : Int32)), .val (.ref bx7_0_8), .val (.int (4 : Int32)), .val (.int (0 : Int32))]) rfl ?_
    refine XS.iload X14.here hx rfl (hb hby d5_65) rfl ?_
    show Steps p.tables e below (T14.setTop (mkF m 67 #[.val (.ref a5_0), .val (.int (1 : Int32)), .val (.int (3 : Int32)), .val (.int (4 : Int32)), .val (.ref bx7_0_8), .val (.int (4 : Int32)), .val (.int (0 : Int32))] [(.int (0 : Int32))])) _
    refine XS.aloadN X14.here hx rfl (hb hby d5_67) rfl rfl ?_
    refine st15 _ ?_
    show Steps p.tables e below (T15.setTop (mkF m 71 #[.val (.ref a5_0), .val (.int (1 : Int32)), .val (.int (3 : Int32)), .val (.int (4 : Int32)), .val (.ref bx7_0_8), .val (.int (4 : Int32)), .val (.int (0 : Int32))] [(.int (2 : Int32)), (.int (0 : Int32))])) _
    refine XS.icmpNo X15.here hx rfl (hb hby d5_71) rfl (tlt (by decide : (0 : Int32) < (2 : Int32))).2.1 ?_
    refine XS.aload X15.here hx rfl (hb hby d5_74) rfl rfl ?_
    refine XS.iload X15.here hx rfl (hb hby d5_76) rfl ?_
    show Steps p.tables e below (T15.setTop (mkF m 78 #[.val (.ref a5_0), .val (.int (1 : Int32)), .val (.int (3 : Int32)), .val (.int (4 : Int32)), .val (.ref bx7_0_8), .val (.int (4 : Int32)), .val (.int (0 : Int32))] [(.int (4 : Int32)), (.ref bx7_0_8)])) _
    refine XS.iconst X15.here hx rfl (hb hby d5_78) ?_
    refine XS.isub X15.here hx rfl (hb hby d5_79) rfl ?_
    refine XS.aloadN X15.here hx rfl (hb hby d5_80) rfl rfl ?_
    show Steps p.tables e below (T15.setTop (mkF m 81 #[.val (.ref a5_0), .val (.int (1 : Int32)), .val (.int (3 : Int32)), .val (.int (4 : Int32)), .val (.ref bx7_0_8), .val (.int (4 : Int32)), .val (.int (0 : Int32))] [(.ref a5_0), (.int (3 : Int32)), (.ref bx7_0_8)])) _
    refine st17 _ ?_
    refine XS.aloadN X17.here hx rfl (hb hby d5_84) rfl rfl ?_
    refine XS.iload X17.here hx rfl (hb hby d5_85) rfl ?_
    show Steps p.tables e below (T17.setTop (mkF m 87 #[.val (.ref a5_0), .val (.int (1 : Int32)), .val (.int (3 : Int32)), .val (.int (4 : Int32)), .val (.ref bx7_0_8), .val (.int (4 : Int32)), .val (.int (0 : Int32))] [(.int (0 : Int32)), (.ref a5_0), (.long w_total_a5_0), (.int (3 : Int32)), (.ref bx7_0_8)])) _
    refine st19.trans ?_
    refine XS.lsub X19.here hx rfl (hb hby d5_90) rfl ?_
    refine st21 _ ?_
    show Steps p.tables e below (T21.setTop (mkF m 92 #[.val (.ref a5_0), .val (.int (1 : Int32)), .val (.int (3 : Int32)), .val (.int (4 : Int32)), .val (.ref bx7_0_8), .val (.int (4 : Int32)), .val (.int (0 : Int32))] [])) _
    refine XS.iinc X21.here hx rfl (hb hby d5_92) rfl (l' := #[.val (.ref a5_0), .val (.int (1 : Int32)), .val (.int (3 : Int32)), .val (.int (4 : Int32)), .val (.ref bx7_0_8), .val (.int (5 : Int32)), .val (.int (0 : Int32))]) rfl ?_
    refine XS.goto X21.here hx rfl (pc0 := 95) (pc' := 48) rfl (hb hby d5_95) (by decide) (by decide) ?_
    refine XS.iload X21.here hx rfl (hb hby d5_48) rfl ?_
    show Steps p.tables e below (T21.setTop (mkF m 50 #[.val (.ref a5_0), .val (.int (1 : Int32)), .val (.int (3 : Int32)), .val (.int (4 : Int32)), .val (.ref bx7_0_8), .val (.int (5 : Int32)), .val (.int (0 : Int32))] [(.int (5 : Int32))])) _
    refine XS.iloadN X21.here hx rfl (hb hby d5_50) rfl ?_
    show Steps p.tables e below (T21.setTop (mkF m 51 #[.val (.ref a5_0), .val (.int (1 : Int32)), .val (.int (3 : Int32)), .val (.int (4 : Int32)), .val (.ref bx7_0_8), .val (.int (5 : Int32)), .val (.int (0 : Int32))] [(.int (4 : Int32)), (.int (5 : Int32))])) _
    refine XS.icmpYes X21.here hx rfl (pc0 := 51) (pc' := 98) rfl (hb hby d5_51) rfl (tlt (by decide : (4 : Int32) < (5 : Int32))).2.2.1 (by decide) (by decide) ?_
    refine XS.aloadN X21.here hx rfl (hb hby d5_98) rfl rfl ?_
    refine XS.aload X21.here hx rfl (hb hby d5_99) rfl rfl ?_
    show Steps p.tables e below (T21.setTop (mkF m 101 #[.val (.ref a5_0), .val (.int (1 : Int32)), .val (.int (3 : Int32)), .val (.int (4 : Int32)), .val (.ref bx7_0_8), .val (.int (5 : Int32)), .val (.int (0 : Int32))] [(.ref bx7_0_8), (.ref a5_0)])) _
    refine st24 _ ?_
    show Steps p.tables e below (T24.setTop (mkF m 104 #[.val (.ref a5_0), .val (.int (1 : Int32)), .val (.int (3 : Int32)), .val (.int (4 : Int32)), .val (.ref bx7_0_8), .val (.int (5 : Int32)), .val (.int (0 : Int32))] [])) _
    exact X24.returnOut hx Bd.returns (hb hby d5_104) hr
  · have f25 := (f22.wr W24)
    have f26 := ((f13.other W21 (Or.inl ne_a5_0_bx7_0_8)).other W24 (Or.inr (slot_ne (Or.inl (ow29 hw)) (Or.inl (ow17 hw)) (by decide) (t := .int) (t' := (.array .long)) (by decide) (by decide))))
    have f27 := ((f16.other W21 (Or.inl ne_a5_0_bx7_0_8)).other W24 (Or.inr (slot_ne (Or.inl (ow51 hw)) (Or.inl (ow17 hw)) (by decide) (t := .long) (t' := (.array .long)) (by decide) (by decide))))
    have f28 := (V21.other W24 (Ne.symm ne_a5_0_bx7_0_8))
    show Q_rm5_3 Z a5_0 w_tree_a5_0 w_total_a5_0 kc_w_tree_a5_0 t_w_tree_a5_0_0 t_w_tree_a5_0_1 h0 n0 _ T24.heap _
    rw [e24]
    exact ⟨bx7_0_8, kx7_0_8, rfl, N24, K24, sz_bx7_0_8, f25, F24, f26, f27, f28⟩
theorem ef_rm9_3 (m : MethodId) (y0 : Addr) (y2 : Int64) : entryFrame m #[(.ref y0), (.int (2 : Int32)), (.long y2)] 5 = mkF m 0 #[.val (.ref y0), .val (.int (2 : Int32)), .val (.long y2), .second, .unset] [] := by first | (simp [entryFrame, mkF, argsToLocals, Value.category]; done) | rfl
def Q_rm9_3 (Z : State) (a9_0 : Addr) (q9_2 : Int64) (w_tree_a9_0 : Addr) (w_total_a9_0 : Int64) (kc_w_tree_a9_0 : ClassId) (t_w_tree_a9_0_0 : Int64) (t_w_tree_a9_0_1 : Int64) (t_w_tree_a9_0_2 : Int64) (t_w_tree_a9_0_3 : Int64) (h0 : Heap) (n0 : Nat) (v : Option Value) (h : Heap) (L : List Loc) : Prop := v = none ∧ Fr n0 L ∧ Keep h0 h [a9_0, w_tree_a9_0] ∧ Exa Z h a9_0 "com/example/motley/motley/CountTree" ∧ Fld Z h a9_0 "com/example/motley/motley/CountTree" "tree" "[J" (.ref w_tree_a9_0) ∧ Fld Z h a9_0 "com/example/motley/motley/CountTree" "size" "I" (.int (3 : Int32)) ∧ Fld Z h a9_0 "com/example/motley/motley/CountTree" "total" "J" (.long (w_total_a9_0 + q9_2)) ∧ Arv Z h w_tree_a9_0 kc_w_tree_a9_0 .long (4 : Int32) [(.long t_w_tree_a9_0_0), (.long t_w_tree_a9_0_1), (.long (t_w_tree_a9_0_2 + q9_2)), (.long (t_w_tree_a9_0_3 + q9_2))] (.long (0 : Int64))
set_option maxRecDepth 65536 in
set_option maxHeartbeats 40000000 in
theorem rm9_3 (l : Launch) (Z : State) (a0 : Array Value) (hw : ∀ d ∈ tables_1, d.before a0 Z = true) (ws : List Jvm.Cond) (a9_0 : Addr) (q9_2 : Int64) (w_tree_a9_0 : Addr) (w_total_a9_0 : Int64) (kc_w_tree_a9_0 : ClassId) (t_w_tree_a9_0_0 : Int64) (t_w_tree_a9_0_1 : Int64) (t_w_tree_a9_0_2 : Int64) (t_w_tree_a9_0_3 : Int64) (h0 : Heap) (n0 : Nat) (Z0 : n0 ≤ h0.size) (E_a9_0 : Exa Z h0 a9_0 "com/example/motley/motley/CountTree") (F_tree_a9_0 : Fld Z h0 a9_0 "com/example/motley/motley/CountTree" "tree" "[J" (.ref w_tree_a9_0)) (F_size_a9_0 : Fld Z h0 a9_0 "com/example/motley/motley/CountTree" "size" "I" (.int (3 : Int32))) (F_total_a9_0 : Fld Z h0 a9_0 "com/example/motley/motley/CountTree" "total" "J" (.long w_total_a9_0)) (V_w_tree_a9_0 : Arv Z h0 w_tree_a9_0 kc_w_tree_a9_0 .long (4 : Int32) [(.long t_w_tree_a9_0_0), (.long t_w_tree_a9_0_1), (.long t_w_tree_a9_0_2), (.long t_w_tree_a9_0_3)] (.long (0 : Int64))) (g_a9_0 : n0 ≤ a9_0) (ne_w_tree_a9_0_a9_0 : w_tree_a9_0 ≠ a9_0) (g_w_tree_a9_0 : n0 ≤ w_tree_a9_0) :
    MetFree l (⟨"com/example/motley/motley/CountTree", "add", "(IJ)V"⟩ : MethodName) (head1 (Jvm.Cond.code (⟨"com/example/motley/motley/CountTree", "add", "(IJ)V"⟩ : MethodName) prog_14_method_7_code 5 none :: ws) ({ frames := 0, cells := 0, slots := 0, locals := 0 } : Room)) (fun a U => a = #[(.ref a9_0), (.int (2 : Int32)), (.long q9_2)] ∧ Z.Warmed39 U.vm ∧ U.heap = h0) (fun _ _ _ _ _ => True) (fun _ U o U' => ∃ v L, o = .returned v ∧ Q_rm9_3 Z a9_0 q9_2 w_tree_a9_0 w_total_a9_0 kc_w_tree_a9_0 t_w_tree_a9_0_0 t_w_tree_a9_0_1 t_w_tree_a9_0_2 t_w_tree_a9_0_3 h0 n0 v U'.heap L ∧ FrameEnd U o U' L ({ frames := 0, cells := 0, slots := 0, locals := 0 } : Room).cells ({ frames := 0, cells := 0, slots := 0, locals := 0 } : Room).slots) := by
  refine MetFree.of_bodySF (plainFor_of_name pn_9) hisR ?_
  intro p e s m args below meth c s₁ Bd hml0 hP hK
  obtain ⟨rfl, hZ, hh⟩ := hP
  have hx := Bd.exec
  have hby := Bd.bytes
  have hml : c.maxLocals = 5 := hml0
  have hown : s.vm.findClass "com/example/motley/motley/CountTree" = some m.cls := findClass_of_methodNamed Bd.named
  have hnm := (name_of_methodNamed Bd.named Bd.method).1
  have X0 : Stand p l e ({ frames := 0, cells := 0, slots := 0, locals := 0 } : Room) s m #[(.ref a9_0), (.int (2 : Int32)), (.long q9_2)] below meth c s₁ [] 0 0 := Stand.of_body Bd
  have e0 : s₁.heap = h0 := by rw [← hh, Bd.state]; rfl
  have N0 := Fr.nil n0
  have pre0 : ∀ t, Steps p.tables e below (s₁.setTop (mkF m 0 #[.val (.ref a9_0), .val (.int (2 : Int32)), .val (.long q9_2), .second, .unset] [])) t → Steps p.tables e below (s₁.setTop (entryFrame m #[(.ref a9_0), (.int (2 : Int32)), (.long q9_2)] 5)) t := fun t k => castTop (ef_rm9_3 m a9_0 q9_2) k
  obtain ⟨T1, X1, e1, st1⟩ := getF X0 hx hZ hown (host := "") (Or.inl (ow50 hw)) Via.refl e0 F_total_a9_0 (g := (mkF m 2 #[.val (.ref a9_0), .val (.int (2 : Int32)), .val (.long q9_2), .second, .unset] [(.ref a9_0), (.ref a9_0)])) rfl rfl (hb hby d9_2)
  obtain ⟨T2, h2, X2, e2, W2, st2⟩ := putF X1 hx hZ hown (host := "") (Or.inl (ow50 hw)) Via.refl e1 F_total_a9_0 E_a9_0 (Or.inl (ow51 hw)) (ow7 hw) (ty := .long) (by decide) rfl rfl (g := (mkF m 7 #[.val (.ref a9_0), .val (.int (2 : Int32)), .val (.long q9_2), .second, .unset] [(.long (w_total_a9_0 + q9_2)), (.ref a9_0)])) rfl rfl (hb hby d9_7)
  have F2 := F_total_a9_0.same W2
  have K2 : Keep h0 h2 [a9_0, w_tree_a9_0] := (Keep.refl h0 [a9_0, w_tree_a9_0]).wr W2 (Or.inl (List.mem_of_getElem? (i := 0) rfl))
  have Z2 : n0 ≤ h2.size := Nat.le_trans Z0 K2.1
  have N2 := Fr.snoc X2 N0 g_a9_0
  have f3 := (F_tree_a9_0.other W2 (Or.inr (slot_ne (Or.inl (ow17 hw)) (Or.inl (ow51 hw)) (by decide) (t := (.array .long)) (t' := .long) (by decide) (by decide))))
  obtain ⟨T4, X4, e4, st4⟩ := getF X2 hx hZ hown (host := "") (Or.inl (ow16 hw)) Via.refl e2 f3 (g := (mkF m 18 #[.val (.ref a9_0), .val (.int (2 : Int32)), .val (.long q9_2), .second, .val (.int (3 : Int32))] [(.ref a9_0), (.int (3 : Int32))])) rfl rfl (hb hby d9_18)
  have f5 := (V_w_tree_a9_0.other W2 ne_w_tree_a9_0_a9_0)
  obtain ⟨cl6, Ar6, qk6, Sz6, Nz6, Hh6, Gf6⟩ := id f5
  obtain ⟨T7, X7, e7, st7⟩ := getF X4 hx hZ hown (host := "") (Or.inl (ow16 hw)) Via.refl e4 f3 (g := (mkF m 26 #[.val (.ref a9_0), .val (.int (2 : Int32)), .val (.long q9_2), .second, .val (.int (3 : Int32))] [(.ref a9_0)])) rfl rfl (hb hby d9_26)
  obtain ⟨cl8, Ar8, qk8, Sz8, Nz8, Hh8, Gf8⟩ := id f5
  obtain ⟨cl9, Ar9, qk9, Sz9, Nz9, Hh9, Gf9⟩ := id f5
  obtain ⟨T10, h10, X10, e10, W10, st10⟩ := stJ X7 hx hZ e7 Ar9 (j := (2 : Int32)) (inb_of Sz9 ⟨by decide, by decide⟩) (g := (mkF m 37 #[.val (.ref a9_0), .val (.int (2 : Int32)), .val (.long q9_2), .second, .val (.int (3 : Int32))] [(.long (t_w_tree_a9_0_2 + q9_2)), (.int (2 : Int32)), (.ref w_tree_a9_0)])) rfl rfl (hb hby d9_37)
  have V10 : Arv Z h10 w_tree_a9_0 kc_w_tree_a9_0 .long (4 : Int32) [(.long t_w_tree_a9_0_0), (.long t_w_tree_a9_0_1), (.long (t_w_tree_a9_0_2 + q9_2)), (.long t_w_tree_a9_0_3)] (.long (0 : Int64)) := Arv.set Ar9 qk9 Sz9 Nz9 Hh9 Gf9 rfl W10 2 rfl (Nat.le_of_ble_eq_true rfl)
  have K10 : Keep h0 h10 [a9_0, w_tree_a9_0] := K2.wr W10 (Or.inl (List.mem_of_getElem? (i := 1) rfl))
  have Z10 : n0 ≤ h10.size := Nat.le_trans Z0 K10.1
  have N10 := Fr.snoc X10 N2 g_w_tree_a9_0
  have f11 := (f3.other W10 (Or.inl (Ne.symm ne_w_tree_a9_0_a9_0)))
  obtain ⟨T12, X12, e12, st12⟩ := getF X10 hx hZ hown (host := "") (Or.inl (ow16 hw)) Via.refl e10 f11 (g := (mkF m 18 #[.val (.ref a9_0), .val (.int (2 : Int32)), .val (.long q9_2), .second, .val (.int (4 : Int32))] [(.ref a9_0), (.int (4 : Int32))])) rfl rfl (hb hby d9_18)
  obtain ⟨cl13, Ar13, qk13, Sz13, Nz13, Hh13, Gf13⟩ := id V10
  obtain ⟨T14, X14, e14, st14⟩ := getF X12 hx hZ hown (host := "") (Or.inl (ow16 hw)) Via.refl e12 f11 (g := (mkF m 26 #[.val (.ref a9_0), .val (.int (2 : Int32)), .val (.long q9_2), .second, .val (.int (4 : Int32))] [(.ref a9_0)])) rfl rfl (hb hby d9_26)
  obtain ⟨cl15, Ar15, qk15, Sz15, Nz15, Hh15, Gf15⟩ := id V10
  obtain ⟨cl16, Ar16, qk16, Sz16, Nz16, Hh16, Gf16⟩ := id V10
  obtain ⟨T17, h17, X17, e17, W17, st17⟩ := stJ X14 hx hZ e14 Ar16 (j := (3 : Int32)) (inb_of Sz16 ⟨by decide, by decide⟩) (g := (mkF m 37 #[.val (.ref a9_0), .val (.int (2 : Int32)), .val (.long q9_2), .second, .val (.int (4 : Int32))] [(.long (t_w_tree_a9_0_3 + q9_2)), (.int (3 : Int32)), (.ref w_tree_a9_0)])) rfl rfl (hb hby d9_37)
  have V17 : Arv Z h17 w_tree_a9_0 kc_w_tree_a9_0 .long (4 : Int32) [(.long t_w_tree_a9_0_0), (.long t_w_tree_a9_0_1), (.long (t_w_tree_a9_0_2 + q9_2)), (.long (t_w_tree_a9_0_3 + q9_2))] (.long (0 : Int64)) := Arv.set Ar16 qk16 Sz16 Nz16 Hh16 Gf16 rfl W17 3 rfl (Nat.le_of_ble_eq_true rfl)
  have K17 : Keep h0 h17 [a9_0, w_tree_a9_0] := K10.wr W17 (Or.inl (List.mem_of_getElem? (i := 1) rfl))
  have Z17 : n0 ≤ h17.size := Nat.le_trans Z0 K17.1
  have N17 := Fr.snoc X17 N10 g_w_tree_a9_0
  have f18 := (f11.other W17 (Or.inl (Ne.symm ne_w_tree_a9_0_a9_0)))
  obtain ⟨T19, X19, e19, st19⟩ := getF X17 hx hZ hown (host := "") (Or.inl (ow16 hw)) Via.refl e17 f18 (g := (mkF m 18 #[.val (.ref a9_0), .val (.int (2 : Int32)), .val (.long q9_2), .second, .val (.int (8 : Int32))] [(.ref a9_0), (.int (8 : Int32))])) rfl rfl (hb hby d9_18)
  obtain ⟨cl20, Ar20, qk20, Sz20, Nz20, Hh20, Gf20⟩ := id V17
  obtain ⟨fs, hr, hrun, hended, hW, hsame⟩ := X19.leave (v := none) (fun _ => rfl)
  refine ⟨_, _, pre0 _ ?_, hrun, hended, _, _, rfl, ?_, ⟨_, rfl⟩, hW, hsame.mono (by decide) (by decide)⟩
  · show Steps p.tables e below (s₁.setTop (mkF m 0 #[.val (.ref a9_0), .val (.int (2 : Int32)), .val (.long q9_2), .second, .unset] [])) _
    refine XS.aloadN X0.here hx rfl (hb hby d9_0) rfl rfl ?_
    refine XS.dup X0.here hx rfl (hb hby d9_1) rfl rfl ?_
    refine st1 _ ?_
    show Steps p.tables e below (T1.setTop (mkF m 5 #[.val (.ref a9_0), .val (.int (2 : Int32)), .val (.long q9_2), .second, .unset] [(.long w_total_a9_0), (.ref a9_0)])) _
    refine XS.lloadN X1.here hx rfl (hb hby d9_5) rfl ?_
    refine XS.ladd X1.here hx rfl (hb hby d9_6) rfl ?_
    refine st2 _ ?_
    show Steps p.tables e below (T2.setTop (mkF m 10 #[.val (.ref a9_0), .val (.int (2 : Int32)), .val (.long q9_2), .second, .unset] [])) _
    refine XS.iloadN X2.here hx rfl (hb hby d9_10) rfl ?_
    refine XS.iconst X2.here hx rfl (hb hby d9_11) ?_
    refine XS.iadd X2.here hx rfl (hb hby d9_12) rfl ?_
    show Steps p.tables e below (T2.setTop (mkF m 13 #[.val (.ref a9_0), .val (.int (2 : Int32)), .val (.long q9_2), .second, .unset] [(.int (3 : Int32))])) _
    refine XS.istore X2.here hx rfl (hb hby d9_13) rfl (l' := #[.val (.ref a9_0), .val (.int (2 : Int32)), .val (.long q9_2), .second, .val (.int (3 : Int32))]) rfl ?_
    refine XS.iload X2.here hx rfl (hb hby d9_15) rfl ?_
    refine XS.aloadN X2.here hx rfl (hb hby d9_17) rfl rfl ?_
    show Steps p.tables e below (T2.setTop (mkF m 18 #[.val (.ref a9_0), .val (.int (2 : Int32)), .val (.long q9_2), .second, .val (.int (3 : Int32))] [(.ref a9_0), (.int (3 : Int32))])) _
    refine st4 _ ?_
    show Steps p.tables e below (T4.setTop (mkF m 21 #[.val (.ref a9_0), .val (.int (2 : Int32)), .val (.long q9_2), .second, .val (.int (3 : Int32))] [(.ref w_tree_a9_0), (.int (3 : Int32))])) _
    refine X4.arraylength hx (cell := cl6) (by rw [e4]; exact Ar6.1) (State.isArrayOf_alike hZ.alike Ar6.2.1) (g := (mkF m 21 #[.val (.ref a9_0), .val (.int (2 : Int32)), .val (.long q9_2), .second, .val (.int (3 : Int32))] [(.ref w_tree_a9_0), (.int (3 : Int32))])) rfl (rest := [(.int (3 : Int32))]) rfl (hb hby d9_21) _ ?_
    rw [len_of Sz6 Nz6]
    show Steps p.tables e below (T4.setTop (mkF m 22 #[.val (.ref a9_0), .val (.int (2 : Int32)), .val (.long q9_2), .second, .val (.int (3 : Int32))] [(.int (4 : Int32)), (.int (3 : Int32))])) _
    refine XS.icmpNo X4.here hx rfl (hb hby d9_22) rfl (flt (by decide : ¬ ((4 : Int32) < (3 : Int32)))).2.2.1 ?_
    refine XS.aloadN X4.here hx rfl (hb hby d9_25) rfl rfl ?_
    refine st7 _ ?_
    show Steps p.tables e below (T7.setTop (mkF m 29 #[.val (.ref a9_0), .val (.int (2 : Int32)), .val (.long q9_2), .second, .val (.int (3 : Int32))] [(.ref w_tree_a9_0)])) _
    refine XS.iload X7.here hx rfl (hb hby d9_29) rfl ?_
    refine XS.iconst X7.here hx rfl (hb hby d9_31) ?_
    refine XS.isub X7.here hx rfl (hb hby d9_32) rfl ?_
    show Steps p.tables e below (T7.setTop (mkF m 33 #[.val (.ref a9_0), .val (.int (2 : Int32)), .val (.long q9_2), .second, .val (.int (3 : Int32))] [(.int (2 : Int32)), (.ref w_tree_a9_0)])) _
    jvm_step X7.here [X7.here.top, hx, (hb hby d9_33), Value.category]
    refine X7.laload hx (j := (2 : Int32)) (v := (.long t_w_tree_a9_0_2)) (by rw [e7]; exact Ar8.1) (State.isArrayOf_alike hZ.alike Ar8.2.1) Ar8.2.2 (inb_of Sz8 ⟨by decide, by decide⟩) (Hh8.at (inb_of Sz8 ⟨by decide, by decide⟩) rfl) (g := (mkF m 34 #[.val (.ref a9_0), .val (.int (2 : Int32)), .val (.long q9_2), .second, .val (.int (3 : Int32))] [(.int (2 : Int32)), (.ref w_tree_a9_0), (.int (2 : Int32)), (.ref w_tree_a9_0)])) rfl rfl (hb hby d9_34) _ ?_
    refine XS.lloadN X7.here hx rfl (hb hby d9_35) rfl ?_
    show Steps p.tables e below (T7.setTop (mkF m 36 #[.val (.ref a9_0), .val (.int (2 : Int32)), .val (.long q9_2), .second, .val (.int (3 : Int32))] [(.long q9_2), (.long t_w_tree_a9_0_2), (.int (2 : Int32)), (.ref w_tree_a9_0)])) _
    refine XS.ladd X7.here hx rfl (hb hby d9_36) rfl ?_
    refine st10 _ ?_
    refine XS.iload X10.here hx rfl (hb hby d9_38) rfl ?_
    show Steps p.tables e below (T10.setTop (mkF m 40 #[.val (.ref a9_0), .val (.int (2 : Int32)), .val (.long q9_2), .second, .val (.int (3 : Int32))] [(.int (3 : Int32))])) _
    refine XS.iload X10.here hx rfl (hb hby d9_40) rfl ?_
    refine XS.iload X10.here hx rfl (hb hby d9_42) rfl ?_
    refine XS.ineg X10.here hx rfl (hb hby d9_44) rfl ?_
    show Steps p.tables e below (T10.setTop (mkF m 45 #[.val (.ref a9_0), .val (.int (2 : Int32)), .val (.long q9_2), .second, .val (.int (3 : Int32))] [(.int (-3 : Int32)), (.int (3 : Int32)), (.int (3 : Int32))])) _
    refine XS.iand X10.here hx rfl (hb hby d9_45) rfl ?_
    refine XS.iadd X10.here hx rfl (hb hby d9_46) rfl ?_
    refine XS.istore X10.here hx rfl (hb hby d9_47) rfl (l' := #[.val (.ref a9_0), .val (.int (2 : Int32)), .val (.long q9_2), .second, .val (.int (4 : Int32))]) rfl ?_
    show Steps p.tables e below (T10.setTop (mkF m 49 #[.val (.ref a9_0), .val (.int (2 : Int32)), .val (.long q9_2), .second, .val (.int (4 : Int32))] [])) _
    refine XS.goto X10.here hx rfl (pc0 := 49) (pc' := 15) rfl (hb hby d9_49) (by decide) (by decide) ?_
    refine XS.iload X10.here hx rfl (hb hby d9_15) rfl ?_
    refine XS.aloadN X10.here hx rfl (hb hby d9_17) rfl rfl ?_
    show Steps p.tables e below (T10.setTop (mkF m 18 #[.val (.ref a9_0), .val (.int (2 : Int32)), .val (.long q9_2), .second, .val (.int (4 : Int32))] [(.ref a9_0), (.int (4 : Int32))])) _
    refine st12 _ ?_
    show Steps p.tables e below (T12.setTop (mkF m 21 #[.val (.ref a9_0), .val (.int (2 : Int32)), .val (.long q9_2), .second, .val (.int (4 : Int32))] [(.ref w_tree_a9_0), (.int (4 : Int32))])) _
    refine X12.arraylength hx (cell := cl13) (by rw [e12]; exact Ar13.1) (State.isArrayOf_alike hZ.alike Ar13.2.1) (g := (mkF m 21 #[.val (.ref a9_0), .val (.int (2 : Int32)), .val (.long q9_2), .second, .val (.int (4 : Int32))] [(.ref w_tree_a9_0), (.int (4 : Int32))])) rfl (rest := [(.int (4 : Int32))]) rfl (hb hby d9_21) _ ?_
    rw [len_of Sz13 Nz13]
    show Steps p.tables e below (T12.setTop (mkF m 22 #[.val (.ref a9_0), .val (.int (2 : Int32)), .val (.long q9_2), .second, .val (.int (4 : Int32))] [(.int (4 : Int32)), (.int (4 : Int32))])) _
    refine XS.icmpNo X12.here hx rfl (hb hby d9_22) rfl (flt (by decide : ¬ ((4 : Int32) < (4 : Int32)))).2.2.1 ?_
    refine XS.aloadN X12.here hx rfl (hb hby d9_25) rfl rfl ?_
    refine st14 _ ?_
    show Steps p.tables e below (T14.setTop (mkF m 29 #[.val (.ref a9_0), .val (.int (2 : Int32)), .val (.long q9_2), .second, .val (.int (4 : Int32))] [(.ref w_tree_a9_0)])) _
    refine XS.iload X14.here hx rfl (hb hby d9_29) rfl ?_
    refine XS.iconst X14.here hx rfl (hb hby d9_31) ?_
    refine XS.isub X14.here hx rfl (hb hby d9_32) rfl ?_
    show Steps p.tables e below (T14.setTop (mkF m 33 #[.val (.ref a9_0), .val (.int (2 : Int32)), .val (.long q9_2), .second, .val (.int (4 : Int32))] [(.int (3 : Int32)), (.ref w_tree_a9_0)])) _
    jvm_step X14.here [X14.here.top, hx, (hb hby d9_33), Value.category]
    refine X14.laload hx (j := (3 : Int32)) (v := (.long t_w_tree_a9_0_3)) (by rw [e14]; exact Ar15.1) (State.isArrayOf_alike hZ.alike Ar15.2.1) Ar15.2.2 (inb_of Sz15 ⟨by decide, by decide⟩) (Hh15.at (inb_of Sz15 ⟨by decide, by decide⟩) rfl) (g := (mkF m 34 #[.val (.ref a9_0), .val (.int (2 : Int32)), .val (.long q9_2), .second, .val (.int (4 : Int32))] [(.int (3 : Int32)), (.ref w_tree_a9_0), (.int (3 : Int32)), (.ref w_tree_a9_0)])) rfl rfl (hb hby d9_34) _ ?_
    refine XS.lloadN X14.here hx rfl (hb hby d9_35) rfl ?_
    show Steps p.tables e below (T14.setTop (mkF m 36 #[.val (.ref a9_0), .val (.int (2 : Int32)), .val (.long q9_2), .second, .val (.int (4 : Int32))] [(.long q9_2), (.long t_w_tree_a9_0_3), (.int (3 : Int32)), (.ref w_tree_a9_0)])) _
    refine XS.ladd X14.here hx rfl (hb hby d9_36) rfl ?_
    refine st17 _ ?_
    refine XS.iload X17.here hx rfl (hb hby d9_38) rfl ?_
    show Steps p.tables e below (T17.setTop (mkF m 40 #[.val (.ref a9_0), .val (.int (2 : Int32)), .val (.long q9_2), .second, .val (.int (4 : Int32))] [(.int (4 : Int32))])) _
    refine XS.iload X17.here hx rfl (hb hby d9_40) rfl ?_
    refine XS.iload X17.here hx rfl (hb hby d9_42) rfl ?_
    refine XS.ineg X17.here hx rfl (hb hby d9_44) rfl ?_
    show Steps p.tables e below (T17.setTop (mkF m 45 #[.val (.ref a9_0), .val (.int (2 : Int32)), .val (.long q9_2), .second, .val (.int (4 : Int32))] [(.int (-4 : Int32)), (.int (4 : Int32)), (.int (4 : Int32))])) _
    refine XS.iand X17.here hx rfl (hb hby d9_45) rfl ?_
    refine XS.iadd X17.here hx rfl (hb hby d9_46) rfl ?_
    refine XS.istore X17.here hx rfl (hb hby d9_47) rfl (l' := #[.val (.ref a9_0), .val (.int (2 : Int32)), .val (.long q9_2), .second, .val (.int (8 : Int32))]) rfl ?_
    show Steps p.tables e below (T17.setTop (mkF m 49 #[.val (.ref a9_0), .val (.int (2 : Int32)), .val (.long q9_2), .second, .val (.int (8 : Int32))] [])) _
    refine XS.goto X17.here hx rfl (pc0 := 49) (pc' := 15) rfl (hb hby d9_49) (by decide) (by decide) ?_
    refine XS.iload X17.here hx rfl (hb hby d9_15) rfl ?_
    refine XS.aloadN X17.here hx rfl (hb hby d9_17) rfl rfl ?_
    show Steps p.tables e below (T17.setTop (mkF m 18 #[.val (.ref a9_0), .val (.int (2 : Int32)), .val (.long q9_2), .second, .val (.int (8 : Int32))] [(.ref a9_0), (.int (8 : Int32))])) _
    refine st19 _ ?_
    show Steps p.tables e below (T19.setTop (mkF m 21 #[.val (.ref a9_0), .val (.int (2 : Int32)), .val (.long q9_2), .second, .val (.int (8 : Int32))] [(.ref w_tree_a9_0), (.int (8 : Int32))])) _
    refine X19.arraylength hx (cell := cl20) (by rw [e19]; exact Ar20.1) (State.isArrayOf_alike hZ.alike Ar20.2.1) (g := (mkF m 21 #[.val (.ref a9_0), .val (.int (2 : Int32)), .val (.long q9_2), .second, .val (.int (8 : Int32))] [(.ref w_tree_a9_0), (.int (8 : Int32))])) rfl (rest := [(.int (8 : Int32))]) rfl (hb hby d9_21) _ ?_
    rw [len_of Sz20 Nz20]
    show Steps p.tables e below (T19.setTop (mkF m 22 #[.val (.ref a9_0), .val (.int (2 : Int32)), .val (.long q9_2), .second, .val (.int (8 : Int32))] [(.int (4 : Int32)), (.int (8 : Int32))])) _
    refine XS.icmpYes X19.here hx rfl (pc0 := 22) (pc' := 52) rfl (hb hby d9_22) rfl (tlt (by decide : (4 : Int32) < (8 : Int32))).2.2.1 (by decide) (by decide) ?_
    show Steps p.tables e below (T19.setTop (mkF m 52 #[.val (.ref a9_0), .val (.int (2 : Int32)), .val (.long q9_2), .second, .val (.int (8 : Int32))] [])) _
    exact X19.returnOut hx Bd.returns (hb hby d9_52) hr
  · have f21 := (((E_a9_0.wr W2).wr W10).wr W17)
    have f22 := (((F_size_a9_0.other W2 (Or.inr (slot_ne (Or.inl (ow29 hw)) (Or.inl (ow51 hw)) (by decide) (t := .int) (t' := .long) (by decide) (by decide)))).other W10 (Or.inl (Ne.symm ne_w_tree_a9_0_a9_0))).other W17 (Or.inl (Ne.symm ne_w_tree_a9_0_a9_0)))
    have f23 := ((F2.other W10 (Or.inl (Ne.symm ne_w_tree_a9_0_a9_0))).other W17 (Or.inl (Ne.symm ne_w_tree_a9_0_a9_0)))
    show Q_rm9_3 Z a9_0 q9_2 w_tree_a9_0 w_total_a9_0 kc_w_tree_a9_0 t_w_tree_a9_0_0 t_w_tree_a9_0_1 t_w_tree_a9_0_2 t_w_tree_a9_0_3 h0 n0 _ T19.heap _
    rw [e19]
    exact ⟨rfl, N17, K17, f21, f18, f22, f23, V17⟩
theorem ef_rm4_3 (m : MethodId) (y0 : Addr) (y1 : Int64) : entryFrame m #[(.ref y0), (.long y1)] 3 = mkF m 0 #[.val (.ref y0), .val (.long y1), .second] [] := by first | (simp [entryFrame, mkF, argsToLocals, Value.category]; done) | rfl
def Q_rm4_3 (Z : State) (a4_0 : Addr) (q4_1 : Int64) (w_tree_a4_0 : Addr) (w_total_a4_0 : Int64) (kc_w_tree_a4_0 : ClassId) (t_w_tree_a4_0_0 : Int64) (t_w_tree_a4_0_1 : Int64) (h0 : Heap) (n0 : Nat) (v : Option Value) (h : Heap) (L : List Loc) : Prop := ∃ bx4_0 : Addr, ∃ kx4_0 : ClassId, v = none ∧ Fr n0 L ∧ Keep h0 h [a4_0] ∧ h0.size ≤ bx4_0 ∧ Exa Z h a4_0 "com/example/motley/motley/CountTree" ∧ Fld Z h a4_0 "com/example/motley/motley/CountTree" "tree" "[J" (.ref bx4_0) ∧ Fld Z h a4_0 "com/example/motley/motley/CountTree" "size" "I" (.int (3 : Int32)) ∧ Fld Z h a4_0 "com/example/motley/motley/CountTree" "total" "J" (.long (w_total_a4_0 + q4_1)) ∧ Arv Z h bx4_0 kx4_0 .long (4 : Int32) [(.long t_w_tree_a4_0_0), (.long t_w_tree_a4_0_1), (.long ((0 : Int64) + q4_1)), (.long ((w_total_a4_0 - (0 : Int64)) + q4_1))] (.long (0 : Int64))
set_option maxRecDepth 65536 in
set_option maxHeartbeats 40000000 in
theorem rm4_3 (l : Launch) (Z : State) (a0 : Array Value) (hw : ∀ d ∈ tables_1, d.before a0 Z = true) (ws : List Jvm.Cond) (a4_0 : Addr) (q4_1 : Int64) (w_tree_a4_0 : Addr) (w_total_a4_0 : Int64) (kc_w_tree_a4_0 : ClassId) (t_w_tree_a4_0_0 : Int64) (t_w_tree_a4_0_1 : Int64) (h0 : Heap) (n0 : Nat) (Z0 : n0 ≤ h0.size) (E_a4_0 : Exa Z h0 a4_0 "com/example/motley/motley/CountTree") (F_tree_a4_0 : Fld Z h0 a4_0 "com/example/motley/motley/CountTree" "tree" "[J" (.ref w_tree_a4_0)) (F_size_a4_0 : Fld Z h0 a4_0 "com/example/motley/motley/CountTree" "size" "I" (.int (2 : Int32))) (F_total_a4_0 : Fld Z h0 a4_0 "com/example/motley/motley/CountTree" "total" "J" (.long w_total_a4_0)) (V_w_tree_a4_0 : Arv Z h0 w_tree_a4_0 kc_w_tree_a4_0 .long (2 : Int32) [(.long t_w_tree_a4_0_0), (.long t_w_tree_a4_0_1)] (.long (0 : Int64))) (g_a4_0 : n0 ≤ a4_0) :
    MetFree l (⟨"com/example/motley/motley/CountTree", "append", "(J)V"⟩ : MethodName) (head1 (Jvm.Cond.code (⟨"com/example/motley/motley/CountTree", "append", "(J)V"⟩ : MethodName) prog_14_method_4_code 3 none :: ws) ({ frames := 3, cells := 1, slots := 4, locals := 50 } : Room)) (fun a U => a = #[(.ref a4_0), (.long q4_1)] ∧ Z.Warmed39 U.vm ∧ U.heap = h0) (fun _ _ _ _ _ => True) (fun _ U o U' => ∃ v L, o = .returned v ∧ Q_rm4_3 Z a4_0 q4_1 w_tree_a4_0 w_total_a4_0 kc_w_tree_a4_0 t_w_tree_a4_0_0 t_w_tree_a4_0_1 h0 n0 v U'.heap L ∧ FrameEnd U o U' L ({ frames := 3, cells := 1, slots := 4, locals := 50 } : Room).cells ({ frames := 3, cells := 1, slots := 4, locals := 50 } : Room).slots) := by
  refine MetFree.of_bodySF (plainFor_of_name pn_4) hisR ?_
  intro p e s m args below meth c s₁ Bd hml0 hP hK
  obtain ⟨rfl, hZ, hh⟩ := hP
  have hx := Bd.exec
  have hby := Bd.bytes
  have hml : c.maxLocals = 3 := hml0
  have hown : s.vm.findClass "com/example/motley/motley/CountTree" = some m.cls := findClass_of_methodNamed Bd.named
  have hnm := (name_of_methodNamed Bd.named Bd.method).1
  have X0 : Stand p l e ({ frames := 3, cells := 1, slots := 4, locals := 50 } : Room) s m #[(.ref a4_0), (.long q4_1)] below meth c s₁ [] 0 0 := Stand.of_body Bd
  have e0 : s₁.heap = h0 := by rw [← hh, Bd.state]; rfl
  have N0 := Fr.nil n0
  have pre0 : ∀ t, Steps p.tables e below (s₁.setTop (mkF m 0 #[.val (.ref a4_0), .val (.long q4_1), .second] [])) t → Steps p.tables e below (s₁.setTop (entryFrame m #[(.ref a4_0), (.long q4_1)] 3)) t := fun t k => castTop (ef_rm4_3 m a4_0 q4_1) k
  obtain ⟨cq1, kq1, q1a, q1b, q1c⟩ := isOf hZ e0 E_a4_0
  obtain ⟨_, _, ⟨T1, L1, k1, n1⟩, -, X1, ⟨Lc1, hQ1, l1, y1, z1⟩, st1⟩ := X0.virtualBack hx (y := (⟨"com/example/motley/motley/CountTree", "reserve", "(I)V"⟩ : MethodName)) (z := (⟨"com/example/motley/motley/CountTree", "reserve", "(I)V"⟩ : MethodName)) hown (mvT hZ (ow23 hw)) (mvT hZ (ow24 hw)) (notFace_of_selects (args := #[]) (mvT hZ (ow26 hw))) (mvT hZ (ow26 hw)) (mvT hZ (ow25 hw)) (by decide) (backOf (W := 0) (rm5_3 l Z a0 hw [] a4_0 w_tree_a4_0 w_total_a4_0 kc_w_tree_a4_0 t_w_tree_a4_0_0 t_w_tree_a4_0_1 h0 n0 Z0 E_a4_0 F_tree_a4_0 F_size_a4_0 F_total_a4_0 V_w_tree_a4_0 g_a4_0) hZ (ow27 hw) (ow8 hw) (by decide) (by decide)) q1a q1c (g := (mkF m 2 #[.val (.ref a4_0), .val (.long q4_1), .second] [(.int (1 : Int32)), (.ref a4_0)])) rfl (by rw [hml]; rfl) (Steps.refl _) (argsL := [(.int (1 : Int32))]) (rest := []) (lenOf pd__I_V rfl) rfl (by show 2 * 0 + _ ≤ _; exact Nat.le_of_eq rfl) (hb hby d4_2) (fun _ _ => ⟨rfl, e0, (by decide : 0 + 1 ≤ _), (by decide : 0 + 4 ≤ _)⟩)
  dsimp only [Pt.U, Pt.locs, Pt.cells, Pt.slots] at X1 l1 y1 z1 st1 hQ1
  subst l1 y1 z1
  obtain ⟨bx5_0_1, kx5_0_1, rfl, Nq1, Kc1, P1_0, P1_1, P1_2, P1_3, P1_4, P1_5⟩ := hQ1
  have K1 : Keep h0 T1.heap [a4_0] := Keep.trans (Keep.refl h0 [a4_0]) Kc1 (allS (P := fun x => x ∈ ([a4_0] : List Addr) ∨ h0.size ≤ x) (Or.inl (List.mem_of_getElem? (i := 0) rfl)) all0)
  have Z1 : n0 ≤ T1.heap.size := Nat.le_trans Z0 K1.1
  have g_bx5_0_1 : n0 ≤ bx5_0_1 := Nat.le_trans Z0 P1_0
  have sz_bx5_0_1 : h0.size ≤ bx5_0_1 := Nat.le_trans (Nat.le_refl _) P1_0
  have ne_a4_0_bx5_0_1 : a4_0 ≠ bx5_0_1 := Nat.ne_of_lt (Nat.lt_of_lt_of_le E_a4_0.lt P1_0)
  have ne_w_tree_a4_0_bx5_0_1 : w_tree_a4_0 ≠ bx5_0_1 := Nat.ne_of_lt (Nat.lt_of_lt_of_le V_w_tree_a4_0.lt P1_0)
  obtain ⟨y2, hy2⟩ : ∃ z : Int64, z = (w_total_a4_0 - (0 : Int64)) := ⟨_, rfl⟩
  rw [← hy2] at P1_5
  have N1 := Fr.app N0 Nq1
  obtain ⟨T3, X3, e3, st3⟩ := getF X1 hx hZ hown (host := "") (Or.inl (ow28 hw)) Via.refl rfl P1_3 (g := (mkF m 7 #[.val (.ref a4_0), .val (.long q4_1), .second] [(.ref a4_0), (.ref a4_0)])) rfl rfl (hb hby d4_7)
  obtain ⟨T4, h4, X4, e4, W4, st4⟩ := putF X3 hx hZ hown (host := "") (Or.inl (ow28 hw)) Via.refl e3 P1_3 P1_1 (Or.inl (ow29 hw)) (ow7 hw) (ty := .int) (by decide) rfl rfl (g := (mkF m 12 #[.val (.ref a4_0), .val (.long q4_1), .second] [(.int (3 : Int32)), (.ref a4_0)])) rfl rfl (hb hby d4_12)
  have F4 := P1_3.same W4
  have K4 : Keep h0 h4 [a4_0] := K1.wr W4 (Or.inl (List.mem_of_getElem? (i := 0) rfl))
  have Z4 : n0 ≤ h4.size := Nat.le_trans Z0 K4.1
  have N4 := Fr.snoc X4 N1 g_a4_0
  obtain ⟨T5, X5, e5, st5⟩ := getF X4 hx hZ hown (host := "") (Or.inl (ow28 hw)) Via.refl e4 F4 (g := (mkF m 17 #[.val (.ref a4_0), .val (.long q4_1), .second] [(.ref a4_0), (.ref a4_0)])) rfl rfl (hb hby d4_17)
  have f6 := (P1_5.other W4 (Ne.symm ne_a4_0_bx5_0_1))
  have f7 := (P1_1.wr W4)
  have f8 := (P1_2.other W4 (Or.inr (slot_ne (Or.inl (ow17 hw)) (Or.inl (ow29 hw)) (by decide) (t := (.array .long)) (t' := .int) (by decide) (by decide))))
  have f9 := (P1_4.other W4 (Or.inr (slot_ne (Or.inl (ow51 hw)) (Or.inl (ow29 hw)) (by decide) (t := .long) (t' := .int) (by decide) (by decide))))
  obtain ⟨cq10, kq10, q10a, q10b, q10c⟩ := isOf hZ e5 f7
  obtain ⟨_, _, ⟨T10, L10, k10, n10⟩, -, X10, ⟨Lc10, hQ10, l10, y10, z10⟩, st10⟩ := X5.virtualBack hx (y := (⟨"com/example/motley/motley/CountTree", "add", "(IJ)V"⟩ : MethodName)) (z := (⟨"com/example/motley/motley/CountTree", "add", "(IJ)V"⟩ : MethodName)) hown (mvT hZ (ow45 hw)) (mvT hZ (ow46 hw)) (notFace_of_selects (args := #[]) (mvT hZ (ow48 hw))) (mvT hZ (ow48 hw)) (mvT hZ (ow47 hw)) (by decide) (backOf (W := 0) (rm9_3 l Z a0 hw [] a4_0 q4_1 bx5_0_1 w_total_a4_0 kx5_0_1 t_w_tree_a4_0_0 t_w_tree_a4_0_1 (0 : Int64) y2 h4 n0 Z4 f7 f8 F4 f9 f6 g_a4_0 (Ne.symm ne_a4_0_bx5_0_1) g_bx5_0_1) hZ (ow49 hw) (ow8 hw) (by decide) (by decide)) q10a q10c (g := (mkF m 23 #[.val (.ref a4_0), .val (.long q4_1), .second] [(.long q4_1), (.int (2 : Int32)), (.ref a4_0)])) rfl (by rw [hml]; rfl) (Steps.refl _) (argsL := [(.int (2 : Int32)), (.long q4_1)]) (rest := []) (lenOf pd__IJ_V rfl) rfl (by show 2 * 0 + _ ≤ _; exact Nat.le_of_eq rfl) (hb hby d4_23) (fun _ _ => ⟨rfl, e5, (by decide : 1 + 0 ≤ _), (by decide : 4 + 0 ≤ _)⟩)
  dsimp only [Pt.U, Pt.locs, Pt.cells, Pt.slots] at X10 l10 y10 z10 st10 hQ10
  subst l10 y10 z10
  obtain ⟨rfl, Nq10, Kc10, P10_0, P10_1, P10_2, P10_3, P10_4⟩ := hQ10
  have K10 : Keep h0 T10.heap [a4_0] := Keep.trans K4 Kc10 (allS (P := fun x => x ∈ ([a4_0] : List Addr) ∨ h0.size ≤ x) (Or.inl (List.mem_of_getElem? (i := 0) rfl)) (allS (P := fun x => x ∈ ([a4_0] : List Addr) ∨ h0.size ≤ x) (Or.inr sz_bx5_0_1) all0))
  have Z10 : n0 ≤ T10.heap.size := Nat.le_trans Z0 K10.1
  obtain ⟨y11, hy11⟩ : ∃ z : Int64, z = (w_total_a4_0 + q4_1) := ⟨_, rfl⟩
  rw [← hy11] at P10_3
  obtain ⟨y12, hy12⟩ : ∃ z : Int64, z = ((0 : Int64) + q4_1) := ⟨_, rfl⟩
  rw [← hy12] at P10_4
  obtain ⟨y13, hy13⟩ : ∃ z : Int64, z = (y2 + q4_1) := ⟨_, rfl⟩
  rw [← hy13] at P10_4
  have N10 := Fr.app N4 Nq10
  obtain ⟨fs, hr, hrun, hended, hW, hsame⟩ := X10.leave (v := none) (fun _ => rfl)
  refine ⟨_, _, pre0 _ ?_, hrun, hended, _, _, rfl, ?_, ⟨_, rfl⟩, hW, hsame.mono (by decide) (by decide)⟩
  · show Steps p.tables e below (s₁.setTop (mkF m 0 #[.val (.ref a4_0), .val (.long q4_1), .second] [])) _
    refine XS.aloadN X0.here hx rfl (hb hby d4_0) rfl rfl ?_
    refine XS.iconst X0.here hx rfl (hb hby d4_1) ?_
    refine st1.trans ?_
    show Steps p.tables e below (T1.setTop (mkF m 5 #[.val (.ref a4_0), .val (.long q4_1), .second] [])) _
    refine XS.aloadN X1.here hx rfl (hb hby d4_5) rfl rfl ?_
    refine XS.dup X1.here hx rfl (hb hby d4_6) rfl rfl ?_
    refine st3 _ ?_
    show Steps p.tables e below (T3.setTop (mkF m 10 #[.val (.ref a4_0), .val (.long q4_1), .second] [(.int (2 : Int32)), (.ref a4_0)])) _
    refine XS.iconst X3.here hx rfl (hb hby d4_10) ?_
    refine XS.iadd X3.here hx rfl (hb hby d4_11) rfl ?_
    refine st4 _ ?_
    show Steps p.tables e below (T4.setTop (mkF m 15 #[.val (.ref a4_0), .val (.long q4_1), .second] [])) _
    refine XS.aloadN X4.here hx rfl (hb hby d4_15) rfl rfl ?_
    refine XS.aloadN X4.here hx rfl (hb hby d4_16) rfl rfl ?_
    refine st5 _ ?_
    show Steps p.tables e below (T5.setTop (mkF m 20 #[.val (.ref a4_0), .val (.long q4_1), .second] [(.int (3 : Int32)), (.ref a4_0)])) _
    refine XS.iconst X5.here hx rfl (hb hby d4_20) ?_
    refine XS.isub X5.here hx rfl (hb hby d4_21) rfl ?_
    refine XS.lloadN X5.here hx rfl (hb hby d4_22) rfl ?_
    show Steps p.tables e below (T5.setTop (mkF m 23 #[.val (.ref a4_0), .val (.long q4_1), .second] [(.long q4_1), (.int (2 : Int32)), (.ref a4_0)])) _
    refine st10.trans ?_
    show Steps p.tables e below (T10.setTop (mkF m 26 #[.val (.ref a4_0), .val (.long q4_1), .second] [])) _
    exact X10.returnOut hx Bd.returns (hb hby d4_26) hr
  · show Q_rm4_3 Z a4_0 q4_1 w_tree_a4_0 w_total_a4_0 kc_w_tree_a4_0 t_w_tree_a4_0_0 t_w_tree_a4_0_1 h0 n0 _ T10.heap _
    subst hy13
    subst hy12
    subst hy11
    subst hy2
    exact ⟨bx5_0_1, kx5_0_1, rfl, N10, K10, sz_bx5_0_1, P10_0, P10_1, P10_2, P10_3, P10_4⟩
theorem d5_16 : decode prog_14_method_3_code 16 = .ok (.return_, 1) := by decide +kernel
theorem ef_rm5_4 (m : MethodId) (y0 : Addr) : entryFrame m #[(.ref y0), (.int (1 : Int32))] 7 = mkF m 0 #[.val (.ref y0), .val (.int (1 : Int32)), .unset, .unset, .unset, .unset, .unset] [] := by first | (simp [entryFrame, mkF, argsToLocals, Value.category]; done) | rfl
def Q_rm5_4 (Z : State) (a5_0 : Addr) (w_tree_a5_0 : Addr) (w_total_a5_0 : Int64) (kc_w_tree_a5_0 : ClassId) (t_w_tree_a5_0_0 : Int64) (t_w_tree_a5_0_1 : Int64) (t_w_tree_a5_0_2 : Int64) (t_w_tree_a5_0_3 : Int64) (h0 : Heap) (n0 : Nat) (v : Option Value) (h : Heap) (L : List Loc) : Prop := v = none ∧ Fr n0 L ∧ h = h0
set_option maxRecDepth 65536 in
set_option maxHeartbeats 40000000 in
theorem rm5_4 (l : Launch) (Z : State) (a0 : Array Value) (hw : ∀ d ∈ tables_1, d.before a0 Z = true) (ws : List Jvm.Cond) (a5_0 : Addr) (w_tree_a5_0 : Addr) (w_total_a5_0 : Int64) (kc_w_tree_a5_0 : ClassId) (t_w_tree_a5_0_0 : Int64) (t_w_tree_a5_0_1 : Int64) (t_w_tree_a5_0_2 : Int64) (t_w_tree_a5_0_3 : Int64) (h0 : Heap) (n0 : Nat) (Z0 : n0 ≤ h0.size) (E_a5_0 : Exa Z h0 a5_0 "com/example/motley/motley/CountTree") (F_tree_a5_0 : Fld Z h0 a5_0 "com/example/motley/motley/CountTree" "tree" "[J" (.ref w_tree_a5_0)) (F_size_a5_0 : Fld Z h0 a5_0 "com/example/motley/motley/CountTree" "size" "I" (.int (3 : Int32))) (F_total_a5_0 : Fld Z h0 a5_0 "com/example/motley/motley/CountTree" "total" "J" (.long w_total_a5_0)) (V_w_tree_a5_0 : Arv Z h0 w_tree_a5_0 kc_w_tree_a5_0 .long (4 : Int32) [(.long t_w_tree_a5_0_0), (.long t_w_tree_a5_0_1), (.long t_w_tree_a5_0_2), (.long t_w_tree_a5_0_3)] (.long (0 : Int64))) :
    MetFree l (⟨"com/example/motley/motley/CountTree", "reserve", "(I)V"⟩ : MethodName) (head1 (Jvm.Cond.code (⟨"com/example/motley/motley/CountTree", "reserve", "(I)V"⟩ : MethodName) prog_14_method_3_code 7 none :: ws) ({ frames := 0, cells := 0, slots := 0, locals := 0 } : Room)) (fun a U => a = #[(.ref a5_0), (.int (1 : Int32))] ∧ Z.Warmed39 U.vm ∧ U.heap = h0) (fun _ _ _ _ _ => True) (fun _ U o U' => ∃ v L, o = .returned v ∧ Q_rm5_4 Z a5_0 w_tree_a5_0 w_total_a5_0 kc_w_tree_a5_0 t_w_tree_a5_0_0 t_w_tree_a5_0_1 t_w_tree_a5_0_2 t_w_tree_a5_0_3 h0 n0 v U'.heap L ∧ FrameEnd U o U' L ({ frames := 0, cells := 0, slots := 0, locals := 0 } : Room).cells ({ frames := 0, cells := 0, slots := 0, locals := 0 } : Room).slots) := by
  refine MetFree.of_bodySF (plainFor_of_name pn_5) hisR ?_
  intro p e s m args below meth c s₁ Bd hml0 hP hK
  obtain ⟨rfl, hZ, hh⟩ := hP
  have hx := Bd.exec
  have hby := Bd.bytes
  have hml : c.maxLocals = 7 := hml0
  have hown : s.vm.findClass "com/example/motley/motley/CountTree" = some m.cls := findClass_of_methodNamed Bd.named
  have hnm := (name_of_methodNamed Bd.named Bd.method).1
  have X0 : Stand p l e ({ frames := 0, cells := 0, slots := 0, locals := 0 } : Room) s m #[(.ref a5_0), (.int (1 : Int32))] below meth c s₁ [] 0 0 := Stand.of_body Bd
  have e0 : s₁.heap = h0 := by rw [← hh, Bd.state]; rfl
  have N0 := Fr.nil n0
  have pre0 : ∀ t, Steps p.tables e below (s₁.setTop (mkF m 0 #[.val (.ref a5_0), .val (.int (1 : Int32)), .unset, .unset, .unset, .unset, .unset] [])) t → Steps p.tables e below (s₁.setTop (entryFrame m #[(.ref a5_0), (.int (1 : Int32))] 7)) t := fun t k => castTop (ef_rm5_4 m a5_0) k
  obtain ⟨T1, X1, e1, st1⟩ := getF X0 hx hZ hown (host := "") (Or.inl (ow28 hw)) Via.refl e0 F_size_a5_0 (g := (mkF m 1 #[.val (.ref a5_0), .val (.int (1 : Int32)), .unset, .unset, .unset, .unset, .unset] [(.ref a5_0)])) rfl rfl (hb hby d5_1)
  obtain ⟨T2, X2, e2, st2⟩ := getF X1 hx hZ hown (host := "") (Or.inl (ow16 hw)) Via.refl e1 F_tree_a5_0 (g := (mkF m 9 #[.val (.ref a5_0), .val (.int (1 : Int32)), .val (.int (4 : Int32)), .unset, .unset, .unset, .unset] [(.ref a5_0), (.int (4 : Int32))])) rfl rfl (hb hby d5_9)
  obtain ⟨cl3, Ar3, qk3, Sz3, Nz3, Hh3, Gf3⟩ := id V_w_tree_a5_0
  obtain ⟨fs, hr, hrun, hended, hW, hsame⟩ := X2.leave (v := none) (fun _ => rfl)
  refine ⟨_, _, pre0 _ ?_, hrun, hended, _, _, rfl, ?_, ⟨_, rfl⟩, hW, hsame.mono (by decide) (by decide)⟩
  · show Steps p.tables e below (s₁.setTop (mkF m 0 #[.val (.ref a5_0), .val (.int (1 : Int32)), .unset, .unset, .unset, .unset, .unset] [])) _
    refine XS.aloadN X0.here hx rfl (hb hby d5_0) rfl rfl ?_
    refine st1 _ ?_
    refine XS.iloadN X1.here hx rfl (hb hby d5_4) rfl ?_
    show Steps p.tables e below (T1.setTop (mkF m 5 #[.val (.ref a5_0), .val (.int (1 : Int32)), .unset, .unset, .unset, .unset, .unset] [(.int (1 : Int32)), (.int (3 : Int32))])) _
    refine XS.iadd X1.here hx rfl (hb hby d5_5) rfl ?_
    refine XS.istoreN X1.here hx rfl (hb hby d5_6) rfl (l' := #[.val (.ref a5_0), .val (.int (1 : Int32)), .val (.int (4 : Int32)), .unset, .unset, .unset, .unset]) rfl ?_
    refine XS.iloadN X1.here hx rfl (hb hby d5_7) rfl ?_
    show Steps p.tables e below (T1.setTop (mkF m 8 #[.val (.ref a5_0), .val (.int (1 : Int32)), .val (.int (4 : Int32)), .unset, .unset, .unset, .unset] [(.int (4 : Int32))])) _
    refine XS.aloadN X1.here hx rfl (hb hby d5_8) rfl rfl ?_
    refine st2 _ ?_
    show Steps p.tables e below (T2.setTop (mkF m 12 #[.val (.ref a5_0), .val (.int (1 : Int32)), .val (.int (4 : Int32)), .unset, .unset, .unset, .unset] [(.ref w_tree_a5_0), (.int (4 : Int32))])) _
    refine X2.arraylength hx (cell := cl3) (by rw [e2]; exact Ar3.1) (State.isArrayOf_alike hZ.alike Ar3.2.1) (g := (mkF m 12 #[.val (.ref a5_0), .val (.int (1 : Int32)), .val (.int (4 : Int32)), .unset, .unset, .unset, .unset] [(.ref w_tree_a5_0), (.int (4 : Int32))])) rfl (rest := [(.int (4 : Int32))]) rfl (hb hby d5_12) _ ?_
    rw [len_of Sz3 Nz3]
    show Steps p.tables e below (T2.setTop (mkF m 13 #[.val (.ref a5_0), .val (.int (1 : Int32)), .val (.int (4 : Int32)), .unset, .unset, .unset, .unset] [(.int (4 : Int32)), (.int (4 : Int32))])) _
    refine XS.icmpNo X2.here hx rfl (hb hby d5_13) rfl (flt (by decide : ¬ ((4 : Int32) < (4 : Int32)))).2.2.1 ?_
    show Steps p.tables e below (T2.setTop (mkF m 16 #[.val (.ref a5_0), .val (.int (1 : Int32)), .val (.int (4 : Int32)), .unset, .unset, .unset, .unset] [])) _
    exact X2.returnOut hx Bd.returns (hb hby d5_16) hr
  · show Q_rm5_4 Z a5_0 w_tree_a5_0 w_total_a5_0 kc_w_tree_a5_0 t_w_tree_a5_0_0 t_w_tree_a5_0_1 t_w_tree_a5_0_2 t_w_tree_a5_0_3 h0 n0 _ T2.heap _
    rw [e2]
    exact ⟨rfl, N0, rfl⟩
theorem ef_rm9_4 (m : MethodId) (y0 : Addr) (y2 : Int64) : entryFrame m #[(.ref y0), (.int (3 : Int32)), (.long y2)] 5 = mkF m 0 #[.val (.ref y0), .val (.int (3 : Int32)), .val (.long y2), .second, .unset] [] := by first | (simp [entryFrame, mkF, argsToLocals, Value.category]; done) | rfl
def Q_rm9_4 (Z : State) (a9_0 : Addr) (q9_2 : Int64) (w_tree_a9_0 : Addr) (w_total_a9_0 : Int64) (kc_w_tree_a9_0 : ClassId) (t_w_tree_a9_0_0 : Int64) (t_w_tree_a9_0_1 : Int64) (t_w_tree_a9_0_2 : Int64) (t_w_tree_a9_0_3 : Int64) (h0 : Heap) (n0 : Nat) (v : Option Value) (h : Heap) (L : List Loc) : Prop := v = none ∧ Fr n0 L ∧ Keep h0 h [a9_0, w_tree_a9_0] ∧ Exa Z h a9_0 "com/example/motley/motley/CountTree" ∧ Fld Z h a9_0 "com/example/motley/motley/CountTree" "tree" "[J" (.ref w_tree_a9_0) ∧ Fld Z h a9_0 "com/example/motley/motley/CountTree" "size" "I" (.int (4 : Int32)) ∧ Fld Z h a9_0 "com/example/motley/motley/CountTree" "total" "J" (.long (w_total_a9_0 + q9_2)) ∧ Arv Z h w_tree_a9_0 kc_w_tree_a9_0 .long (4 : Int32) [(.long t_w_tree_a9_0_0), (.long t_w_tree_a9_0_1), (.long t_w_tree_a9_0_2), (.long (t_w_tree_a9_0_3 + q9_2))] (.long (0 : Int64))
set_option maxRecDepth 65536 in
set_option maxHeartbeats 40000000 in
theorem rm9_4 (l : Launch) (Z : State) (a0 : Array Value) (hw : ∀ d ∈ tables_1, d.before a0 Z = true) (ws : List Jvm.Cond) (a9_0 : Addr) (q9_2 : Int64) (w_tree_a9_0 : Addr) (w_total_a9_0 : Int64) (kc_w_tree_a9_0 : ClassId) (t_w_tree_a9_0_0 : Int64) (t_w_tree_a9_0_1 : Int64) (t_w_tree_a9_0_2 : Int64) (t_w_tree_a9_0_3 : Int64) (h0 : Heap) (n0 : Nat) (Z0 : n0 ≤ h0.size) (E_a9_0 : Exa Z h0 a9_0 "com/example/motley/motley/CountTree") (F_tree_a9_0 : Fld Z h0 a9_0 "com/example/motley/motley/CountTree" "tree" "[J" (.ref w_tree_a9_0)) (F_size_a9_0 : Fld Z h0 a9_0 "com/example/motley/motley/CountTree" "size" "I" (.int (4 : Int32))) (F_total_a9_0 : Fld Z h0 a9_0 "com/example/motley/motley/CountTree" "total" "J" (.long w_total_a9_0)) (V_w_tree_a9_0 : Arv Z h0 w_tree_a9_0 kc_w_tree_a9_0 .long (4 : Int32) [(.long t_w_tree_a9_0_0), (.long t_w_tree_a9_0_1), (.long t_w_tree_a9_0_2), (.long t_w_tree_a9_0_3)] (.long (0 : Int64))) (g_a9_0 : n0 ≤ a9_0) (ne_w_tree_a9_0_a9_0 : w_tree_a9_0 ≠ a9_0) (g_w_tree_a9_0 : n0 ≤ w_tree_a9_0) :
    MetFree l (⟨"com/example/motley/motley/CountTree", "add", "(IJ)V"⟩ : MethodName) (head1 (Jvm.Cond.code (⟨"com/example/motley/motley/CountTree", "add", "(IJ)V"⟩ : MethodName) prog_14_method_7_code 5 none :: ws) ({ frames := 0, cells := 0, slots := 0, locals := 0 } : Room)) (fun a U => a = #[(.ref a9_0), (.int (3 : Int32)), (.long q9_2)] ∧ Z.Warmed39 U.vm ∧ U.heap = h0) (fun _ _ _ _ _ => True) (fun _ U o U' => ∃ v L, o = .returned v ∧ Q_rm9_4 Z a9_0 q9_2 w_tree_a9_0 w_total_a9_0 kc_w_tree_a9_0 t_w_tree_a9_0_0 t_w_tree_a9_0_1 t_w_tree_a9_0_2 t_w_tree_a9_0_3 h0 n0 v U'.heap L ∧ FrameEnd U o U' L ({ frames := 0, cells := 0, slots := 0, locals := 0 } : Room).cells ({ frames := 0, cells := 0, slots := 0, locals := 0 } : Room).slots) := by
  refine MetFree.of_bodySF (plainFor_of_name pn_9) hisR ?_
  intro p e s m args below meth c s₁ Bd hml0 hP hK
  obtain ⟨rfl, hZ, hh⟩ := hP
  have hx := Bd.exec
  have hby := Bd.bytes
  have hml : c.maxLocals = 5 := hml0
  have hown : s.vm.findClass "com/example/motley/motley/CountTree" = some m.cls := findClass_of_methodNamed Bd.named
  have hnm := (name_of_methodNamed Bd.named Bd.method).1
  have X0 : Stand p l e ({ frames := 0, cells := 0, slots := 0, locals := 0 } : Room) s m #[(.ref a9_0), (.int (3 : Int32)), (.long q9_2)] below meth c s₁ [] 0 0 := Stand.of_body Bd
  have e0 : s₁.heap = h0 := by rw [← hh, Bd.state]; rfl
  have N0 := Fr.nil n0
  have pre0 : ∀ t, Steps p.tables e below (s₁.setTop (mkF m 0 #[.val (.ref a9_0), .val (.int (3 : Int32)), .val (.long q9_2), .second, .unset] [])) t → Steps p.tables e below (s₁.setTop (entryFrame m #[(.ref a9_0), (.int (3 : Int32)), (.long q9_2)] 5)) t := fun t k => castTop (ef_rm9_4 m a9_0 q9_2) k
  obtain ⟨T1, X1, e1, st1⟩ := getF X0 hx hZ hown (host := "") (Or.inl (ow50 hw)) Via.refl e0 F_total_a9_0 (g := (mkF m 2 #[.val (.ref a9_0), .val (.int (3 : Int32)), .val (.long q9_2), .second, .unset] [(.ref a9_0), (.ref a9_0)])) rfl rfl (hb hby d9_2)
  obtain ⟨T2, h2, X2, e2, W2, st2⟩ := putF X1 hx hZ hown (host := "") (Or.inl (ow50 hw)) Via.refl e1 F_total_a9_0 E_a9_0 (Or.inl (ow51 hw)) (ow7 hw) (ty := .long) (by decide) rfl rfl (g := (mkF m 7 #[.val (.ref a9_0), .val (.int (3 : Int32)), .val (.long q9_2), .second, .unset] [(.long (w_total_a9_0 + q9_2)), (.ref a9_0)])) rfl rfl (hb hby d9_7)
  have F2 := F_total_a9_0.same W2
  have K2 : Keep h0 h2 [a9_0, w_tree_a9_0] := (Keep.refl h0 [a9_0, w_tree_a9_0]).wr W2 (Or.inl (List.mem_of_getElem? (i := 0) rfl))
  have Z2 : n0 ≤ h2.size := Nat.le_trans Z0 K2.1
  have N2 := Fr.snoc X2 N0 g_a9_0
  have f3 := (F_tree_a9_0.other W2 (Or.inr (slot_ne (Or.inl (ow17 hw)) (Or.inl (ow51 hw)) (by decide) (t := (.array .long)) (t' := .long) (by decide) (by decide))))
  obtain ⟨T4, X4, e4, st4⟩ := getF X2 hx hZ hown (host := "") (Or.inl (ow16 hw)) Via.refl e2 f3 (g := (mkF m 18 #[.val (.ref a9_0), .val (.int (3 : Int32)), .val (.long q9_2), .second, .val (.int (4 : Int32))] [(.ref a9_0), (.int (4 : Int32))])) rfl rfl (hb hby d9_18)
  have f5 := (V_w_tree_a9_0.other W2 ne_w_tree_a9_0_a9_0)
  obtain ⟨cl6, Ar6, qk6, Sz6, Nz6, Hh6, Gf6⟩ := id f5
  obtain ⟨T7, X7, e7, st7⟩ := getF X4 hx hZ hown (host := "") (Or.inl (ow16 hw)) Via.refl e4 f3 (g := (mkF m 26 #[.val (.ref a9_0), .val (.int (3 : Int32)), .val (.long q9_2), .second, .val (.int (4 : Int32))] [(.ref a9_0)])) rfl rfl (hb hby d9_26)
  obtain ⟨cl8, Ar8, qk8, Sz8, Nz8, Hh8, Gf8⟩ := id f5
  obtain ⟨cl9, Ar9, qk9, Sz9, Nz9, Hh9, Gf9⟩ := id f5
  obtain ⟨T10, h10, X10, e10, W10, st10⟩ := stJ X7 hx hZ e7 Ar9 (j := (3 : Int32)) (inb_of Sz9 ⟨by decide, by decide⟩) (g := (mkF m 37 #[.val (.ref a9_0), .val (.int (3 : Int32)), .val (.long q9_2), .second, .val (.int (4 : Int32))] [(.long (t_w_tree_a9_0_3 + q9_2)), (.int (3 : Int32)), (.ref w_tree_a9_0)])) rfl rfl (hb hby d9_37)
  have V10 : Arv Z h10 w_tree_a9_0 kc_w_tree_a9_0 .long (4 : Int32) [(.long t_w_tree_a9_0_0), (.long t_w_tree_a9_0_1), (.long t_w_tree_a9_0_2), (.long (t_w_tree_a9_0_3 + q9_2))] (.long (0 : Int64)) := Arv.set Ar9 qk9 Sz9 Nz9 Hh9 Gf9 rfl W10 3 rfl (Nat.le_of_ble_eq_true rfl)
  have K10 : Keep h0 h10 [a9_0, w_tree_a9_0] := K2.wr W10 (Or.inl (List.mem_of_getElem? (i := 1) rfl))
  have Z10 : n0 ≤ h10.size := Nat.le_trans Z0 K10.1
  have N10 := Fr.snoc X10 N2 g_w_tree_a9_0
  have f11 := (f3.other W10 (Or.inl (Ne.symm ne_w_tree_a9_0_a9_0)))
  obtain ⟨T12, X12, e12, st12⟩ := getF X10 hx hZ hown (host := "") (Or.inl (ow16 hw)) Via.refl e10 f11 (g := (mkF m 18 #[.val (.ref a9_0), .val (.int (3 : Int32)), .val (.long q9_2), .second, .val (.int (8 : Int32))] [(.ref a9_0), (.int (8 : Int32))])) rfl rfl (hb hby d9_18)
  obtain ⟨cl13, Ar13, qk13, Sz13, Nz13, Hh13, Gf13⟩ := id V10
  obtain ⟨fs, hr, hrun, hended, hW, hsame⟩ := X12.leave (v := none) (fun _ => rfl)
  refine ⟨_, _, pre0 _ ?_, hrun, hended, _, _, rfl, ?_, ⟨_, rfl⟩, hW, hsame.mono (by decide) (by decide)⟩
  · show Steps p.tables e below (s₁.setTop (mkF m 0 #[.val (.ref a9_0), .val (.int (3 : Int32)), .val (.long q9_2), .second, .unset] [])) _
    refine XS.aloadN X0.here hx rfl (hb hby d9_0) rfl rfl ?_
    refine XS.dup X0.here hx rfl (hb hby d9_1) rfl rfl ?_
    refine st1 _ ?_
    show Steps p.tables e below (T1.setTop (mkF m 5 #[.val (.ref a9_0), .val (.int (3 : Int32)), .val (.long q9_2), .second, .unset] [(.long w_total_a9_0), (.ref a9_0)])) _
    refine XS.lloadN X1.here hx rfl (hb hby d9_5) rfl ?_
    refine XS.ladd X1.here hx rfl (hb hby d9_6) rfl ?_
    refine st2 _ ?_
    show Steps p.tables e below (T2.setTop (mkF m 10 #[.val (.ref a9_0), .val (.int (3 : Int32)), .val (.long q9_2), .second, .unset] [])) _
    refine XS.iloadN X2.here hx rfl (hb hby d9_10) rfl ?_
    refine XS.iconst X2.here hx rfl (hb hby d9_11) ?_
    refine XS.iadd X2.here hx rfl (hb hby d9_12) rfl ?_
    show Steps p.tables e below (T2.setTop (mkF m 13 #[.val (.ref a9_0), .val (.int (3 : Int32)), .val (.long q9_2), .second, .unset] [(.int (4 : Int32))])) _
    refine XS.istore X2.here hx rfl (hb hby d9_13) rfl (l' := #[.val (.ref a9_0), .val (.int (3 : Int32)), .val (.long q9_2), .second, .val (.int (4 : Int32))]) rfl ?_
    refine XS.iload X2.here hx rfl (hb hby d9_15) rfl ?_
    refine XS.aloadN X2.here hx rfl (hb hby d9_17) rfl rfl ?_
    show Steps p.tables e below (T2.setTop (mkF m 18 #[.val (.ref a9_0), .val (.int (3 : Int32)), .val (.long q9_2), .second, .val (.int (4 : Int32))] [(.ref a9_0), (.int (4 : Int32))])) _
    refine st4 _ ?_
    show Steps p.tables e below (T4.setTop (mkF m 21 #[.val (.ref a9_0), .val (.int (3 : Int32)), .val (.long q9_2), .second, .val (.int (4 : Int32))] [(.ref w_tree_a9_0), (.int (4 : Int32))])) _
    refine X4.arraylength hx (cell := cl6) (by rw [e4]; exact Ar6.1) (State.isArrayOf_alike hZ.alike Ar6.2.1) (g := (mkF m 21 #[.val (.ref a9_0), .val (.int (3 : Int32)), .val (.long q9_2), .second, .val (.int (4 : Int32))] [(.ref w_tree_a9_0), (.int (4 : Int32))])) rfl (rest := [(.int (4 : Int32))]) rfl (hb hby d9_21) _ ?_
    rw [len_of Sz6 Nz6]
    show Steps p.tables e below (T4.setTop (mkF m 22 #[.val (.ref a9_0), .val (.int (3 : Int32)), .val (.long q9_2), .second, .val (.int (4 : Int32))] [(.int (4 : Int32)), (.int (4 : Int32))])) _
    refine XS.icmpNo X4.here hx rfl (hb hby d9_22) rfl (flt (by decide : ¬ ((4 : Int32) < (4 : Int32)))).2.2.1 ?_
    refine XS.aloadN X4.here hx rfl (hb hby d9_25) rfl rfl ?_
    refine st7 _ ?_
    show Steps p.tables e below (T7.setTop (mkF m 29 #[.val (.ref a9_0), .val (.int (3 : Int32)), .val (.long q9_2), .second, .val (.int (4 : Int32))] [(.ref w_tree_a9_0)])) _
    refine XS.iload X7.here hx rfl (hb hby d9_29) rfl ?_
    refine XS.iconst X7.here hx rfl (hb hby d9_31) ?_
    refine XS.isub X7.here hx rfl (hb hby d9_32) rfl ?_
    show Steps p.tables e below (T7.setTop (mkF m 33 #[.val (.ref a9_0), .val (.int (3 : Int32)), .val (.long q9_2), .second, .val (.int (4 : Int32))] [(.int (3 : Int32)), (.ref w_tree_a9_0)])) _
    jvm_step X7.here [X7.here.top, hx, (hb hby d9_33), Value.category]
    refine X7.laload hx (j := (3 : Int32)) (v := (.long t_w_tree_a9_0_3)) (by rw [e7]; exact Ar8.1) (State.isArrayOf_alike hZ.alike Ar8.2.1) Ar8.2.2 (inb_of Sz8 ⟨by decide, by decide⟩) (Hh8.at (inb_of Sz8 ⟨by decide, by decide⟩) rfl) (g := (mkF m 34 #[.val (.ref a9_0), .val (.int (3 : Int32)), .val (.long q9_2), .second, .val (.int (4 : Int32))] [(.int (3 : Int32)), (.ref w_tree_a9_0), (.int (3 : Int32)), (.ref w_tree_a9_0)])) rfl rfl (hb hby d9_34) _ ?_
    refine XS.lloadN X7.here hx rfl (hb hby d9_35) rfl ?_
    show Steps p.tables e below (T7.setTop (mkF m 36 #[.val (.ref a9_0), .val (.int (3 : Int32)), .val (.long q9_2), .second, .val (.int (4 : Int32))] [(.long q9_2), (.long t_w_tree_a9_0_3), (.int (3 : Int32)), (.ref w_tree_a9_0)])) _
    refine XS.ladd X7.here hx rfl (hb hby d9_36) rfl ?_
    refine st10 _ ?_
    refine XS.iload X10.here hx rfl (hb hby d9_38) rfl ?_
    show Steps p.tables e below (T10.setTop (mkF m 40 #[.val (.ref a9_0), .val (.int (3 : Int32)), .val (.long q9_2), .second, .val (.int (4 : Int32))] [(.int (4 : Int32))])) _
    refine XS.iload X10.here hx rfl (hb hby d9_40) rfl ?_
    refine XS.iload X10.here hx rfl (hb hby d9_42) rfl ?_
    refine XS.ineg X10.here hx rfl (hb hby d9_44) rfl ?_
    show Steps p.tables e below (T10.setTop (mkF m 45 #[.val (.ref a9_0), .val (.int (3 : Int32)), .val (.long q9_2), .second, .val (.int (4 : Int32))] [(.int (-4 : Int32)), (.int (4 : Int32)), (.int (4 : Int32))])) _
    refine XS.iand X10.here hx rfl (hb hby d9_45) rfl ?_
    refine XS.iadd X10.here hx rfl (hb hby d9_46) rfl ?_
    refine XS.istore X10.here hx rfl (hb hby d9_47) rfl (l' := #[.val (.ref a9_0), .val (.int (3 : Int32)), .val (.long q9_2), .second, .val (.int (8 : Int32))]) rfl ?_
    show Steps p.tables e below (T10.setTop (mkF m 49 #[.val (.ref a9_0), .val (.int (3 : Int32)), .val (.long q9_2), .second, .val (.int (8 : Int32))] [])) _
    refine XS.goto X10.here hx rfl (pc0 := 49) (pc' := 15) rfl (hb hby d9_49) (by decide) (by decide) ?_
    refine XS.iload X10.here hx rfl (hb hby d9_15) rfl ?_
    refine XS.aloadN X10.here hx rfl (hb hby d9_17) rfl rfl ?_
    show Steps p.tables e below (T10.setTop (mkF m 18 #[.val (.ref a9_0), .val (.int (3 : Int32)), .val (.long q9_2), .second, .val (.int (8 : Int32))] [(.ref a9_0), (.int (8 : Int32))])) _
    refine st12 _ ?_
    show Steps p.tables e below (T12.setTop (mkF m 21 #[.val (.ref a9_0), .val (.int (3 : Int32)), .val (.long q9_2), .second, .val (.int (8 : Int32))] [(.ref w_tree_a9_0), (.int (8 : Int32))])) _
    refine X12.arraylength hx (cell := cl13) (by rw [e12]; exact Ar13.1) (State.isArrayOf_alike hZ.alike Ar13.2.1) (g := (mkF m 21 #[.val (.ref a9_0), .val (.int (3 : Int32)), .val (.long q9_2), .second, .val (.int (8 : Int32))] [(.ref w_tree_a9_0), (.int (8 : Int32))])) rfl (rest := [(.int (8 : Int32))]) rfl (hb hby d9_21) _ ?_
    rw [len_of Sz13 Nz13]
    show Steps p.tables e below (T12.setTop (mkF m 22 #[.val (.ref a9_0), .val (.int (3 : Int32)), .val (.long q9_2), .second, .val (.int (8 : Int32))] [(.int (4 : Int32)), (.int (8 : Int32))])) _
    refine XS.icmpYes X12.here hx rfl (pc0 := 22) (pc' := 52) rfl (hb hby d9_22) rfl (tlt (by decide : (4 : Int32) < (8 : Int32))).2.2.1 (by decide) (by decide) ?_
    show Steps p.tables e below (T12.setTop (mkF m 52 #[.val (.ref a9_0), .val (.int (3 : Int32)), .val (.long q9_2), .second, .val (.int (8 : Int32))] [])) _
    exact X12.returnOut hx Bd.returns (hb hby d9_52) hr
  · have f14 := ((E_a9_0.wr W2).wr W10)
    have f15 := ((F_size_a9_0.other W2 (Or.inr (slot_ne (Or.inl (ow29 hw)) (Or.inl (ow51 hw)) (by decide) (t := .int) (t' := .long) (by decide) (by decide)))).other W10 (Or.inl (Ne.symm ne_w_tree_a9_0_a9_0)))
    have f16 := (F2.other W10 (Or.inl (Ne.symm ne_w_tree_a9_0_a9_0)))
    show Q_rm9_4 Z a9_0 q9_2 w_tree_a9_0 w_total_a9_0 kc_w_tree_a9_0 t_w_tree_a9_0_0 t_w_tree_a9_0_1 t_w_tree_a9_0_2 t_w_tree_a9_0_3 h0 n0 _ T12.heap _
    rw [e12]
    exact ⟨rfl, N10, K10, f14, f11, f15, f16, V10⟩
theorem ef_rm4_4 (m : MethodId) (y0 : Addr) (y1 : Int64) : entryFrame m #[(.ref y0), (.long y1)] 3 = mkF m 0 #[.val (.ref y0), .val (.long y1), .second] [] := by first | (simp [entryFrame, mkF, argsToLocals, Value.category]; done) | rfl
def Q_rm4_4 (Z : State) (a4_0 : Addr) (q4_1 : Int64) (w_tree_a4_0 : Addr) (w_total_a4_0 : Int64) (kc_w_tree_a4_0 : ClassId) (t_w_tree_a4_0_0 : Int64) (t_w_tree_a4_0_1 : Int64) (t_w_tree_a4_0_2 : Int64) (t_w_tree_a4_0_3 : Int64) (h0 : Heap) (n0 : Nat) (v : Option Value) (h : Heap) (L : List Loc) : Prop := v = none ∧ Fr n0 L ∧ Keep h0 h [a4_0, w_tree_a4_0] ∧ Exa Z h a4_0 "com/example/motley/motley/CountTree" ∧ Fld Z h a4_0 "com/example/motley/motley/CountTree" "tree" "[J" (.ref w_tree_a4_0) ∧ Fld Z h a4_0 "com/example/motley/motley/CountTree" "size" "I" (.int (4 : Int32)) ∧ Fld Z h a4_0 "com/example/motley/motley/CountTree" "total" "J" (.long (w_total_a4_0 + q4_1)) ∧ Arv Z h w_tree_a4_0 kc_w_tree_a4_0 .long (4 : Int32) [(.long t_w_tree_a4_0_0), (.long t_w_tree_a4_0_1), (.long t_w_tree_a4_0_2), (.long (t_w_tree_a4_0_3 + q4_1))] (.long (0 : Int64))
set_option maxRecDepth 65536 in
set_option maxHeartbeats 40000000 in
theorem rm4_4 (l : Launch) (Z : State) (a0 : Array Value) (hw : ∀ d ∈ tables_1, d.before a0 Z = true) (ws : List Jvm.Cond) (a4_0 : Addr) (q4_1 : Int64) (w_tree_a4_0 : Addr) (w_total_a4_0 : Int64) (kc_w_tree_a4_0 : ClassId) (t_w_tree_a4_0_0 : Int64) (t_w_tree_a4_0_1 : Int64) (t_w_tree_a4_0_2 : Int64) (t_w_tree_a4_0_3 : Int64) (h0 : Heap) (n0 : Nat) (Z0 : n0 ≤ h0.size) (E_a4_0 : Exa Z h0 a4_0 "com/example/motley/motley/CountTree") (F_tree_a4_0 : Fld Z h0 a4_0 "com/example/motley/motley/CountTree" "tree" "[J" (.ref w_tree_a4_0)) (F_size_a4_0 : Fld Z h0 a4_0 "com/example/motley/motley/CountTree" "size" "I" (.int (3 : Int32))) (F_total_a4_0 : Fld Z h0 a4_0 "com/example/motley/motley/CountTree" "total" "J" (.long w_total_a4_0)) (V_w_tree_a4_0 : Arv Z h0 w_tree_a4_0 kc_w_tree_a4_0 .long (4 : Int32) [(.long t_w_tree_a4_0_0), (.long t_w_tree_a4_0_1), (.long t_w_tree_a4_0_2), (.long t_w_tree_a4_0_3)] (.long (0 : Int64))) (g_a4_0 : n0 ≤ a4_0) (ne_w_tree_a4_0_a4_0 : w_tree_a4_0 ≠ a4_0) (g_w_tree_a4_0 : n0 ≤ w_tree_a4_0) :
    MetFree l (⟨"com/example/motley/motley/CountTree", "append", "(J)V"⟩ : MethodName) (head1 (Jvm.Cond.code (⟨"com/example/motley/motley/CountTree", "append", "(J)V"⟩ : MethodName) prog_14_method_4_code 3 none :: ws) ({ frames := 1, cells := 0, slots := 0, locals := 18 } : Room)) (fun a U => a = #[(.ref a4_0), (.long q4_1)] ∧ Z.Warmed39 U.vm ∧ U.heap = h0) (fun _ _ _ _ _ => True) (fun _ U o U' => ∃ v L, o = .returned v ∧ Q_rm4_4 Z a4_0 q4_1 w_tree_a4_0 w_total_a4_0 kc_w_tree_a4_0 t_w_tree_a4_0_0 t_w_tree_a4_0_1 t_w_tree_a4_0_2 t_w_tree_a4_0_3 h0 n0 v U'.heap L ∧ FrameEnd U o U' L ({ frames := 1, cells := 0, slots := 0, locals := 18 } : Room).cells ({ frames := 1, cells := 0, slots := 0, locals := 18 } : Room).slots) := by
  refine MetFree.of_bodySF (plainFor_of_name pn_4) hisR ?_
  intro p e s m args below meth c s₁ Bd hml0 hP hK
  obtain ⟨rfl, hZ, hh⟩ := hP
  have hx := Bd.exec
  have hby := Bd.bytes
  have hml : c.maxLocals = 3 := hml0
  have hown : s.vm.findClass "com/example/motley/motley/CountTree" = some m.cls := findClass_of_methodNamed Bd.named
  have hnm := (name_of_methodNamed Bd.named Bd.method).1
  have X0 : Stand p l e ({ frames := 1, cells := 0, slots := 0, locals := 18 } : Room) s m #[(.ref a4_0), (.long q4_1)] below meth c s₁ [] 0 0 := Stand.of_body Bd
  have e0 : s₁.heap = h0 := by rw [← hh, Bd.state]; rfl
  have N0 := Fr.nil n0
  have pre0 : ∀ t, Steps p.tables e below (s₁.setTop (mkF m 0 #[.val (.ref a4_0), .val (.long q4_1), .second] [])) t → Steps p.tables e below (s₁.setTop (entryFrame m #[(.ref a4_0), (.long q4_1)] 3)) t := fun t k => castTop (ef_rm4_4 m a4_0 q4_1) k
  obtain ⟨cq1, kq1, q1a, q1b, q1c⟩ := isOf hZ e0 E_a4_0
  obtain ⟨_, _, ⟨T1, L1, k1, n1⟩, -, X1, ⟨Lc1, hQ1, l1, y1, z1⟩, st1⟩ := X0.virtualBack hx (y := (⟨"com/example/motley/motley/CountTree", "reserve", "(I)V"⟩ : MethodName)) (z := (⟨"com/example/motley/motley/CountTree", "reserve", "(I)V"⟩ : MethodName)) hown (mvT hZ (ow23 hw)) (mvT hZ (ow24 hw)) (notFace_of_selects (args := #[]) (mvT hZ (ow26 hw))) (mvT hZ (ow26 hw)) (mvT hZ (ow25 hw)) (by decide) (backOf (W := 0) (rm5_4 l Z a0 hw [] a4_0 w_tree_a4_0 w_total_a4_0 kc_w_tree_a4_0 t_w_tree_a4_0_0 t_w_tree_a4_0_1 t_w_tree_a4_0_2 t_w_tree_a4_0_3 h0 n0 Z0 E_a4_0 F_tree_a4_0 F_size_a4_0 F_total_a4_0 V_w_tree_a4_0) hZ (ow27 hw) (ow8 hw) (by decide) (by decide)) q1a q1c (g := (mkF m 2 #[.val (.ref a4_0), .val (.long q4_1), .second] [(.int (1 : Int32)), (.ref a4_0)])) rfl (by rw [hml]; rfl) (Steps.refl _) (argsL := [(.int (1 : Int32))]) (rest := []) (lenOf pd__I_V rfl) rfl (by show 2 * 0 + _ ≤ _; exact Nat.le_of_eq rfl) (hb hby d4_2) (fun _ _ => ⟨rfl, e0, (by decide : 0 + 0 ≤ _), (by decide : 0 + 0 ≤ _)⟩)
  dsimp only [Pt.U, Pt.locs, Pt.cells, Pt.slots] at X1 l1 y1 z1 st1 hQ1
  subst l1 y1 z1
  obtain ⟨rfl, Nq1, e1⟩ := hQ1
  have N1 := Fr.app N0 Nq1
  obtain ⟨T2, X2, e2, st2⟩ := getF X1 hx hZ hown (host := "") (Or.inl (ow28 hw)) Via.refl e1 F_size_a4_0 (g := (mkF m 7 #[.val (.ref a4_0), .val (.long q4_1), .second] [(.ref a4_0), (.ref a4_0)])) rfl rfl (hb hby d4_7)
  obtain ⟨T3, h3, X3, e3, W3, st3⟩ := putF X2 hx hZ hown (host := "") (Or.inl (ow28 hw)) Via.refl e2 F_size_a4_0 E_a4_0 (Or.inl (ow29 hw)) (ow7 hw) (ty := .int) (by decide) rfl rfl (g := (mkF m 12 #[.val (.ref a4_0), .val (.long q4_1), .second] [(.int (4 : Int32)), (.ref a4_0)])) rfl rfl (hb hby d4_12)
  have F3 := F_size_a4_0.same W3
  have K3 : Keep h0 h3 [a4_0, w_tree_a4_0] := (Keep.refl h0 [a4_0, w_tree_a4_0]).wr W3 (Or.inl (List.mem_of_getElem? (i := 0) rfl))
  have Z3 : n0 ≤ h3.size := Nat.le_trans Z0 K3.1
  have N3 := Fr.snoc X3 N1 g_a4_0
  obtain ⟨T4, X4, e4, st4⟩ := getF X3 hx hZ hown (host := "") (Or.inl (ow28 hw)) Via.refl e3 F3 (g := (mkF m 17 #[.val (.ref a4_0), .val (.long q4_1), .second] [(.ref a4_0), (.ref a4_0)])) rfl rfl (hb hby d4_17)
  have f5 := (V_w_tree_a4_0.other W3 ne_w_tree_a4_0_a4_0)
  have f6 := (E_a4_0.wr W3)
  have f7 := (F_tree_a4_0.other W3 (Or.inr (slot_ne (Or.inl (ow17 hw)) (Or.inl (ow29 hw)) (by decide) (t := (.array .long)) (t' := .int) (by decide) (by decide))))
  have f8 := (F_total_a4_0.other W3 (Or.inr (slot_ne (Or.inl (ow51 hw)) (Or.inl (ow29 hw)) (by decide) (t := .long) (t' := .int) (by decide) (by decide))))
  obtain ⟨cq9, kq9, q9a, q9b, q9c⟩ := isOf hZ e4 f6
  obtain ⟨_, _, ⟨T9, L9, k9, n9⟩, -, X9, ⟨Lc9, hQ9, l9, y9, z9⟩, st9⟩ := X4.virtualBack hx (y := (⟨"com/example/motley/motley/CountTree", "add", "(IJ)V"⟩ : MethodName)) (z := (⟨"com/example/motley/motley/CountTree", "add", "(IJ)V"⟩ : MethodName)) hown (mvT hZ (ow45 hw)) (mvT hZ (ow46 hw)) (notFace_of_selects (args := #[]) (mvT hZ (ow48 hw))) (mvT hZ (ow48 hw)) (mvT hZ (ow47 hw)) (by decide) (backOf (W := 0) (rm9_4 l Z a0 hw [] a4_0 q4_1 w_tree_a4_0 w_total_a4_0 kc_w_tree_a4_0 t_w_tree_a4_0_0 t_w_tree_a4_0_1 t_w_tree_a4_0_2 t_w_tree_a4_0_3 h3 n0 Z3 f6 f7 F3 f8 f5 g_a4_0 ne_w_tree_a4_0_a4_0 g_w_tree_a4_0) hZ (ow49 hw) (ow8 hw) (by decide) (by decide)) q9a q9c (g := (mkF m 23 #[.val (.ref a4_0), .val (.long q4_1), .second] [(.long q4_1), (.int (3 : Int32)), (.ref a4_0)])) rfl (by rw [hml]; rfl) (Steps.refl _) (argsL := [(.int (3 : Int32)), (.long q4_1)]) (rest := []) (lenOf pd__IJ_V rfl) rfl (by show 2 * 0 + _ ≤ _; exact Nat.le_of_eq rfl) (hb hby d4_23) (fun _ _ => ⟨rfl, e4, (by decide : 0 + 0 ≤ _), (by decide : 0 + 0 ≤ _)⟩)
  dsimp only [Pt.U, Pt.locs, Pt.cells, Pt.slots] at X9 l9 y9 z9 st9 hQ9
  subst l9 y9 z9
  obtain ⟨rfl, Nq9, Kc9, P9_0, P9_1, P9_2, P9_3, P9_4⟩ := hQ9
  have K9 : Keep h0 T9.heap [a4_0, w_tree_a4_0] := Keep.trans K3 Kc9 (allS (P := fun x => x ∈ ([a4_0, w_tree_a4_0] : List Addr) ∨ h0.size ≤ x) (Or.inl (List.mem_of_getElem? (i := 0) rfl)) (allS (P := fun x => x ∈ ([a4_0, w_tree_a4_0] : List Addr) ∨ h0.size ≤ x) (Or.inl (List.mem_of_getElem? (i := 1) rfl)) all0))
  have Z9 : n0 ≤ T9.heap.size := Nat.le_trans Z0 K9.1
  obtain ⟨y10, hy10⟩ : ∃ z : Int64, z = (w_total_a4_0 + q4_1) := ⟨_, rfl⟩
  rw [← hy10] at P9_3
  obtain ⟨y11, hy11⟩ : ∃ z : Int64, z = (t_w_tree_a4_0_3 + q4_1) := ⟨_, rfl⟩
  rw [← hy11] at P9_4
  have N9 := Fr.app N3 Nq9
  obtain ⟨fs, hr, hrun, hended, hW, hsame⟩ := X9.leave (v := none) (fun _ => rfl)
  refine ⟨_, _, pre0 _ ?_, hrun, hended, _, _, rfl, ?_, ⟨_, rfl⟩, hW, hsame.mono (by decide) (by decide)⟩
  · show Steps p.tables e below (s₁.setTop (mkF m 0 #[.val (.ref a4_0), .val (.long q4_1), .second] [])) _
    refine XS.aloadN X0.here hx rfl (hb hby d4_0) rfl rfl ?_
    refine XS.iconst X0.here hx rfl (hb hby d4_1) ?_
    refine st1.trans ?_
    show Steps p.tables e below (T1.setTop (mkF m 5 #[.val (.ref a4_0), .val (.long q4_1), .second] [])) _
    refine XS.aloadN X1.here hx rfl (hb hby d4_5) rfl rfl ?_
    refine XS.dup X1.here hx rfl (hb hby d4_6) rfl rfl ?_
    refine st2 _ ?_
    show Steps p.tables e below (T2.setTop (mkF m 10 #[.val (.ref a4_0), .val (.long q4_1), .second] [(.int (3 : Int32)), (.ref a4_0)])) _
    refine XS.iconst X2.here hx rfl (hb hby d4_10) ?_
    refine XS.iadd X2.here hx rfl (hb hby d4_11) rfl ?_
    refine st3 _ ?_
    show Steps p.tables e below (T3.setTop (mkF m 15 #[.val (.ref a4_0), .val (.long q4_1), .second] [])) _
    refine XS.aloadN X3.here hx rfl (hb hby d4_15) rfl rfl ?_
    refine XS.aloadN X3.here hx rfl (hb hby d4_16) rfl rfl ?_
    refine st4 _ ?_
    show Steps p.tables e below (T4.setTop (mkF m 20 #[.val (.ref a4_0), .val (.long q4_1), .second] [(.int (4 : Int32)), (.ref a4_0)])) _
    refine XS.iconst X4.here hx rfl (hb hby d4_20) ?_
    refine XS.isub X4.here hx rfl (hb hby d4_21) rfl ?_
    refine XS.lloadN X4.here hx rfl (hb hby d4_22) rfl ?_
    show Steps p.tables e below (T4.setTop (mkF m 23 #[.val (.ref a4_0), .val (.long q4_1), .second] [(.long q4_1), (.int (3 : Int32)), (.ref a4_0)])) _
    refine st9.trans ?_
    show Steps p.tables e below (T9.setTop (mkF m 26 #[.val (.ref a4_0), .val (.long q4_1), .second] [])) _
    exact X9.returnOut hx Bd.returns (hb hby d4_26) hr
  · show Q_rm4_4 Z a4_0 q4_1 w_tree_a4_0 w_total_a4_0 kc_w_tree_a4_0 t_w_tree_a4_0_0 t_w_tree_a4_0_1 t_w_tree_a4_0_2 t_w_tree_a4_0_3 h0 n0 _ T9.heap _
    subst hy11
    subst hy10
    exact ⟨rfl, N9, K9, P9_0, P9_1, P9_2, P9_3, P9_4⟩
theorem ef_rm6_4 (m : MethodId)  : entryFrame m #[(.int (5 : Int32)), (.int (8 : Int32))] 2 = mkF m 0 #[.val (.int (5 : Int32)), .val (.int (8 : Int32))] [] := by first | (simp [entryFrame, mkF, argsToLocals, Value.category]; done) | rfl
def Q_rm6_4 (Z : State)  (h0 : Heap) (n0 : Nat) (v : Option Value) (h : Heap) (L : List Loc) : Prop := v = some (.int (8 : Int32)) ∧ Fr n0 L ∧ h = h0
set_option maxRecDepth 65536 in
set_option maxHeartbeats 40000000 in
theorem rm6_4 (l : Launch) (Z : State) (a0 : Array Value) (hw : ∀ d ∈ tables_1, d.before a0 Z = true) (ws : List Jvm.Cond)  (h0 : Heap) (n0 : Nat) (Z0 : n0 ≤ h0.size) :
    MetFree l (⟨"java/lang/Math", "max", "(II)I"⟩ : MethodName) (head1 (Jvm.Cond.code (⟨"java/lang/Math", "max", "(II)I"⟩ : MethodName) jdk_29_method_65_code 2 (some .int) :: ws) ({ frames := 0, cells := 0, slots := 0, locals := 0 } : Room)) (fun a U => a = #[(.int (5 : Int32)), (.int (8 : Int32))] ∧ Z.Warmed39 U.vm ∧ U.heap = h0) (fun _ _ _ _ _ => True) (fun _ U o U' => ∃ v L, o = .returned v ∧ Q_rm6_4 Z  h0 n0 v U'.heap L ∧ FrameEnd U o U' L ({ frames := 0, cells := 0, slots := 0, locals := 0 } : Room).cells ({ frames := 0, cells := 0, slots := 0, locals := 0 } : Room).slots) := by
  refine MetFree.of_bodySF (Jvm.Free.JP.mathPlain rfl (by decide +kernel)) hisR ?_
  intro p e s m args below meth c s₁ Bd hml0 hP hK
  obtain ⟨rfl, hZ, hh⟩ := hP
  have hx := Bd.exec
  have hby := Bd.bytes
  have hml : c.maxLocals = 2 := hml0
  have hown : s.vm.findClass "java/lang/Math" = some m.cls := findClass_of_methodNamed Bd.named
  have hnm := (name_of_methodNamed Bd.named Bd.method).1
  have X0 : Stand p l e ({ frames := 0, cells := 0, slots := 0, locals := 0 } : Room) s m #[(.int (5 : Int32)), (.int (8 : Int32))] below meth c s₁ [] 0 0 := Stand.of_body Bd
  have e0 : s₁.heap = h0 := by rw [← hh, Bd.state]; rfl
  have N0 := Fr.nil n0
  have pre0 : ∀ t, Steps p.tables e below (s₁.setTop (mkF m 0 #[.val (.int (5 : Int32)), .val (.int (8 : Int32))] [])) t → Steps p.tables e below (s₁.setTop (entryFrame m #[(.int (5 : Int32)), (.int (8 : Int32))] 2)) t := fun t k => castTop (ef_rm6_4 m ) k
  obtain ⟨fs, hr, hrun, hended, hW, hsame⟩ := X0.leave (v := some (.int (8 : Int32))) (fun h => by rw [Bd.returns] at h; cases h)
  refine ⟨_, _, pre0 _ ?_, hrun, hended, _, _, rfl, ?_, ⟨_, rfl⟩, hW, hsame.mono (by decide) (by decide)⟩
  · show Steps p.tables e below (s₁.setTop (mkF m 0 #[.val (.int (5 : Int32)), .val (.int (8 : Int32))] [])) _
    refine XS.iloadN X0.here hx rfl (hb hby d6_0) rfl ?_
    refine XS.iloadN X0.here hx rfl (hb hby d6_1) rfl ?_
    show Steps p.tables e below (s₁.setTop (mkF m 2 #[.val (.int (5 : Int32)), .val (.int (8 : Int32))] [(.int (8 : Int32)), (.int (5 : Int32))])) _
    refine XS.icmpYes X0.here hx rfl (pc0 := 2) (pc' := 9) rfl (hb hby d6_2) rfl (tlt (by decide : (5 : Int32) < (8 : Int32))).1 (by decide) (by decide) ?_
    refine XS.iloadN X0.here hx rfl (hb hby d6_9) rfl ?_
    show Steps p.tables e below (s₁.setTop (mkF m 10 #[.val (.int (5 : Int32)), .val (.int (8 : Int32))] [(.int (8 : Int32))])) _
    exact retI X0 hx Bd.returns (hb hby d6_10) hr
  · show Q_rm6_4 Z  h0 n0 _ s₁.heap _
    rw [e0]
    exact ⟨rfl, N0, rfl⟩
theorem ef_rm8_4 (m : MethodId)  : entryFrame m #[(.int (4 : Int32)), (.int (8 : Int32))] 2 = mkF m 0 #[.val (.int (4 : Int32)), .val (.int (8 : Int32))] [] := by first | (simp [entryFrame, mkF, argsToLocals, Value.category]; done) | rfl
def Q_rm8_4 (Z : State)  (h0 : Heap) (n0 : Nat) (v : Option Value) (h : Heap) (L : List Loc) : Prop := v = some (.int (4 : Int32)) ∧ Fr n0 L ∧ h = h0
set_option maxRecDepth 65536 in
set_option maxHeartbeats 40000000 in
theorem rm8_4 (l : Launch) (Z : State) (a0 : Array Value) (hw : ∀ d ∈ tables_1, d.before a0 Z = true) (ws : List Jvm.Cond)  (h0 : Heap) (n0 : Nat) (Z0 : n0 ≤ h0.size) :
    MetFree l (⟨"java/lang/Math", "min", "(II)I"⟩ : MethodName) (head1 (Jvm.Cond.code (⟨"java/lang/Math", "min", "(II)I"⟩ : MethodName) jdk_29_method_69_code 2 (some .int) :: ws) ({ frames := 0, cells := 0, slots := 0, locals := 0 } : Room)) (fun a U => a = #[(.int (4 : Int32)), (.int (8 : Int32))] ∧ Z.Warmed39 U.vm ∧ U.heap = h0) (fun _ _ _ _ _ => True) (fun _ U o U' => ∃ v L, o = .returned v ∧ Q_rm8_4 Z  h0 n0 v U'.heap L ∧ FrameEnd U o U' L ({ frames := 0, cells := 0, slots := 0, locals := 0 } : Room).cells ({ frames := 0, cells := 0, slots := 0, locals := 0 } : Room).slots) := by
  refine MetFree.of_bodySF (Jvm.Free.JP.mathPlain rfl (by decide +kernel)) hisR ?_
  intro p e s m args below meth c s₁ Bd hml0 hP hK
  obtain ⟨rfl, hZ, hh⟩ := hP
  have hx := Bd.exec
  have hby := Bd.bytes
  have hml : c.maxLocals = 2 := hml0
  have hown : s.vm.findClass "java/lang/Math" = some m.cls := findClass_of_methodNamed Bd.named
  have hnm := (name_of_methodNamed Bd.named Bd.method).1
  have X0 : Stand p l e ({ frames := 0, cells := 0, slots := 0, locals := 0 } : Room) s m #[(.int (4 : Int32)), (.int (8 : Int32))] below meth c s₁ [] 0 0 := Stand.of_body Bd
  have e0 : s₁.heap = h0 := by rw [← hh, Bd.state]; rfl
  have N0 := Fr.nil n0
  have pre0 : ∀ t, Steps p.tables e below (s₁.setTop (mkF m 0 #[.val (.int (4 : Int32)), .val (.int (8 : Int32))] [])) t → Steps p.tables e below (s₁.setTop (entryFrame m #[(.int (4 : Int32)), (.int (8 : Int32))] 2)) t := fun t k => castTop (ef_rm8_4 m ) k
  obtain ⟨fs, hr, hrun, hended, hW, hsame⟩ := X0.leave (v := some (.int (4 : Int32))) (fun h => by rw [Bd.returns] at h; cases h)
  refine ⟨_, _, pre0 _ ?_, hrun, hended, _, _, rfl, ?_, ⟨_, rfl⟩, hW, hsame.mono (by decide) (by decide)⟩
  · show Steps p.tables e below (s₁.setTop (mkF m 0 #[.val (.int (4 : Int32)), .val (.int (8 : Int32))] [])) _
    refine XS.iloadN X0.here hx rfl (hb hby d8_0) rfl ?_
    refine XS.iloadN X0.here hx rfl (hb hby d8_1) rfl ?_
    show Steps p.tables e below (s₁.setTop (mkF m 2 #[.val (.int (4 : Int32)), .val (.int (8 : Int32))] [(.int (8 : Int32)), (.int (4 : Int32))])) _
    refine XS.icmpNo X0.here hx rfl (hb hby d8_2) rfl (flt (by decide : ¬ ((8 : Int32) < (4 : Int32)))).2.2.1 ?_
    refine XS.iloadN X0.here hx rfl (hb hby d8_5) rfl ?_
    refine XS.goto X0.here hx rfl (pc0 := 6) (pc' := 10) rfl (hb hby d8_6) (by decide) (by decide) ?_
    show Steps p.tables e below (s₁.setTop (mkF m 10 #[.val (.int (4 : Int32)), .val (.int (8 : Int32))] [(.int (4 : Int32))])) _
    exact retI X0 hx Bd.returns (hb hby d8_10) hr
  · show Q_rm8_4 Z  h0 n0 _ s₁.heap _
    rw [e0]
    exact ⟨rfl, N0, rfl⟩
theorem ef_rm7_4 (m : MethodId) (y0 : Addr) : entryFrame m #[(.ref y0), (.int (8 : Int32))] 3 = mkF m 0 #[.val (.ref y0), .val (.int (8 : Int32)), .unset] [] := by first | (simp [entryFrame, mkF, argsToLocals, Value.category]; done) | rfl
def Q_rm7_4 (Z : State) (a7_0 : Addr) (kc_a7_0 : ClassId) (t_a7_0_0 : Int64) (t_a7_0_1 : Int64) (t_a7_0_2 : Int64) (t_a7_0_3 : Int64) (h0 : Heap) (n0 : Nat) (v : Option Value) (h : Heap) (L : List Loc) : Prop := ∃ bx7_0 : Addr, ∃ kx7_0 : ClassId, v = some (.ref bx7_0) ∧ Fr n0 L ∧ Keep h0 h [] ∧ h0.size ≤ bx7_0 ∧ Arv Z h bx7_0 kx7_0 .long (8 : Int32) [(.long t_a7_0_0), (.long t_a7_0_1), (.long t_a7_0_2), (.long t_a7_0_3), (.long (0 : Int64)), (.long (0 : Int64)), (.long (0 : Int64)), (.long (0 : Int64))] (.long (0 : Int64))
set_option maxRecDepth 65536 in
set_option maxHeartbeats 40000000 in
theorem rm7_4 (l : Launch) (Z : State) (a0 : Array Value) (hw : ∀ d ∈ tables_1, d.before a0 Z = true) (ws : List Jvm.Cond) (a7_0 : Addr) (kc_a7_0 : ClassId) (t_a7_0_0 : Int64) (t_a7_0_1 : Int64) (t_a7_0_2 : Int64) (t_a7_0_3 : Int64) (h0 : Heap) (n0 : Nat) (Z0 : n0 ≤ h0.size) (V_a7_0 : Arv Z h0 a7_0 kc_a7_0 .long (4 : Int32) [(.long t_a7_0_0), (.long t_a7_0_1), (.long t_a7_0_2), (.long t_a7_0_3)] (.long (0 : Int64))) :
    MetFree l (⟨"java/util/Arrays", "copyOf", "([JI)[J"⟩ : MethodName) (head1 (Jvm.Cond.code (⟨"java/util/Arrays", "copyOf", "([JI)[J"⟩ : MethodName) jdk_65_method_124_code 3 (some (.array .long)) :: ws) ({ frames := 1, cells := 1, slots := 8, locals := 18 } : Room)) (fun a U => a = #[(.ref a7_0), (.int (8 : Int32))] ∧ Z.Warmed39 U.vm ∧ U.heap = h0) (fun _ _ _ _ _ => True) (fun _ U o U' => ∃ v L, o = .returned v ∧ Q_rm7_4 Z a7_0 kc_a7_0 t_a7_0_0 t_a7_0_1 t_a7_0_2 t_a7_0_3 h0 n0 v U'.heap L ∧ FrameEnd U o U' L ({ frames := 1, cells := 1, slots := 8, locals := 18 } : Room).cells ({ frames := 1, cells := 1, slots := 8, locals := 18 } : Room).slots) := by
  refine MetFree.of_bodySF (plainFor_of_name pn_7) hisR ?_
  intro p e s m args below meth c s₁ Bd hml0 hP hK
  obtain ⟨rfl, hZ, hh⟩ := hP
  have hx := Bd.exec
  have hby := Bd.bytes
  have hml : c.maxLocals = 3 := hml0
  have hown : s.vm.findClass "java/util/Arrays" = some m.cls := findClass_of_methodNamed Bd.named
  have hnm := (name_of_methodNamed Bd.named Bd.method).1
  have X0 : Stand p l e ({ frames := 1, cells := 1, slots := 8, locals := 18 } : Room) s m #[(.ref a7_0), (.int (8 : Int32))] below meth c s₁ [] 0 0 := Stand.of_body Bd
  have e0 : s₁.heap = h0 := by rw [← hh, Bd.state]; rfl
  have N0 := Fr.nil n0
  have pre0 : ∀ t, Steps p.tables e below (s₁.setTop (mkF m 0 #[.val (.ref a7_0), .val (.int (8 : Int32)), .unset] [])) t → Steps p.tables e below (s₁.setTop (entryFrame m #[(.ref a7_0), (.int (8 : Int32))] 3)) t := fun t k => castTop (ef_rm7_4 m a7_0) k
  obtain ⟨cl1, Ar1, qk1, Sz1, Nz1, Hh1, Gf1⟩ := id V_a7_0
  obtain ⟨T2, h2, k2, X2, e2, E2, A2, st2⟩ := newP X0 hx hZ (aty := .long) (ow15 hw) e0 (g := (mkF m 15 #[.val (.ref a7_0), .val (.int (8 : Int32)), .unset] [(.int (8 : Int32))])) rfl (hb hby d7_15) rfl (by decide) (cap := 8) (by decide) (by decide) (by decide) (by decide)
  obtain ⟨b2, g2⟩ : ∃ z, z = h0.size := ⟨_, rfl⟩
  rw [← g2] at A2 st2
  have ne_a7_0_b2 : a7_0 ≠ b2 := Nat.ne_of_lt (Nat.lt_of_lt_of_le V_a7_0.lt (Nat.le_of_eq g2.symm))
  have V_b2 : Arv Z h2 b2 k2 .long (8 : Int32) [(.long (0 : Int64)), (.long (0 : Int64)), (.long (0 : Int64)), (.long (0 : Int64)), (.long (0 : Int64)), (.long (0 : Int64)), (.long (0 : Int64)), (.long (0 : Int64))] (.long (0 : Int64)) := (Arv.new A2 (by decide)).pad (pad_rep [] (.long (0 : Int64)) 8)
  have g_b2 : n0 ≤ b2 := Nat.le_trans Z0 (Nat.le_of_eq g2.symm)
  have sz_b2 : h0.size ≤ b2 := Nat.le_trans (Nat.le_refl _) (Nat.le_of_eq g2.symm)
  have K2 : Keep h0 h2 [] := (Keep.refl h0 []).ext E2
  have Z2 : n0 ≤ h2.size := Nat.le_trans Z0 K2.1
  have f3 := (V_a7_0.ext E2)
  obtain ⟨cl4, Ar4, qk4, Sz4, Nz4, Hh4, Gf4⟩ := id f3
  obtain ⟨_, _, ⟨T5, L5, k5, n5⟩, -, X5, ⟨Lc5, hQ5, l5, y5, z5⟩, st5⟩ := Jvm.LawKit.callS X2 hx (y := (⟨"java/lang/Math", "min", "(II)I"⟩ : MethodName)) hown (mvT hZ (ow38 hw)) (mvT hZ (ow39 hw)) (mvT hZ (ow32 hw)) (mvT hZ (ow40 hw)) (by decide) (backOf (W := 4) (rm8_4 l Z a0 hw []  h2 n0 Z2 ) hZ (ow40 hw) (ow32 hw) (by decide) (by decide)) (g := (mkF m 25 #[.val (.ref a7_0), .val (.int (8 : Int32)), .val (.ref b2)] [(.int (8 : Int32)), (.int (4 : Int32)), (.int (0 : Int32)), (.ref b2), (.int (0 : Int32)), (.ref a7_0)])) rfl (by rw [hml]; rfl) (argsL := [(.int (4 : Int32)), (.int (8 : Int32))]) (rest := [(.int (0 : Int32)), (.ref b2), (.int (0 : Int32)), (.ref a7_0)]) (lenOf pd__II_I rfl) rfl (by show 2 * 0 + _ ≤ _; exact Nat.le_of_eq rfl) (hb hby d7_25) (fun _ _ => ⟨rfl, e2, (by decide : 1 + 0 ≤ _), (by decide : 8 + 0 ≤ _)⟩)
  dsimp only [Pt.U, Pt.locs, Pt.cells, Pt.slots] at X5 l5 y5 z5 st5 hQ5
  subst l5 y5 z5
  obtain ⟨rfl, Nq5, e5⟩ := hQ5
  have N5 := Fr.app N0 Nq5
  obtain ⟨T6, h6, Lo6, X6, e6, N6, Kc6, V6, st6⟩ := cpA X5 hx hZ hown (ow41 hw) (ow44 hw) (ow42 hw) (ow43 hw) e5 f3 V_b2 (Or.inl ⟨rfl, rfl⟩) (sp := (0 : Int32)) (dp := (0 : Int32)) (nn := (4 : Int32)) (us := [(.long t_a7_0_0), (.long t_a7_0_1), (.long t_a7_0_2), (.long t_a7_0_3)]) (by decide) (by decide) (by decide) (by decide) (by decide) rfl (Nat.le_of_ble_eq_true rfl) N5 g_b2 (g := (mkF m 28 #[.val (.ref a7_0), .val (.int (8 : Int32)), .val (.ref b2)] [(.int (4 : Int32)), (.int (0 : Int32)), (.ref b2), (.int (0 : Int32)), (.ref a7_0)])) rfl (by rw [hml]; rfl) rfl (hb hby d7_28) (by decide) (W := 0) (by show 2 * 0 + _ ≤ _; exact Nat.le_of_eq rfl) (by decide)
  have V6 : Arv Z h6 b2 k2 .long (8 : Int32) [(.long t_a7_0_0), (.long t_a7_0_1), (.long t_a7_0_2), (.long t_a7_0_3), (.long (0 : Int64)), (.long (0 : Int64)), (.long (0 : Int64)), (.long (0 : Int64))] (.long (0 : Int64)) := V6
  have K6 : Keep h0 h6 [] := Keep.trans K2 Kc6 (allS (P := fun x => x ∈ ([] : List Addr) ∨ h0.size ≤ x) (Or.inr sz_b2) all0)
  have Z6 : n0 ≤ h6.size := Nat.le_trans Z0 K6.1
  obtain ⟨fs, hr, hrun, hended, hW, hsame⟩ := X6.leave (v := some (.ref b2)) (fun h => by rw [Bd.returns] at h; cases h)
  refine ⟨_, _, pre0 _ ?_, hrun, hended, _, _, rfl, ?_, ⟨_, rfl⟩, hW, hsame.mono (by decide) (by decide)⟩
  · show Steps p.tables e below (s₁.setTop (mkF m 0 #[.val (.ref a7_0), .val (.int (8 : Int32)), .unset] [])) _
    refine XS.iloadN X0.here hx rfl (hb hby d7_0) rfl ?_
    refine XS.aloadN X0.here hx rfl (hb hby d7_1) rfl rfl ?_
    show Steps p.tables e below (s₁.setTop (mkF m 2 #[.val (.ref a7_0), .val (.int (8 : Int32)), .unset] [(.ref a7_0), (.int (8 : Int32))])) _
    refine X0.arraylength hx (cell := cl1) (by rw [e0]; exact Ar1.1) (State.isArrayOf_alike hZ.alike Ar1.2.1) (g := (mkF m 2 #[.val (.ref a7_0), .val (.int (8 : Int32)), .unset] [(.ref a7_0), (.int (8 : Int32))])) rfl (rest := [(.int (8 : Int32))]) rfl (hb hby d7_2) _ ?_
    rw [len_of Sz1 Nz1]
    show Steps p.tables e below (s₁.setTop (mkF m 3 #[.val (.ref a7_0), .val (.int (8 : Int32)), .unset] [(.int (4 : Int32)), (.int (8 : Int32))])) _
    refine XS.icmpYes X0.here hx rfl (pc0 := 3) (pc' := 14) rfl (hb hby d7_3) rfl (feq (by decide : ¬ ((8 : Int32) = (4 : Int32)))).2 (by decide) (by decide) ?_
    refine XS.iloadN X0.here hx rfl (hb hby d7_14) rfl ?_
    refine st2 _ ?_
    show Steps p.tables e below (T2.setTop (mkF m 17 #[.val (.ref a7_0), .val (.int (8 : Int32)), .unset] [(.ref b2)])) _
    refine XS.astoreN X2.here hx rfl (hb hby d7_17) rfl rfl (l' := #[.val (.ref a7_0), .val (.int (8 : Int32)), .val (.ref b2)]) rfl ?_
    refine XS.aloadN X2.here hx rfl (hb hby d7_18) rfl rfl ?_
    refine XS.iconst X2.here hx rfl (hb hby d7_19) ?_
    show Steps p.tables e below (T2.setTop (mkF m 20 #[.val (.ref a7_0), .val (.int (8 : Int32)), .val (.ref b2)] [(.int (0 : Int32)), (.ref a7_0)])) _
    refine XS.aloadN X2.here hx rfl (hb hby d7_20) rfl rfl ?_
    refine XS.iconst X2.here hx rfl (hb hby d7_21) ?_
    refine XS.aloadN X2.here hx rfl (hb hby d7_22) rfl rfl ?_
    show Steps p.tables e below (T2.setTop (mkF m 23 #[.val (.ref a7_0), .val (.int (8 : Int32)), .val (.ref b2)] [(.ref a7_0), (.int (0 : Int32)), (.ref b2), (.int (0 : Int32)), (.ref a7_0)])) _
    refine X2.arraylength hx (cell := cl4) (by rw [e2]; exact Ar4.1) (State.isArrayOf_alike hZ.alike Ar4.2.1) (g := (mkF m 23 #[.val (.ref a7_0), .val (.int (8 : Int32)), .val (.ref b2)] [(.ref a7_0), (.int (0 : Int32)), (.ref b2), (.int (0 : Int32)), (.ref a7_0)])) rfl (rest := [(.int (0 : Int32)), (.ref b2), (.int (0 : Int32)), (.ref a7_0)]) rfl (hb hby d7_23) _ ?_
    rw [len_of Sz4 Nz4]
    refine XS.iloadN X2.here hx rfl (hb hby d7_24) rfl ?_
    show Steps p.tables e below (T2.setTop (mkF m 25 #[.val (.ref a7_0), .val (.int (8 : Int32)), .val (.ref b2)] [(.int (8 : Int32)), (.int (4 : Int32)), (.int (0 : Int32)), (.ref b2), (.int (0 : Int32)), (.ref a7_0)])) _
    refine st5 _ ?_
    refine st6 _ ?_
    refine XS.aloadN X6.here hx rfl (hb hby d7_31) rfl rfl ?_
    show Steps p.tables e below (T6.setTop (mkF m 32 #[.val (.ref a7_0), .val (.int (8 : Int32)), .val (.ref b2)] [(.ref b2)])) _
    jvm_step X6.here [X6.here.top, hx, (hb hby d7_32), X6.method', Bd.returns, Value.isRef, FieldType.isReference]
    first | (intro acts; rw [hr _ acts rfl rfl rfl]) | rw [hr _ _ rfl rfl rfl]
    exact Steps.refl _
  · show Q_rm7_4 Z a7_0 kc_a7_0 t_a7_0_0 t_a7_0_1 t_a7_0_2 t_a7_0_3 h0 n0 _ T6.heap _
    rw [e6]
    exact ⟨b2, k2, rfl, N6, K6, sz_b2, V6⟩
theorem ef_rm10_3 (m : MethodId) (y0 : Addr) : entryFrame m #[(.ref y0), (.int (0 : Int32))] 5 = mkF m 0 #[.val (.ref y0), .val (.int (0 : Int32)), .unset, .unset, .unset] [] := by first | (simp [entryFrame, mkF, argsToLocals, Value.category]; done) | rfl
def Q_rm10_3 (Z : State) (a10_0 : Addr) (w_tree_a10_0 : Addr) (w_total_a10_0 : Int64) (kc_w_tree_a10_0 : ClassId) (t_w_tree_a10_0_0 : Int64) (t_w_tree_a10_0_1 : Int64) (t_w_tree_a10_0_2 : Int64) (t_w_tree_a10_0_3 : Int64) (h0 : Heap) (n0 : Nat) (v : Option Value) (h : Heap) (L : List Loc) : Prop := v = some (.long (0 : Int64)) ∧ Fr n0 L ∧ h = h0
set_option maxRecDepth 65536 in
set_option maxHeartbeats 40000000 in
theorem rm10_3 (l : Launch) (Z : State) (a0 : Array Value) (hw : ∀ d ∈ tables_1, d.before a0 Z = true) (ws : List Jvm.Cond) (a10_0 : Addr) (w_tree_a10_0 : Addr) (w_total_a10_0 : Int64) (kc_w_tree_a10_0 : ClassId) (t_w_tree_a10_0_0 : Int64) (t_w_tree_a10_0_1 : Int64) (t_w_tree_a10_0_2 : Int64) (t_w_tree_a10_0_3 : Int64) (h0 : Heap) (n0 : Nat) (Z0 : n0 ≤ h0.size) (E_a10_0 : Exa Z h0 a10_0 "com/example/motley/motley/CountTree") (F_tree_a10_0 : Fld Z h0 a10_0 "com/example/motley/motley/CountTree" "tree" "[J" (.ref w_tree_a10_0)) (F_size_a10_0 : Fld Z h0 a10_0 "com/example/motley/motley/CountTree" "size" "I" (.int (4 : Int32))) (F_total_a10_0 : Fld Z h0 a10_0 "com/example/motley/motley/CountTree" "total" "J" (.long w_total_a10_0)) (V_w_tree_a10_0 : Arv Z h0 w_tree_a10_0 kc_w_tree_a10_0 .long (4 : Int32) [(.long t_w_tree_a10_0_0), (.long t_w_tree_a10_0_1), (.long t_w_tree_a10_0_2), (.long t_w_tree_a10_0_3)] (.long (0 : Int64))) :
    MetFree l (⟨"com/example/motley/motley/CountTree", "sumBefore", "(I)J"⟩ : MethodName) (head1 (Jvm.Cond.code (⟨"com/example/motley/motley/CountTree", "sumBefore", "(I)J"⟩ : MethodName) prog_14_method_8_code 5 (some .long) :: ws) ({ frames := 0, cells := 0, slots := 0, locals := 0 } : Room)) (fun a U => a = #[(.ref a10_0), (.int (0 : Int32))] ∧ Z.Warmed39 U.vm ∧ U.heap = h0) (fun _ _ _ _ _ => True) (fun _ U o U' => ∃ v L, o = .returned v ∧ Q_rm10_3 Z a10_0 w_tree_a10_0 w_total_a10_0 kc_w_tree_a10_0 t_w_tree_a10_0_0 t_w_tree_a10_0_1 t_w_tree_a10_0_2 t_w_tree_a10_0_3 h0 n0 v U'.heap L ∧ FrameEnd U o U' L ({ frames := 0, cells := 0, slots := 0, locals := 0 } : Room).cells ({ frames := 0, cells := 0, slots := 0, locals := 0 } : Room).slots) := by
  refine MetFree.of_bodySF (plainFor_of_name pn_10) hisR ?_
  intro p e s m args below meth c s₁ Bd hml0 hP hK
  obtain ⟨rfl, hZ, hh⟩ := hP
  have hx := Bd.exec
  have hby := Bd.bytes
  have hml : c.maxLocals = 5 := hml0
  have hown : s.vm.findClass "com/example/motley/motley/CountTree" = some m.cls := findClass_of_methodNamed Bd.named
  have hnm := (name_of_methodNamed Bd.named Bd.method).1
  have X0 : Stand p l e ({ frames := 0, cells := 0, slots := 0, locals := 0 } : Room) s m #[(.ref a10_0), (.int (0 : Int32))] below meth c s₁ [] 0 0 := Stand.of_body Bd
  have e0 : s₁.heap = h0 := by rw [← hh, Bd.state]; rfl
  have N0 := Fr.nil n0
  have pre0 : ∀ t, Steps p.tables e below (s₁.setTop (mkF m 0 #[.val (.ref a10_0), .val (.int (0 : Int32)), .unset, .unset, .unset] [])) t → Steps p.tables e below (s₁.setTop (entryFrame m #[(.ref a10_0), (.int (0 : Int32))] 5)) t := fun t k => castTop (ef_rm10_3 m a10_0) k
  obtain ⟨fs, hr, hrun, hended, hW, hsame⟩ := X0.leave (v := some (.long (0 : Int64))) (fun h => by rw [Bd.returns] at h; cases h)
  refine ⟨_, _, pre0 _ ?_, hrun, hended, _, _, rfl, ?_, ⟨_, rfl⟩, hW, hsame.mono (by decide) (by decide)⟩
  · show Steps p.tables e below (s₁.setTop (mkF m 0 #[.val (.ref a10_0), .val (.int (0 : Int32)), .unset, .unset, .unset] [])) _
    refine XS.lconst X0.here hx rfl (hb hby d10_0) ?_
    refine XS.lstoreN X0.here hx rfl (hb hby d10_1) rfl (l' := #[.val (.ref a10_0), .val (.int (0 : Int32)), .val (.long (0 : Int64)), .second, .unset]) rfl ?_
    refine XS.iloadN X0.here hx rfl (hb hby d10_2) rfl ?_
    show Steps p.tables e below (s₁.setTop (mkF m 3 #[.val (.ref a10_0), .val (.int (0 : Int32)), .val (.long (0 : Int64)), .second, .unset] [(.int (0 : Int32))])) _
    refine XS.istore X0.here hx rfl (hb hby d10_3) rfl (l' := #[.val (.ref a10_0), .val (.int (0 : Int32)), .val (.long (0 : Int64)), .second, .val (.int (0 : Int32))]) rfl ?_
    refine XS.iload X0.here hx rfl (hb hby d10_5) rfl ?_
    show Steps p.tables e below (s₁.setTop (mkF m 7 #[.val (.ref a10_0), .val (.int (0 : Int32)), .val (.long (0 : Int64)), .second, .val (.int (0 : Int32))] [(.int (0 : Int32))])) _
    refine XS.ifYes X0.here hx rfl (pc0 := 7) (pc' := 36) rfl (hb hby d10_7) rfl ((if0 _ _).trans (flt (by decide : ¬ ((0 : Int32) < (0 : Int32)))).2.2.2) (by decide) (by decide) ?_
    refine XS.lloadN X0.here hx rfl (hb hby d10_36) rfl ?_
    show Steps p.tables e below (s₁.setTop (mkF m 37 #[.val (.ref a10_0), .val (.int (0 : Int32)), .val (.long (0 : Int64)), .second, .val (.int (0 : Int32))] [(.long (0 : Int64))])) _
    exact own_retJ X0 hx Bd.returns (hb hby d10_37) hr
  · show Q_rm10_3 Z a10_0 w_tree_a10_0 w_total_a10_0 kc_w_tree_a10_0 t_w_tree_a10_0_0 t_w_tree_a10_0_1 t_w_tree_a10_0_2 t_w_tree_a10_0_3 h0 n0 _ s₁.heap _
    rw [e0]
    exact ⟨rfl, N0, rfl⟩
theorem ef_rm5_5 (m : MethodId) (y0 : Addr) : entryFrame m #[(.ref y0), (.int (1 : Int32))] 7 = mkF m 0 #[.val (.ref y0), .val (.int (1 : Int32)), .unset, .unset, .unset, .unset, .unset] [] := by first | (simp [entryFrame, mkF, argsToLocals, Value.category]; done) | rfl
def Q_rm5_5 (Z : State) (a5_0 : Addr) (w_tree_a5_0 : Addr) (w_total_a5_0 : Int64) (kc_w_tree_a5_0 : ClassId) (t_w_tree_a5_0_0 : Int64) (t_w_tree_a5_0_1 : Int64) (t_w_tree_a5_0_2 : Int64) (t_w_tree_a5_0_3 : Int64) (h0 : Heap) (n0 : Nat) (v : Option Value) (h : Heap) (L : List Loc) : Prop := ∃ bx5_0 : Addr, ∃ kx5_0 : ClassId, v = none ∧ Fr n0 L ∧ Keep h0 h [a5_0] ∧ h0.size ≤ bx5_0 ∧ Exa Z h a5_0 "com/example/motley/motley/CountTree" ∧ Fld Z h a5_0 "com/example/motley/motley/CountTree" "tree" "[J" (.ref bx5_0) ∧ Fld Z h a5_0 "com/example/motley/motley/CountTree" "size" "I" (.int (4 : Int32)) ∧ Fld Z h a5_0 "com/example/motley/motley/CountTree" "total" "J" (.long w_total_a5_0) ∧ Arv Z h bx5_0 kx5_0 .long (8 : Int32) [(.long t_w_tree_a5_0_0), (.long t_w_tree_a5_0_1), (.long t_w_tree_a5_0_2), (.long t_w_tree_a5_0_3), (.long (0 : Int64)), (.long (0 : Int64)), (.long (0 : Int64)), (.long (w_total_a5_0 - (0 : Int64)))] (.long (0 : Int64))
set_option maxRecDepth 65536 in
set_option maxHeartbeats 40000000 in
theorem rm5_5 (l : Launch) (Z : State) (a0 : Array Value) (hw : ∀ d ∈ tables_1, d.before a0 Z = true) (ws : List Jvm.Cond) (a5_0 : Addr) (w_tree_a5_0 : Addr) (w_total_a5_0 : Int64) (kc_w_tree_a5_0 : ClassId) (t_w_tree_a5_0_0 : Int64) (t_w_tree_a5_0_1 : Int64) (t_w_tree_a5_0_2 : Int64) (t_w_tree_a5_0_3 : Int64) (h0 : Heap) (n0 : Nat) (Z0 : n0 ≤ h0.size) (E_a5_0 : Exa Z h0 a5_0 "com/example/motley/motley/CountTree") (F_tree_a5_0 : Fld Z h0 a5_0 "com/example/motley/motley/CountTree" "tree" "[J" (.ref w_tree_a5_0)) (F_size_a5_0 : Fld Z h0 a5_0 "com/example/motley/motley/CountTree" "size" "I" (.int (4 : Int32))) (F_total_a5_0 : Fld Z h0 a5_0 "com/example/motley/motley/CountTree" "total" "J" (.long w_total_a5_0)) (V_w_tree_a5_0 : Arv Z h0 w_tree_a5_0 kc_w_tree_a5_0 .long (4 : Int32) [(.long t_w_tree_a5_0_0), (.long t_w_tree_a5_0_1), (.long t_w_tree_a5_0_2), (.long t_w_tree_a5_0_3)] (.long (0 : Int64))) (g_a5_0 : n0 ≤ a5_0) :
    MetFree l (⟨"com/example/motley/motley/CountTree", "reserve", "(I)V"⟩ : MethodName) (head1 (Jvm.Cond.code (⟨"com/example/motley/motley/CountTree", "reserve", "(I)V"⟩ : MethodName) prog_14_method_3_code 7 none :: ws) ({ frames := 2, cells := 1, slots := 8, locals := 32 } : Room)) (fun a U => a = #[(.ref a5_0), (.int (1 : Int32))] ∧ Z.Warmed39 U.vm ∧ U.heap = h0) (fun _ _ _ _ _ => True) (fun _ U o U' => ∃ v L, o = .returned v ∧ Q_rm5_5 Z a5_0 w_tree_a5_0 w_total_a5_0 kc_w_tree_a5_0 t_w_tree_a5_0_0 t_w_tree_a5_0_1 t_w_tree_a5_0_2 t_w_tree_a5_0_3 h0 n0 v U'.heap L ∧ FrameEnd U o U' L ({ frames := 2, cells := 1, slots := 8, locals := 32 } : Room).cells ({ frames := 2, cells := 1, slots := 8, locals := 32 } : Room).slots) := by
  refine MetFree.of_bodySF (plainFor_of_name pn_5) hisR ?_
  intro p e s m args below meth c s₁ Bd hml0 hP hK
  obtain ⟨rfl, hZ, hh⟩ := hP
  have hx := Bd.exec
  have hby := Bd.bytes
  have hml : c.maxLocals = 7 := hml0
  have hown : s.vm.findClass "com/example/motley/motley/CountTree" = some m.cls := findClass_of_methodNamed Bd.named
  have hnm := (name_of_methodNamed Bd.named Bd.method).1
  have X0 : Stand p l e ({ frames := 2, cells := 1, slots := 8, locals := 32 } : Room) s m #[(.ref a5_0), (.int (1 : Int32))] below meth c s₁ [] 0 0 := Stand.of_body Bd
  have e0 : s₁.heap = h0 := by rw [← hh, Bd.state]; rfl
  have N0 := Fr.nil n0
  have pre0 : ∀ t, Steps p.tables e below (s₁.setTop (mkF m 0 #[.val (.ref a5_0), .val (.int (1 : Int32)), .unset, .unset, .unset, .unset, .unset] [])) t → Steps p.tables e below (s₁.setTop (entryFrame m #[(.ref a5_0), (.int (1 : Int32))] 7)) t := fun t k => castTop (ef_rm5_5 m a5_0) k
  obtain ⟨T1, X1, e1, st1⟩ := getF X0 hx hZ hown (host := "") (Or.inl (ow28 hw)) Via.refl e0 F_size_a5_0 (g := (mkF m 1 #[.val (.ref a5_0), .val (.int (1 : Int32)), .unset, .unset, .unset, .unset, .unset] [(.ref a5_0)])) rfl rfl (hb hby d5_1)
  obtain ⟨T2, X2, e2, st2⟩ := getF X1 hx hZ hown (host := "") (Or.inl (ow16 hw)) Via.refl e1 F_tree_a5_0 (g := (mkF m 9 #[.val (.ref a5_0), .val (.int (1 : Int32)), .val (.int (5 : Int32)), .unset, .unset, .unset, .unset] [(.ref a5_0), (.int (5 : Int32))])) rfl rfl (hb hby d5_9)
  obtain ⟨cl3, Ar3, qk3, Sz3, Nz3, Hh3, Gf3⟩ := id V_w_tree_a5_0
  obtain ⟨T4, X4, e4, st4⟩ := getF X2 hx hZ hown (host := "") (Or.inl (ow16 hw)) Via.refl e2 F_tree_a5_0 (g := (mkF m 20 #[.val (.ref a5_0), .val (.int (1 : Int32)), .val (.int (5 : Int32)), .unset, .unset, .unset, .unset] [(.ref a5_0), (.int (2 : Int32)), (.int (5 : Int32))])) rfl rfl (hb hby d5_20)
  obtain ⟨cl5, Ar5, qk5, Sz5, Nz5, Hh5, Gf5⟩ := id V_w_tree_a5_0
  obtain ⟨_, _, ⟨T6, L6, k6, n6⟩, -, X6, ⟨Lc6, hQ6, l6, y6, z6⟩, st6⟩ := Jvm.LawKit.callS X4 hx (y := (⟨"java/lang/Math", "max", "(II)I"⟩ : MethodName)) hown (mvT hZ (ow30 hw)) (mvT hZ (ow31 hw)) (mvT hZ (ow32 hw)) (mvT hZ (ow33 hw)) (by decide) (backOf (W := 0) (rm6_4 l Z a0 hw []  h0 n0 Z0 ) hZ (ow33 hw) (ow32 hw) (by decide) (by decide)) (g := (mkF m 25 #[.val (.ref a5_0), .val (.int (1 : Int32)), .val (.int (5 : Int32)), .unset, .unset, .unset, .unset] [(.int (8 : Int32)), (.int (5 : Int32))])) rfl (by rw [hml]; rfl) (argsL := [(.int (5 : Int32)), (.int (8 : Int32))]) (rest := []) (lenOf pd__II_I rfl) rfl (by show 2 * 0 + _ ≤ _; exact Nat.le_of_eq rfl) (hb hby d5_25) (fun _ _ => ⟨rfl, e4, (by decide : 0 + 0 ≤ _), (by decide : 0 + 0 ≤ _)⟩)
  dsimp only [Pt.U, Pt.locs, Pt.cells, Pt.slots] at X6 l6 y6 z6 st6 hQ6
  subst l6 y6 z6
  obtain ⟨rfl, Nq6, e6⟩ := hQ6
  have N6 := Fr.app N0 Nq6
  obtain ⟨T7, X7, e7, st7⟩ := getF X6 hx hZ hown (host := "") (Or.inl (ow16 hw)) Via.refl e6 F_tree_a5_0 (g := (mkF m 30 #[.val (.ref a5_0), .val (.int (1 : Int32)), .val (.int (5 : Int32)), .val (.int (8 : Int32)), .unset, .unset, .unset] [(.ref a5_0)])) rfl rfl (hb hby d5_30)
  obtain ⟨_, _, ⟨T8, L8, k8, n8⟩, -, X8, ⟨Lc8, hQ8, l8, y8, z8⟩, st8⟩ := Jvm.LawKit.callS X7 hx (y := (⟨"java/util/Arrays", "copyOf", "([JI)[J"⟩ : MethodName)) hown (mvT hZ (ow34 hw)) (mvT hZ (ow35 hw)) (mvT hZ (ow36 hw)) (mvT hZ (ow37 hw)) (by decide) (backOf (W := 0) (rm7_4 l Z a0 hw [] w_tree_a5_0 kc_w_tree_a5_0 t_w_tree_a5_0_0 t_w_tree_a5_0_1 t_w_tree_a5_0_2 t_w_tree_a5_0_3 h0 n0 Z0 V_w_tree_a5_0) hZ (ow37 hw) (ow36 hw) (by decide) (by decide)) (g := (mkF m 34 #[.val (.ref a5_0), .val (.int (1 : Int32)), .val (.int (5 : Int32)), .val (.int (8 : Int32)), .unset, .unset, .unset] [(.int (8 : Int32)), (.ref w_tree_a5_0)])) rfl (by rw [hml]; rfl) (argsL := [(.ref w_tree_a5_0), (.int (8 : Int32))]) (rest := []) (lenOf pd___JI__J rfl) rfl (by show 2 * 0 + _ ≤ _; exact Nat.le_of_eq rfl) (hb hby d5_34) (fun _ _ => ⟨rfl, e7, (by decide : 0 + 1 ≤ _), (by decide : 0 + 8 ≤ _)⟩)
  dsimp only [Pt.U, Pt.locs, Pt.cells, Pt.slots] at X8 l8 y8 z8 st8 hQ8
  subst l8 y8 z8
  obtain ⟨bx7_0_8, kx7_0_8, rfl, Nq8, Kc8, P8_0, P8_1⟩ := hQ8
  have K8 : Keep h0 T8.heap [a5_0] := Keep.trans (Keep.refl h0 [a5_0]) Kc8 all0
  have Z8 : n0 ≤ T8.heap.size := Nat.le_trans Z0 K8.1
  have g_bx7_0_8 : n0 ≤ bx7_0_8 := Nat.le_trans Z0 P8_0
  have sz_bx7_0_8 : h0.size ≤ bx7_0_8 := Nat.le_trans (Nat.le_refl _) P8_0
  have ne_a5_0_bx7_0_8 : a5_0 ≠ bx7_0_8 := Nat.ne_of_lt (Nat.lt_of_lt_of_le E_a5_0.lt P8_0)
  have ne_w_tree_a5_0_bx7_0_8 : w_tree_a5_0 ≠ bx7_0_8 := Nat.ne_of_lt (Nat.lt_of_lt_of_le V_w_tree_a5_0.lt P8_0)
  have N8 := Fr.app N6 Nq8
  have f9 := (F_tree_a5_0.keep Kc8 nin0)
  obtain ⟨T10, X10, e10, st10⟩ := getF X8 hx hZ hown (host := "") (Or.inl (ow16 hw)) Via.refl rfl f9 (g := (mkF m 40 #[.val (.ref a5_0), .val (.int (1 : Int32)), .val (.int (5 : Int32)), .val (.int (8 : Int32)), .val (.ref bx7_0_8), .unset, .unset] [(.ref a5_0)])) rfl rfl (hb hby d5_40)
  have f11 := (V_w_tree_a5_0.keep Kc8 nin0)
  obtain ⟨cl12, Ar12, qk12, Sz12, Nz12, Hh12, Gf12⟩ := id f11
  have f13 := (F_size_a5_0.keep Kc8 nin0)
  obtain ⟨T14, X14, e14, st14⟩ := getF X10 hx hZ hown (host := "") (Or.inl (ow28 hw)) Via.refl e10 f13 (g := (mkF m 68 #[.val (.ref a5_0), .val (.int (1 : Int32)), .val (.int (5 : Int32)), .val (.int (8 : Int32)), .val (.ref bx7_0_8), .val (.int (5 : Int32)), .val (.int (4 : Int32))] [(.ref a5_0), (.int (4 : Int32))])) rfl rfl (hb hby d5_68)
  obtain ⟨T15, X15, e15, st15⟩ := getF X14 hx hZ hown (host := "") (Or.inl (ow28 hw)) Via.refl e14 f13 (g := (mkF m 68 #[.val (.ref a5_0), .val (.int (1 : Int32)), .val (.int (5 : Int32)), .val (.int (8 : Int32)), .val (.ref bx7_0_8), .val (.int (6 : Int32)), .val (.int (4 : Int32))] [(.ref a5_0), (.int (4 : Int32))])) rfl rfl (hb hby d5_68)
  obtain ⟨T16, X16, e16, st16⟩ := getF X15 hx hZ hown (host := "") (Or.inl (ow28 hw)) Via.refl e15 f13 (g := (mkF m 68 #[.val (.ref a5_0), .val (.int (1 : Int32)), .val (.int (5 : Int32)), .val (.int (8 : Int32)), .val (.ref bx7_0_8), .val (.int (7 : Int32)), .val (.int (6 : Int32))] [(.ref a5_0), (.int (6 : Int32))])) rfl rfl (hb hby d5_68)
  obtain ⟨T17, X17, e17, st17⟩ := getF X16 hx hZ hown (host := "") (Or.inl (ow28 hw)) Via.refl e16 f13 (g := (mkF m 68 #[.val (.ref a5_0), .val (.int (1 : Int32)), .val (.int (5 : Int32)), .val (.int (8 : Int32)), .val (.ref bx7_0_8), .val (.int (8 : Int32)), .val (.int (0 : Int32))] [(.ref a5_0), (.int (0 : Int32))])) rfl rfl (hb hby d5_68)
  have f18 := (F_total_a5_0.keep Kc8 nin0)
  obtain ⟨T19, X19, e19, st19⟩ := getF X17 hx hZ hown (host := "") (Or.inl (ow50 hw)) Via.refl e17 f18 (g := (mkF m 81 #[.val (.ref a5_0), .val (.int (1 : Int32)), .val (.int (5 : Int32)), .val (.int (8 : Int32)), .val (.ref bx7_0_8), .val (.int (8 : Int32)), .val (.int (0 : Int32))] [(.ref a5_0), (.int (7 : Int32)), (.ref bx7_0_8)])) rfl rfl (hb hby d5_81)
  have f20 := (E_a5_0.keep Kc8)
  obtain ⟨cq21, kq21, q21a, q21b, q21c⟩ := isOf hZ e19 f20
  obtain ⟨_, _, ⟨T21, L21, k21, n21⟩, -, X21, ⟨Lc21, hQ21, l21, y21, z21⟩, st21⟩ := X19.virtualBack hx (y := (⟨"com/example/motley/motley/CountTree", "sumBefore", "(I)J"⟩ : MethodName)) (z := (⟨"com/example/motley/motley/CountTree", "sumBefore", "(I)J"⟩ : MethodName)) hown (mvT hZ (ow52 hw)) (mvT hZ (ow53 hw)) (notFace_of_selects (args := #[]) (mvT hZ (ow55 hw))) (mvT hZ (ow55 hw)) (mvT hZ (ow54 hw)) (by decide) (backOf (W := 4) (rm10_3 l Z a0 hw [] a5_0 w_tree_a5_0 w_total_a5_0 kc_w_tree_a5_0 t_w_tree_a5_0_0 t_w_tree_a5_0_1 t_w_tree_a5_0_2 t_w_tree_a5_0_3 T8.heap n0 Z8 f20 f9 f13 f18 f11) hZ (ow56 hw) (ow8 hw) (by decide) (by decide)) q21a q21c (g := (mkF m 87 #[.val (.ref a5_0), .val (.int (1 : Int32)), .val (.int (5 : Int32)), .val (.int (8 : Int32)), .val (.ref bx7_0_8), .val (.int (8 : Int32)), .val (.int (0 : Int32))] [(.int (0 : Int32)), (.ref a5_0), (.long w_total_a5_0), (.int (7 : Int32)), (.ref bx7_0_8)])) rfl (by rw [hml]; rfl) (Steps.refl _) (argsL := [(.int (0 : Int32))]) (rest := [(.long w_total_a5_0), (.int (7 : Int32)), (.ref bx7_0_8)]) (lenOf pd__I_J rfl) rfl (by show 2 * 0 + _ ≤ _; exact Nat.le_of_eq rfl) (hb hby d5_87) (fun _ _ => ⟨rfl, e19, (by decide : 1 + 0 ≤ _), (by decide : 8 + 0 ≤ _)⟩)
  dsimp only [Pt.U, Pt.locs, Pt.cells, Pt.slots] at X21 l21 y21 z21 st21 hQ21
  subst l21 y21 z21
  obtain ⟨rfl, Nq21, e21⟩ := hQ21
  have N21 := Fr.app N8 Nq21
  obtain ⟨cl22, Ar22, qk22, Sz22, Nz22, Hh22, Gf22⟩ := id P8_1
  obtain ⟨T23, h23, X23, e23, W23, st23⟩ := stJ X21 hx hZ e21 Ar22 (j := (7 : Int32)) (inb_of Sz22 ⟨by decide, by decide⟩) (g := (mkF m 91 #[.val (.ref a5_0), .val (.int (1 : Int32)), .val (.int (5 : Int32)), .val (.int (8 : Int32)), .val (.ref bx7_0_8), .val (.int (8 : Int32)), .val (.int (0 : Int32))] [(.long (w_total_a5_0 - (0 : Int64))), (.int (7 : Int32)), (.ref bx7_0_8)])) rfl rfl (hb hby d5_91)
  have V23 : Arv Z h23 bx7_0_8 kx7_0_8 .long (8 : Int32) [(.long t_w_tree_a5_0_0), (.long t_w_tree_a5_0_1), (.long t_w_tree_a5_0_2), (.long t_w_tree_a5_0_3), (.long (0 : Int64)), (.long (0 : Int64)), (.long (0 : Int64)), (.long (w_total_a5_0 - (0 : Int64)))] (.long (0 : Int64)) := Arv.set Ar22 qk22 Sz22 Nz22 Hh22 Gf22 rfl W23 7 rfl (Nat.le_of_ble_eq_true rfl)
  have K23 : Keep h0 h23 [a5_0] := K8.wr W23 (Or.inr sz_bx7_0_8)
  have Z23 : n0 ≤ h23.size := Nat.le_trans Z0 K23.1
  have N23 := Fr.snoc X23 N21 g_bx7_0_8
  have f24 := (f20.wr W23)
  have f25 := (f9.other W23 (Or.inl ne_a5_0_bx7_0_8))
  obtain ⟨T26, h26, X26, e26, W26, st26⟩ := putF X23 hx hZ hown (host := "") (Or.inl (ow16 hw)) Via.refl e23 f25 f24 (Or.inl (ow17 hw)) (ow7 hw) (ty := (.array .long)) (by decide) rfl rfl (g := (mkF m 101 #[.val (.ref a5_0), .val (.int (1 : Int32)), .val (.int (5 : Int32)), .val (.int (8 : Int32)), .val (.ref bx7_0_8), .val (.int (9 : Int32)), .val (.int (0 : Int32))] [(.ref bx7_0_8), (.ref a5_0)])) rfl rfl (hb hby d5_101)
  have F26 := f25.same W26
  have K26 : Keep h0 h26 [a5_0] := K23.wr W26 (Or.inl (List.mem_of_getElem? (i := 0) rfl))
  have Z26 : n0 ≤ h26.size := Nat.le_trans Z0 K26.1
  have N26 := Fr.snoc X26 N23 g_a5_0
  obtain ⟨fs, hr, hrun, hended, hW, hsame⟩ := X26.leave (v := none) (fun _ => rfl)
  refine ⟨_, _, pre0 _ ?_, hrun, hended, _, _, rfl, ?_, ⟨_, rfl⟩, hW, hsame.mono (by decide) (by decide)⟩
  · show Steps p.tables e below (s₁.setTop (mkF m 0 #[.val (.ref a5_0), .val (.int (1 : Int32)), .unset, .unset, .unset, .unset, .unset] [])) _
    refine XS.aloadN X0.here hx rfl (hb hby d5_0) rfl rfl ?_
    refine st1 _ ?_
    refine XS.iloadN X1.here hx rfl (hb hby d5_4) rfl ?_
    show Steps p.tables e below (T1.setTop (mkF m 5 #[.val (.ref a5_0), .val (.int (1 : Int32)), .unset, .unset, .unset, .unset, .unset] [(.int (1 : Int32)), (.int (4 : Int32))])) _
    refine XS.iadd X1.here hx rfl (hb hby d5_5) rfl ?_
    refine XS.istoreN X1.here hx rfl (hb hby d5_6) rfl (l' := #[.val (.ref a5_0), .val (.int (1 : Int32)), .val (.int (5 : Int32)), .unset, .unset, .unset, .unset]) rfl ?_
    refine XS.iloadN X1.here hx rfl (hb hby d5_7) rfl ?_
    show Steps p.tables e below (T1.setTop (mkF m 8 #[.val (.ref a5_0), .val (.int (1 : Int32)), .val (.int (5 : Int32)), .unset, .unset, .unset, .unset] [(.int (5 : Int32))])) _
    refine XS.aloadN X1.here hx rfl (hb hby d5_8) rfl rfl ?_
    refine st2 _ ?_
    show Steps p.tables e below (T2.setTop (mkF m 12 #[.val (.ref a5_0), .val (.int (1 : Int32)), .val (.int (5 : Int32)), .unset, .unset, .unset, .unset] [(.ref w_tree_a5_0), (.int (5 : Int32))])) _
    refine X2.arraylength hx (cell := cl3) (by rw [e2]; exact Ar3.1) (State.isArrayOf_alike hZ.alike Ar3.2.1) (g := (mkF m 12 #[.val (.ref a5_0), .val (.int (1 : Int32)), .val (.int (5 : Int32)), .unset, .unset, .unset, .unset] [(.ref w_tree_a5_0), (.int (5 : Int32))])) rfl (rest := [(.int (5 : Int32))]) rfl (hb hby d5_12) _ ?_
    rw [len_of Sz3 Nz3]
    show Steps p.tables e below (T2.setTop (mkF m 13 #[.val (.ref a5_0), .val (.int (1 : Int32)), .val (.int (5 : Int32)), .unset, .unset, .unset, .unset] [(.int (4 : Int32)), (.int (5 : Int32))])) _
    refine XS.icmpYes X2.here hx rfl (pc0 := 13) (pc' := 17) rfl (hb hby d5_13) rfl (tlt (by decide : (4 : Int32) < (5 : Int32))).2.2.1 (by decide) (by decide) ?_
    refine XS.iloadN X2.here hx rfl (hb hby d5_17) rfl ?_
    refine XS.iconst X2.here hx rfl (hb hby d5_18) ?_
    show Steps p.tables e below (T2.setTop (mkF m 19 #[.val (.ref a5_0), .val (.int (1 : Int32)), .val (.int (5 : Int32)), .unset, .unset, .unset, .unset] [(.int (2 : Int32)), (.int (5 : Int32))])) _
    refine XS.aloadN X2.here hx rfl (hb hby d5_19) rfl rfl ?_
    refine st4 _ ?_
    show Steps p.tables e below (T4.setTop (mkF m 23 #[.val (.ref a5_0), .val (.int (1 : Int32)), .val (.int (5 : Int32)), .unset, .unset, .unset, .unset] [(.ref w_tree_a5_0), (.int (2 : Int32)), (.int (5 : Int32))])) _
    refine X4.arraylength hx (cell := cl5) (by rw [e4]; exact Ar5.1) (State.isArrayOf_alike hZ.alike Ar5.2.1) (g := (mkF m 23 #[.val (.ref a5_0), .val (.int (1 : Int32)), .val (.int (5 : Int32)), .unset, .unset, .unset, .unset] [(.ref w_tree_a5_0), (.int (2 : Int32)), (.int (5 : Int32))])) rfl (rest := [(.int (2 : Int32)), (.int (5 : Int32))]) rfl (hb hby d5_23) _ ?_
    rw [len_of Sz5 Nz5]
    refine XS.imul X4.here hx rfl (hb hby d5_24) rfl ?_
    show Steps p.tables e below (T4.setTop (mkF m 25 #[.val (.ref a5_0), .val (.int (1 : Int32)), .val (.int (5 : Int32)), .unset, .unset, .unset, .unset] [(.int (8 : Int32)), (.int (5 : Int32))])) _
    refine st6 _ ?_
    refine XS.istoreN X6.here hx rfl (hb hby d5_28) rfl (l' := #[.val (.ref a5_0), .val (.int (1 : Int32)), .val (.int (5 : Int32)), .val (.int (8 : Int32)), .unset, .unset, .unset]) rfl ?_
    refine XS.aloadN X6.here hx rfl (hb hby d5_29) rfl rfl ?_
    show Steps p.tables e below (T6.setTop (mkF m 30 #[.val (.ref a5_0), .val (.int (1 : Int32)), .val (.int (5 : Int32)), .val (.int (8 : Int32)), .unset, .unset, .unset] [(.ref a5_0)])) _
    refine st7 _ ?_
    refine XS.iloadN X7.here hx rfl (hb hby d5_33) rfl ?_
    refine st8 _ ?_
    show Steps p.tables e below (T8.setTop (mkF m 37 #[.val (.ref a5_0), .val (.int (1 : Int32)), .val (.int (5 : Int32)), .val (.int (8 : Int32)), .unset, .unset, .unset] [(.ref bx7_0_8)])) _
    refine XS.astore X8.here hx rfl (hb hby d5_37) rfl rfl (l' := #[.val (.ref a5_0), .val (.int (1 : Int32)), .val (.int (5 : Int32)), .val (.int (8 : Int32)), .val (.ref bx7_0_8), .unset, .unset]) rfl ?_
    refine XS.aloadN X8.here hx rfl (hb hby d5_39) rfl rfl ?_
    refine st10 _ ?_
    show Steps p.tables e below (T10.setTop (mkF m 43 #[.val (.ref a5_0), .val (.int (1 : Int32)), .val (.int (5 : Int32)), .val (.int (8 : Int32)), .val (.ref bx7_0_8), .unset, .unset] [(.ref w_tree_a5_0)])) _
    refine X10.arraylength hx (cell := cl12) (by rw [e10]; exact Ar12.1) (State.isArrayOf_alike hZ.alike Ar12.2.1) (g := (mkF m 43 #[.val (.ref a5_0), .val (.int (1 : Int32)), .val (.int (5 : Int32)), .val (.int (8 : Int32)), .val (.ref bx7_0_8), .unset, .unset] [(.ref w_tree_a5_0)])) rfl (rest := []) rfl (hb hby d5_43) _ ?_
    rw [len_of Sz12 Nz12]
    refine XS.iconst X10.here hx rfl (hb hby d5_44) ?_
    show Steps p.tables e below (T10.setTop (mkF m 45 #[.val (.ref a5_0), .val (.int (1 : Int32)), .val (.int (5 : Int32)), .val (.int (8 : Int32)), .val (.ref bx7_0_8), .unset, .unset] [(.int (1 : Int32)), (.int (4 : Int32))])) _
    refine XS.iadd X10.here hx rfl (hb hby d5_45) rfl ?_
    refine XS.istore X10.here hx rfl (hb hby d5_46) rfl (l' := #[.val (.ref a5_0), .val (.int (1 : Int32)), .val (.int (5 : Int32)), .val (.int (8 : Int32)), .val (.ref bx7_0_8), .val (.int (5 : Int32)), .unset]) rfl ?_
    refine XS.iload X10.here hx rfl (hb hby d5_48) rfl ?_
    show Steps p.tables e below (T10.setTop (mkF m 50 #[.val (.ref a5_0), .val (.int (1 : Int32)), .val (.int (5 : Int32)), .val (.int (8 : Int32)), .val (.ref bx7_0_8), .val (.int (5 : Int32)), .unset] [(.int (5 : Int32))])) _
    refine XS.iloadN X10.here hx rfl (hb hby d5_50) rfl ?_
    show Steps p.tables e below (T10.setTop (mkF m 51 #[.val (.ref a5_0), .val (.int (1 : Int32)), .val (.int (5 : Int32)), .val (.int (8 : Int32)), .val (.ref bx7_0_8), .val (.int (5 : Int32)), .unset] [(.int (8 : Int32)), (.int (5 : Int32))])) _
    refine XS.icmpNo X10.here hx rfl (hb hby d5_51) rfl (flt (by decide : ¬ ((8 : Int32) < (5 : Int32)))).2.2.1 ?_
    refine XS.iload X10.here hx rfl (hb hby d5_54) rfl ?_
    refine XS.iload X10.here hx rfl (hb hby d5_56) rfl ?_
    show Steps p.tables e below (T10.setTop (mkF m 58 #[.val (.ref a5_0), .val (.int (1 : Int32)), .val (.int (5 : Int32)), .val (.int (8 : Int32)), .val (.ref bx7_0_8), .val (.int (5 : Int32)), .unset] [(.int (5 : Int32)), (.int (5 : Int32))])) _
    refine XS.iload X10.here hx rfl (hb hby d5_58) rfl ?_
    refine XS.ineg X10.here hx rfl (hb hby d5_60) rfl ?_
    refine XS.iand X10.here hx rfl (hb hby d5_61) rfl ?_
    show Steps p.tables e below (T10.setTop (mkF m 62 #[.val (.ref a5_0), .val (.int (1 : Int32)), .val (.int (5 : Int32)), .val (.int (8 : Int32)), .val (.ref bx7_0_8), .val (.int (5 : Int32)), .unset] [(.int (1 : Int32)), (.int (5 : Int32))])) _
    refine XS.isub X10.here hx rfl (hb hby d5_62) rfl ?_
    refine XS.istore X10.here hx rfl (hb hby d5_63) rfl (l' := #[.val (.ref a5_0), .val (.int (1 : Int32)), .val (.int (5 : Int32)), .val (.int (8 : Int32)), .val (.ref bx7_0_8), .val (.int (5 : Int32)), .val (.int (4 : Int32))]) rfl ?_
    refine XS.iload X10.here hx rfl (hb hby d5_65) rfl ?_
    show Steps p.tables e below (T10.setTop (mkF m 67 #[.val (.ref a5_0), .val (.int (1 : Int32)), .val (.int (5 : Int32)), .val (.int (8 : Int32)), .val (.ref bx7_0_8), .val (.int (5 : Int32)), .val (.int (4 : Int32))] [(.int (4 : Int32))])) _
    refine XS.aloadN X10.here hx rfl (hb hby d5_67) rfl rfl ?_
    refine st14 _ ?_
    show Steps p.tables e below (T14.setTop (mkF m 71 #[.val (.ref a5_0), .val (.int (1 : Int32)), .val (.int (5 : Int32)), .val (.int (8 : Int32)), .val (.ref bx7_0_8), .val (.int (5 : Int32)), .val (.int (4 : Int32))] [(.int (4 : Int32)), (.int (4 : Int32))])) _
    refine XS.icmpYes X14.here hx rfl (pc0 := 71) (pc' := 92) rfl (hb hby d5_71) rfl (flt (by decide : ¬ ((4 : Int32) < (4 : Int32)))).2.1 (by decide) (by decide) ?_
    refine XS.iinc X14.here hx rfl (hb hby d5_92) rfl (l' := #[.val (.ref a5_0), .val (.int (1 : Int32)), .val (.int (5 : Int32)), .val (.int (8 : Int32)), .val (.ref bx7_0_8), .val (.int (6 : Int32)), .val (.int (4 : Int32))]) rfl ?_
    refine XS.goto X14.here hx rfl (pc0 := 95) (pc' := 48) rfl (hb hby d5_95) (by decide) (by decide) ?_
    show Steps p.tables e below (T14.setTop (mkF m 48 #[.val (.ref a5_0), .val (.int (1 : Int32)), .val (.int (5 : Int32)), .val (.int (8 : Int32)), .val (.ref bx7_0_8), .val (.int (6 : Int32)), .val (.int (4 : Int32))] [])) _
    refine XS.iload X14.here hx rfl (hb hby d5_48) rfl ?_
    refine XS.iloadN X14.here hx rfl (hb hby d5_50) rfl ?_
    show Steps p.tables e below (T14.setTop (mkF m 51 #[.val (.ref a5_0), .val (.int (1 : Int32)), .val (.int (5 : Int32)), .val (.int (8 : Int32)), .val (.ref bx7_0_8), .val (.int (6 : Int32)), .val (.int (4 : Int32))] [(.int (8 : Int32)), (.int (6 : Int32))])) _
    refine XS.icmpNo X14.here hx rfl (hb hby d5_51) rfl (flt (by decide : ¬ ((8 : Int32) < (6 : Int32)))).2.2.1 ?_
    refine XS.iload X14.here hx rfl (hb hby d5_54) rfl ?_
    refine XS.iload X14.here hx rfl (hb hby d5_56) rfl ?_
    show Steps p.tables e below (T14.setTop (mkF m 58 #[.val (.ref a5_0), .val (.int (1 : Int32)), .val (.int (5 : Int32)), .val (.int (8 : Int32)), .val (.ref bx7_0_8), .val (.int (6 : Int32)), .val (.int (4 : Int32))] [(.int (6 : Int32)), (.int (6 : Int32))])) _
    refine XS.iload X14.here hx rfl (hb hby d5_58) rfl ?_
    refine XS.ineg X14.here hx rfl (hb hby d5_60) rfl ?_
    refine XS.iand X14.here hx rfl (hb hby d5_61) rfl ?_
    show Steps p.tables e below (T14.setTop (mkF m 62 #[.val (.ref a5_0), .val (.int (1 : Int32)), .val (.int (5 : Int32)), .val (.int (8 : Int32)), .val (.ref bx7_0_8), .val (.int (6 : Int32)), .val (.int (4 : Int32))] [(.int (2 : Int32)), (.int (6 : Int32))])) _
    refine XS.isub X14.here hx rfl (hb hby d5_62) rfl ?_
    refine XS.istore X14.here hx rfl (hb hby d5_63) rfl (l' := #[.val (.ref a5_0), .val (.int (1 : Int32)), .val (.int (5 : Int32)), .val (.int (8 : Int32)), .val (.ref bx7_0_8), .val (.int (6 : Int32)), .val (.int (4 : Int32))]) rfl ?_
    refine XS.iload X14.here hx rfl (hb hby d5_65) rfl ?_
    show Steps p.tables e below (T14.setTop (mkF m 67 #[.val (.ref a5_0), .val (.int (1 : Int32)), .val (.int (5 : Int32)), .val (.int (8 : Int32)), .val (.ref bx7_0_8), .val (.int (6 : Int32)), .val (.int (4 : Int32))] [(.int (4 : Int32))])) _
    refine XS.aloadN X14.here hx rfl (hb hby d5_67) rfl rfl ?_
    refine st15 _ ?_
    show Steps p.tables e below (T15.setTop (mkF m 71 #[.val (.ref a5_0), .val (.int (1 : Int32)), .val (.int (5 : Int32)), .val (.int (8 : Int32)), .val (.ref bx7_0_8), .val (.int (6 : Int32)), .val (.int (4 : Int32))] [(.int (4 : Int32)), (.int (4 : Int32))])) _
    refine XS.icmpYes X15.here hx rfl (pc0 := 71) (pc' := 92) rfl (hb hby d5_71) rfl (flt (by decide : ¬ ((4 : Int32) < (4 : Int32)))).2.1 (by decide) (by decide) ?_
    refine XS.iinc X15.here hx rfl (hb hby d5_92) rfl (l' := #[.val (.ref a5_0), .val (.int (1 : Int32)), .val (.int (5 : Int32)), .val (.int (8 : Int32)), .val (.ref bx7_0_8), .val (.int (7 : Int32)), .val (.int (4 : Int32))]) rfl ?_
    refine XS.goto X15.here hx rfl (pc0 := 95) (pc' := 48) rfl (hb hby d5_95) (by decide) (by decide) ?_
    show Steps p.tables e below (T15.setTop (mkF m 48 #[.val (.ref a5_0), .val (.int (1 : Int32)), .val (.int (5 : Int32)), .val (.int (8 : Int32)), .val (.ref bx7_0_8), .val (.int (7 : Int32)), .val (.int (4 : Int32))] [])) _
    refine XS.iload X15.here hx rfl (hb hby d5_48) rfl ?_
    refine XS.iloadN X15.here hx rfl (hb hby d5_50) rfl ?_
    show Steps p.tables e below (T15.setTop (mkF m 51 #[.val (.ref a5_0), .val (.int (1 : Int32)), .val (.int (5 : Int32)), .val (.int (8 : Int32)), .val (.ref bx7_0_8), .val (.int (7 : Int32)), .val (.int (4 : Int32))] [(.int (8 : Int32)), (.int (7 : Int32))])) _
    refine XS.icmpNo X15.here hx rfl (hb hby d5_51) rfl (flt (by decide : ¬ ((8 : Int32) < (7 : Int32)))).2.2.1 ?_
    refine XS.iload X15.here hx rfl (hb hby d5_54) rfl ?_
    refine XS.iload X15.here hx rfl (hb hby d5_56) rfl ?_
    show Steps p.tables e below (T15.setTop (mkF m 58 #[.val (.ref a5_0), .val (.int (1 : Int32)), .val (.int (5 : Int32)), .val (.int (8 : Int32)), .val (.ref bx7_0_8), .val (.int (7 : Int32)), .val (.int (4 : Int32))] [(.int (7 : Int32)), (.int (7 : Int32))])) _
    refine XS.iload X15.here hx rfl (hb hby d5_58) rfl ?_
    refine XS.ineg X15.here hx rfl (hb hby d5_60) rfl ?_
    refine XS.iand X15.here hx rfl (hb hby d5_61) rfl ?_
    show Steps p.tables e below (T15.setTop (mkF m 62 #[.val (.ref a5_0), .val (.int (1 : Int32)), .val (.int (5 : Int32)), .val (.int (8 : Int32)), .val (.ref bx7_0_8), .val (.int (7 : Int32)), .val (.int (4 : Int32))] [(.int (1 : Int32)), (.int (7 : Int32))])) _
    refine XS.isub X15.here hx rfl (hb hby d5_62) rfl ?_
    refine XS.istore X15.here hx rfl (hb hby d5_63) rfl (l' := #[.val (.ref a5_0), .val (.int (1 : Int32)), .val (.int (5 : Int32)), .val (.int (8 : Int32)), .val (.ref bx7_0_8), .val (.int (7 : Int32)), .val (.int (6 : Int32))]) rfl ?_
    refine XS.iload X15.here hx rfl (hb hby d5_65) rfl ?_
    show Steps p.tables e below (T15.setTop (mkF m 67 #[.val (.ref a5_0), .val (.int (1 : Int32)), .val (.int (5 : Int32)), .val (.int (8 : Int32)), .val (.ref bx7_0_8), .val (.int (7 : Int32)), .val (.int (6 : Int32))] [(.int (6 : Int32))])) _
    refine XS.aloadN X15.here hx rfl (hb hby d5_67) rfl rfl ?_
    refine st16 _ ?_
    show Steps p.tables e below (T16.setTop (mkF m 71 #[.val (.ref a5_0), .val (.int (1 : Int32)), .val (.int (5 : Int32)), .val (.int (8 : Int32)), .val (.ref bx7_0_8), .val (.int (7 : Int32)), .val (.int (6 : Int32))] [(.int (4 : Int32)), (.int (6 : Int32))])) _
    refine XS.icmpYes X16.here hx rfl (pc0 := 71) (pc' := 92) rfl (hb hby d5_71) rfl (flt (by decide : ¬ ((6 : Int32) < (4 : Int32)))).2.1 (by decide) (by decide) ?_
    refine XS.iinc X16.here hx rfl (hb hby d5_92) rfl (l' := #[.val (.ref a5_0), .val (.int (1 : Int32)), .val (.int (5 : Int32)), .val (.int (8 : Int32)), .val (.ref bx7_0_8), .val (.int (8 : Int32)), .val (.int (6 : Int32))]) rfl ?_
    refine XS.goto X16.here hx rfl (pc0 := 95) (pc' := 48) rfl (hb hby d5_95) (by decide) (by decide) ?_
    show Steps p.tables e below (T16.setTop (mkF m 48 #[.val (.ref a5_0), .val (.int (1 : Int32)), .val (.int (5 : Int32)), .val (.int (8 : Int32)), .val (.ref bx7_0_8), .val (.int (8 : Int32)), .val (.int (6 : Int32))] [])) _
    refine XS.iload X16.here hx rfl (hb hby d5_48) rfl ?_
    refine XS.iloadN X16.here hx rfl (hb hby d5_50) rfl ?_
    show Steps p.tables e below (T16.setTop (mkF m 51 #[.val (.ref a5_0), .val (.int (1 : Int32)), .val (.int (5 : Int32)), .val (.int (8 : Int32)), .val (.ref bx7_0_8), .val (.int (8 : Int32)), .val (.int (6 : Int32))] [(.int (8 : Int32)), (.int (8 : Int32))])) _
    refine XS.icmpNo X16.here hx rfl (hb hby d5_51) rfl (flt (by decide : ¬ ((8 : Int32) < (8 : Int32)))).2.2.1 ?_
    refine XS.iload X16.here hx rfl (hb hby d5_54) rfl ?_
    refine XS.iload X16.here hx rfl (hb hby d5_56) rfl ?_
    show Steps p.tables e below (T16.setTop (mkF m 58 #[.val (.ref a5_0), .val (.int (1 : Int32)), .val (.int (5 : Int32)), .val (.int (8 : Int32)), .val (.ref bx7_0_8), .val (.int (8 : Int32)), .val (.int (6 : Int32))] [(.int (8 : Int32)), (.int (8 : Int32))])) _
    refine XS.iload X16.here hx rfl (hb hby d5_58) rfl ?_
    refine XS.ineg X16.here hx rfl (hb hby d5_60) rfl ?_
    refine XS.iand X16.here hx rfl (hb hby d5_61) rfl ?_
    show Steps p.tables e below (T16.setTop (mkF m 62 #[.val (.ref a5_0), .val (.int (1 : Int32)), .val (.int (5 : Int32)), .val (.int (8 : Int32)), .val (.ref bx7_0_8), .val (.int (8 : Int32)), .val (.int (6 : Int32))] [(.int (8 : Int32)), (.int (8 : Int32))])) _
    refine XS.isub X16.here hx rfl (hb hby d5_62) rfl ?_
    refine XS.istore X16.here hx rfl (hb hby d5_63) rfl (l' := #[.val (.ref a5_0), .val (.int (1 : Int32)), .val (.int (5 : Int32)), .val (.int (8 : Int32)), .val (.ref bx7_0_8), .val (.int (8 : Int32)), .val (.int (0 : Int32))]) rfl ?_
    refine XS.iload X16.here hx rfl (hb hby d5_65) rfl ?_
    show Steps p.tables e below (T16.setTop (mkF m 67 #[.val (.ref a5_0), .val (.int (1 : Int32)), .val (.int (5 : Int32)), .val (.int (8 : Int32)), .val (.ref bx7_0_8), .val (.int (8 : Int32)), .val (.int (0 : Int32))] [(.int (0 : Int32))])) _
    refine XS.aloadN X16.here hx rfl (hb hby d5_67) rfl rfl ?_
    refine st17 _ ?_
    show Steps p.tables e below (T17.setTop (mkF m 71 #[.val (.ref a5_0), .val (.int (1 : Int32)), .val (.int (5 : Int32)), .val (.int (8 : Int32)), .val (.ref bx7_0_8), .val (.int (8 : Int32)), .val (.int (0 : Int32))] [(.int (4 : Int32)), (.int (0 : Int32))])) _
    refine XS.icmpNo X17.here hx rfl (hb hby d5_71) rfl (tlt (by decide : (0 : Int32) < (4 : Int32))).2.1 ?_
    refine XS.aload X17.here hx rfl (hb hby d5_74) rfl rfl ?_
    refine XS.iload X17.here hx rfl (hb hby d5_76) rfl ?_
    show Steps p.tables e below (T17.setTop (mkF m 78 #[.val (.ref a5_0), .val (.int (1 : Int32)), .val (.int (5 : Int32)), .val (.int (8 : Int32)), .val (.ref bx7_0_8), .val (.int (8 : Int32)), .val (.int (0 : Int32))] [(.int (8 : Int32)), (.ref bx7_0_8)])) _
    refine XS.iconst X17.here hx rfl (hb hby d5_78) ?_
    refine XS.isub X17.here hx rfl (hb hby d5_79) rfl ?_
    refine XS.aloadN X17.here hx rfl (hb hby d5_80) rfl rfl ?_
    show Steps p.tables e below (T17.setTop (mkF m 81 #[.val (.ref a5_0), .val (.int (1 : Int32)), .val (.int (5 : Int32)), .val (.int (8 : Int32)), .val (.ref bx7_0_8), .val (.int (8 : Int32)), .val (.int (0 : Int32))] [(.ref a5_0), (.int (7 : Int32)), (.ref bx7_0_8)])) _
    refine st19 _ ?_
    refine XS.aloadN X19.here hx rfl (hb hby d5_84) rfl rfl ?_
    refine XS.iload X19.here hx rfl (hb hby d5_85) rfl ?_
    show Steps p.tables e below (T19.setTop (mkF m 87 #[.val (.ref a5_0), .val (.int (1 : Int32)), .val (.int (5 : Int32)), .val (.int (8 : Int32)), .val (.ref bx7_0_8), .val (.int (8 : Int32)), .val (.int (0 : Int32))] [(.int (0 : Int32)), (.ref a5_0), (.long w_total_a5_0), (.int (7 : Int32)), (.ref bx7_0_8)])) _
    refine st21.trans ?_
    refine XS.lsub X21.here hx rfl (hb hby d5_90) rfl ?_
    refine st23 _ ?_
    show Steps p.tables e below (T23.setTop (mkF m 92 #[.val (.ref a5_0), .val (.int (1 : Int32)), .val (.int (5 : Int32)), .val (.int (8 : Int32)), .val (.ref bx7_0_8), .val (.int (8 : Int32)), .val (.int (0 : Int32))] [])) _
    refine XS.iinc X23.here hx rfl (hb hby d5_92) rfl (l' := #[.val (.ref a5_0), .val (.int (1 : Int32)), .val (.int (5 : Int32)), .val (.int (8 : Int32)), .val (.ref bx7_0_8), .val (.int (9 : Int32)), .val (.int (0 : Int32))]) rfl ?_
    refine XS.goto X23.here hx rfl (pc0 := 95) (pc' := 48) rfl (hb hby d5_95) (by decide) (by decide) ?_
    refine XS.iload X23.here hx rfl (hb hby d5_48) rfl ?_
    show Steps p.tables e below (T23.setTop (mkF m 50 #[.val (.ref a5_0), .val (.int (1 : Int32)), .val (.int (5 : Int32)), .val (.int (8 : Int32)), .val (.ref bx7_0_8), .val (.int (9 : Int32)), .val (.int (0 : Int32))] [(.int (9 : Int32))])) _
    refine XS.iloadN X23.here hx rfl (hb hby d5_50) rfl ?_
    show Steps p.tables e below (T23.setTop (mkF m 51 #[.val (.ref a5_0), .val (.int (1 : Int32)), .val (.int (5 : Int32)), .val (.int (8 : Int32)), .val (.ref bx7_0_8), .val (.int (9 : Int32)), .val (.int (0 : Int32))] [(.int (8 : Int32)), (.int (9 : Int32))])) _
    refine XS.icmpYes X23.here hx rfl (pc0 := 51) (pc' := 98) rfl (hb hby d5_51) rfl (tlt (by decide : (8 : Int32) < (9 : Int32))).2.2.1 (by decide) (by decide) ?_
    refine XS.aloadN X23.here hx rfl (hb hby d5_98) rfl rfl ?_
    refine XS.aload X23.here hx rfl (hb hby d5_99) rfl rfl ?_
    show Steps p.tables e below (T23.setTop (mkF m 101 #[.val (.ref a5_0), .val (.int (1 : Int32)), .val (.int (5 : Int32)), .val (.int (8 : Int32)), .val (.ref bx7_0_8), .val (.int (9 : Int32)), .val (.int (0 : Int32))] [(.ref bx7_0_8), (.ref a5_0)])) _
    refine st26 _ ?_
    show Steps p.tables e below (T26.setTop (mkF m 104 #[.val (.ref a5_0), .val (.int (1 : Int32)), .val (.int (5 : Int32)), .val (.int (8 : Int32)), .val (.ref bx7_0_8), .val (.int (9 : Int32)), .val (.int (0 : Int32))] [])) _
    exact X26.returnOut hx Bd.returns (hb hby d5_104) hr
  · have f27 := (f24.wr W26)
    have f28 := ((f13.other W23 (Or.inl ne_a5_0_bx7_0_8)).other W26 (Or.inr (slot_ne (Or.inl (ow29 hw)) (Or.inl (ow17 hw)) (by decide) (t := .int) (t' := (.array .long)) (by decide) (by decide))))
    have f29 := ((f18.other W23 (Or.inl ne_a5_0_bx7_0_8)).other W26 (Or.inr (slot_ne (Or.inl (ow51 hw)) (Or.inl (ow17 hw)) (by decide) (t := .long) (t' := (.array .long)) (by decide) (by decide))))
    have f30 := (V23.other W26 (Ne.symm ne_a5_0_bx7_0_8))
    show Q_rm5_5 Z a5_0 w_tree_a5_0 w_total_a5_0 kc_w_tree_a5_0 t_w_tree_a5_0_0 t_w_tree_a5_0_1 t_w_tree_a5_0_2 t_w_tree_a5_0_3 h0 n0 _ T26.heap _
    rw [e26]
    exact ⟨bx7_0_8, kx7_0_8, rfl, N26, K26, sz_bx7_0_8, f27, F26, f28, f29, f30⟩
theorem ef_rm9_5 (m : MethodId) (y0 : Addr) (y2 : Int64) : entryFrame m #[(.ref y0), (.int (4 : Int32)), (.long y2)] 5 = mkF m 0 #[.val (.ref y0), .val (.int (4 : Int32)), .val (.long y2), .second, .unset] [] := by first | (simp [entryFrame, mkF, argsToLocals, Value.category]; done) | rfl
def Q_rm9_5 (Z : State) (a9_0 : Addr) (q9_2 : Int64) (w_tree_a9_0 : Addr) (w_total_a9_0 : Int64) (kc_w_tree_a9_0 : ClassId) (t_w_tree_a9_0_0 : Int64) (t_w_tree_a9_0_1 : Int64) (t_w_tree_a9_0_2 : Int64) (t_w_tree_a9_0_3 : Int64) (t_w_tree_a9_0_4 : Int64) (t_w_tree_a9_0_5 : Int64) (t_w_tree_a9_0_6 : Int64) (t_w_tree_a9_0_7 : Int64) (h0 : Heap) (n0 : Nat) (v : Option Value) (h : Heap) (L : List Loc) : Prop := v = none ∧ Fr n0 L ∧ Keep h0 h [a9_0, w_tree_a9_0] ∧ Exa Z h a9_0 "com/example/motley/motley/CountTree" ∧ Fld Z h a9_0 "com/example/motley/motley/CountTree" "tree" "[J" (.ref w_tree_a9_0) ∧ Fld Z h a9_0 "com/example/motley/motley/CountTree" "size" "I" (.int (5 : Int32)) ∧ Fld Z h a9_0 "com/example/motley/motley/CountTree" "total" "J" (.long (w_total_a9_0 + q9_2)) ∧ Arv Z h w_tree_a9_0 kc_w_tree_a9_0 .long (8 : Int32) [(.long t_w_tree_a9_0_0), (.long t_w_tree_a9_0_1), (.long t_w_tree_a9_0_2), (.long t_w_tree_a9_0_3), (.long (t_w_tree_a9_0_4 + q9_2)), (.long (t_w_tree_a9_0_5 + q9_2)), (.long t_w_tree_a9_0_6), (.long (t_w_tree_a9_0_7 + q9_2))] (.long (0 : Int64))
set_option maxRecDepth 65536 in
set_option maxHeartbeats 40000000 in
theorem rm9_5 (l : Launch) (Z : State) (a0 : Array Value) (hw : ∀ d ∈ tables_1, d.before a0 Z = true) (ws : List Jvm.Cond) (a9_0 : Addr) (q9_2 : Int64) (w_tree_a9_0 : Addr) (w_total_a9_0 : Int64) (kc_w_tree_a9_0 : ClassId) (t_w_tree_a9_0_0 : Int64) (t_w_tree_a9_0_1 : Int64) (t_w_tree_a9_0_2 : Int64) (t_w_tree_a9_0_3 : Int64) (t_w_tree_a9_0_4 : Int64) (t_w_tree_a9_0_5 : Int64) (t_w_tree_a9_0_6 : Int64) (t_w_tree_a9_0_7 : Int64) (h0 : Heap) (n0 : Nat) (Z0 : n0 ≤ h0.size) (E_a9_0 : Exa Z h0 a9_0 "com/example/motley/motley/CountTree") (F_tree_a9_0 : Fld Z h0 a9_0 "com/example/motley/motley/CountTree" "tree" "[J" (.ref w_tree_a9_0)) (F_size_a9_0 : Fld Z h0 a9_0 "com/example/motley/motley/CountTree" "size" "I" (.int (5 : Int32))) (F_total_a9_0 : Fld Z h0 a9_0 "com/example/motley/motley/CountTree" "total" "J" (.long w_total_a9_0)) (V_w_tree_a9_0 : Arv Z h0 w_tree_a9_0 kc_w_tree_a9_0 .long (8 : Int32) [(.long t_w_tree_a9_0_0), (.long t_w_tree_a9_0_1), (.long t_w_tree_a9_0_2), (.long t_w_tree_a9_0_3), (.long t_w_tree_a9_0_4), (.long t_w_tree_a9_0_5), (.long t_w_tree_a9_0_6), (.long t_w_tree_a9_0_7)] (.long (0 : Int64))) (g_a9_0 : n0 ≤ a9_0) (ne_w_tree_a9_0_a9_0 : w_tree_a9_0 ≠ a9_0) (g_w_tree_a9_0 : n0 ≤ w_tree_a9_0) :
    MetFree l (⟨"com/example/motley/motley/CountTree", "add", "(IJ)V"⟩ : MethodName) (head1 (Jvm.Cond.code (⟨"com/example/motley/motley/CountTree", "add", "(IJ)V"⟩ : MethodName) prog_14_method_7_code 5 none :: ws) ({ frames := 0, cells := 0, slots := 0, locals := 0 } : Room)) (fun a U => a = #[(.ref a9_0), (.int (4 : Int32)), (.long q9_2)] ∧ Z.Warmed39 U.vm ∧ U.heap = h0) (fun _ _ _ _ _ => True) (fun _ U o U' => ∃ v L, o = .returned v ∧ Q_rm9_5 Z a9_0 q9_2 w_tree_a9_0 w_total_a9_0 kc_w_tree_a9_0 t_w_tree_a9_0_0 t_w_tree_a9_0_1 t_w_tree_a9_0_2 t_w_tree_a9_0_3 t_w_tree_a9_0_4 t_w_tree_a9_0_5 t_w_tree_a9_0_6 t_w_tree_a9_0_7 h0 n0 v U'.heap L ∧ FrameEnd U o U' L ({ frames := 0, cells := 0, slots := 0, locals := 0 } : Room).cells ({ frames := 0, cells := 0, slots := 0, locals := 0 } : Room).slots) := by
  refine MetFree.of_bodySF (plainFor_of_name pn_9) hisR ?_
  intro p e s m args below meth c s₁ Bd hml0 hP hK
  obtain ⟨rfl, hZ, hh⟩ := hP
  have hx := Bd.exec
  have hby := Bd.bytes
  have hml : c.maxLocals = 5 := hml0
  have hown : s.vm.findClass "com/example/motley/motley/CountTree" = some m.cls := findClass_of_methodNamed Bd.named
  have hnm := (name_of_methodNamed Bd.named Bd.method).1
  have X0 : Stand p l e ({ frames := 0, cells := 0, slots := 0, locals := 0 } : Room) s m #[(.ref a9_0), (.int (4 : Int32)), (.long q9_2)] below meth c s₁ [] 0 0 := Stand.of_body Bd
  have e0 : s₁.heap = h0 := by rw [← hh, Bd.state]; rfl
  have N0 := Fr.nil n0
  have pre0 : ∀ t, Steps p.tables e below (s₁.setTop (mkF m 0 #[.val (.ref a9_0), .val (.int (4 : Int32)), .val (.long q9_2), .second, .unset] [])) t → Steps p.tables e below (s₁.setTop (entryFrame m #[(.ref a9_0), (.int (4 : Int32)), (.long q9_2)] 5)) t := fun t k => castTop (ef_rm9_5 m a9_0 q9_2) k
  obtain ⟨T1, X1, e1, st1⟩ := getF X0 hx hZ hown (host := "") (Or.inl (ow50 hw)) Via.refl e0 F_total_a9_0 (g := (mkF m 2 #[.val (.ref a9_0), .val (.int (4 : Int32)), .val (.long q9_2), .second, .unset] [(.ref a9_0), (.ref a9_0)])) rfl rfl (hb hby d9_2)
  obtain ⟨T2, h2, X2, e2, W2, st2⟩ := putF X1 hx hZ hown (host := "") (Or.inl (ow50 hw)) Via.refl e1 F_total_a9_0 E_a9_0 (Or.inl (ow51 hw)) (ow7 hw) (ty := .long) (by decide) rfl rfl (g := (mkF m 7 #[.val (.ref a9_0), .val (.int (4 : Int32)), .val (.long q9_2), .second, .unset] [(.long (w_total_a9_0 + q9_2)), (.ref a9_0)])) rfl rfl (hb hby d9_7)
  have F2 := F_total_a9_0.same W2
  have K2 : Keep h0 h2 [a9_0, w_tree_a9_0] := (Keep.refl h0 [a9_0, w_tree_a9_0]).wr W2 (Or.inl (List.mem_of_getElem? (i := 0) rfl))
  have Z2 : n0 ≤ h2.size := Nat.le_trans Z0 K2.1
  have N2 := Fr.snoc X2 N0 g_a9_0
  have f3 := (F_tree_a9_0.other W2 (Or.inr (slot_ne (Or.inl (ow17 hw)) (Or.inl (ow51 hw)) (by decide) (t := (.array .long)) (t' := .long) (by decide) (by decide))))
  obtain ⟨T4, X4, e4, st4⟩ := getF X2 hx hZ hown (host := "") (Or.inl (ow16 hw)) Via.refl e2 f3 (g := (mkF m 18 #[.val (.ref a9_0), .val (.int (4 : Int32)), .val (.long q9_2), .second, .val (.int (5 : Int32))] [(.ref a9_0), (.int (5 : Int32))])) rfl rfl (hb hby d9_18)
  have f5 := (V_w_tree_a9_0.other W2 ne_w_tree_a9_0_a9_0)
  obtain ⟨cl6, Ar6, qk6, Sz6, Nz6, Hh6, Gf6⟩ := id f5
  obtain ⟨T7, X7, e7, st7⟩ := getF X4 hx hZ hown (host := "") (Or.inl (ow16 hw)) Via.refl e4 f3 (g := (mkF m 26 #[.val (.ref a9_0), .val (.int (4 : Int32)), .val (.long q9_2), .second, .val (.int (5 : Int32))] [(.ref a9_0)])) rfl rfl (hb hby d9_26)
  obtain ⟨cl8, Ar8, qk8, Sz8, Nz8, Hh8, Gf8⟩ := id f5
  obtain ⟨cl9, Ar9, qk9, Sz9, Nz9, Hh9, Gf9⟩ := id f5
  obtain ⟨T10, h10, X10, e10, W10, st10⟩ := stJ X7 hx hZ e7 Ar9 (j := (4 : Int32)) (inb_of Sz9 ⟨by decide, by decide⟩) (g := (mkF m 37 #[.val (.ref a9_0), .val (.int (4 : Int32)), .val (.long q9_2), .second, .val (.int (5 : Int32))] [(.long (t_w_tree_a9_0_4 + q9_2)), (.int (4 : Int32)), (.ref w_tree_a9_0)])) rfl rfl (hb hby d9_37)
  have V10 : Arv Z h10 w_tree_a9_0 kc_w_tree_a9_0 .long (8 : Int32) [(.long t_w_tree_a9_0_0), (.long t_w_tree_a9_0_1), (.long t_w_tree_a9_0_2), (.long t_w_tree_a9_0_3), (.long (t_w_tree_a9_0_4 + q9_2)), (.long t_w_tree_a9_0_5), (.long t_w_tree_a9_0_6), (.long t_w_tree_a9_0_7)] (.long (0 : Int64)) := Arv.set Ar9 qk9 Sz9 Nz9 Hh9 Gf9 rfl W10 4 rfl (Nat.le_of_ble_eq_true rfl)
  have K10 : Keep h0 h10 [a9_0, w_tree_a9_0] := K2.wr W10 (Or.inl (List.mem_of_getElem? (i := 1) rfl))
  have Z10 : n0 ≤ h10.size := Nat.le_trans Z0 K10.1
  have N10 := Fr.snoc X10 N2 g_w_tree_a9_0
  have f11 := (f3.other W10 (Or.inl (Ne.symm ne_w_tree_a9_0_a9_0)))
  obtain ⟨T12, X12, e12, st12⟩ := getF X10 hx hZ hown (host := "") (Or.inl (ow16 hw)) Via.refl e10 f11 (g := (mkF m 18 #[.val (.ref a9_0), .val (.int (4 : Int32)), .val (.long q9_2), .second, .val (.int (6 : Int32))] [(.ref a9_0), (.int (6 : Int32))])) rfl rfl (hb hby d9_18)
  obtain ⟨cl13, Ar13, qk13, Sz13, Nz13, Hh13, Gf13⟩ := id V10
  obtain ⟨T14, X14, e14, st14⟩ := getF X12 hx hZ hown (host := "") (Or.inl (ow16 hw)) Via.refl e12 f11 (g := (mkF m 26 #[.val (.ref a9_0), .val (.int (4 : Int32)), .val (.long q9_2), .second, .val (.int (6 : Int32))] [(.ref a9_0)])) rfl rfl (hb hby d9_26)
  obtain ⟨cl15, Ar15, qk15, Sz15, Nz15, Hh15, Gf15⟩ := id V10
  obtain ⟨cl16, Ar16, qk16, Sz16, Nz16, Hh16, Gf16⟩ := id V10
  obtain ⟨T17, h17, X17, e17, W17, st17⟩ := stJ X14 hx hZ e14 Ar16 (j := (5 : Int32)) (inb_of Sz16 ⟨by decide, by decide⟩) (g := (mkF m 37 #[.val (.ref a9_0), .val (.int (4 : Int32)), .val (.long q9_2), .second, .val (.int (6 : Int32))] [(.long (t_w_tree_a9_0_5 + q9_2)), (.int (5 : Int32)), (.ref w_tree_a9_0)])) rfl rfl (hb hby d9_37)
  have V17 : Arv Z h17 w_tree_a9_0 kc_w_tree_a9_0 .long (8 : Int32) [(.long t_w_tree_a9_0_0), (.long t_w_tree_a9_0_1), (.long t_w_tree_a9_0_2), (.long t_w_tree_a9_0_3), (.long (t_w_tree_a9_0_4 + q9_2)), (.long (t_w_tree_a9_0_5 + q9_2)), (.long t_w_tree_a9_0_6), (.long t_w_tree_a9_0_7)] (.long (0 : Int64)) := Arv.set Ar16 qk16 Sz16 Nz16 Hh16 Gf16 rfl W17 5 rfl (Nat.le_of_ble_eq_true rfl)
  have K17 : Keep h0 h17 [a9_0, w_tree_a9_0] := K10.wr W17 (Or.inl (List.mem_of_getElem? (i := 1) rfl))
  have Z17 : n0 ≤ h17.size := Nat.le_trans Z0 K17.1
  have N17 := Fr.snoc X17 N10 g_w_tree_a9_0
  have f18 := (f11.other W17 (Or.inl (Ne.symm ne_w_tree_a9_0_a9_0)))
  obtain ⟨T19, X19, e19, st19⟩ := getF X17 hx hZ hown (host := "") (Or.inl (ow16 hw)) Via.refl e17 f18 (g := (mkF m 18 #[.val (.ref a9_0), .val (.int (4 : Int32)), .val (.long q9_2), .second, .val (.int (8 : Int32))] [(.ref a9_0), (.int (8 : Int32))])) rfl rfl (hb hby d9_18)
  obtain ⟨cl20, Ar20, qk20, Sz20, Nz20, Hh20, Gf20⟩ := id V17
  obtain ⟨T21, X21, e21, st21⟩ := getF X19 hx hZ hown (host := "") (Or.inl (ow16 hw)) Via.refl e19 f18 (g := (mkF m 26 #[.val (.ref a9_0), .val (.int (4 : Int32)), .val (.long q9_2), .second, .val (.int (8 : Int32))] [(.ref a9_0)])) rfl rfl (hb hby d9_26)
  obtain ⟨cl22, Ar22, qk22, Sz22, Nz22, Hh22, Gf22⟩ := id V17
  obtain ⟨cl23, Ar23, qk23, Sz23, Nz23, Hh23, Gf23⟩ := id V17
  obtain ⟨T24, h24, X24, e24, W24, st24⟩ := stJ X21 hx hZ e21 Ar23 (j := (7 : Int32)) (inb_of Sz23 ⟨by decide, by decide⟩) (g := (mkF m 37 #[.val (.ref a9_0), .val (.int (4 : Int32)), .val (.long q9_2), .second, .val (.int (8 : Int32))] [(.long (t_w_tree_a9_0_7 + q9_2)), (.int (7 : Int32)), (.ref w_tree_a9_0)])) rfl rfl (hb hby d9_37)
  have V24 : Arv Z h24 w_tree_a9_0 kc_w_tree_a9_0 .long (8 : Int32) [(.long t_w_tree_a9_0_0), (.long t_w_tree_a9_0_1), (.long t_w_tree_a9_0_2), (.long t_w_tree_a9_0_3), (.long (t_w_tree_a9_0_4 + q9_2)), (.long (t_w_tree_a9_0_5 + q9_2)), (.long t_w_tree_a9_0_6), (.long (t_w_tree_a9_0_7 + q9_2))] (.long (0 : Int64)) := Arv.set Ar23 qk23 Sz23 Nz23 Hh23 Gf23 rfl W24 7 rfl (Nat.le_of_ble_eq_true rfl)
  have K24 : Keep h0 h24 [a9_0, w_tree_a9_0] := K17.wr W24 (Or.inl (List.mem_of_getElem? (i := 1) rfl))
  have Z24 : n0 ≤ h24.size := Nat.le_trans Z0 K24.1
  have N24 := Fr.snoc X24 N17 g_w_tree_a9_0
  have f25 := (f18.other W24 (Or.inl (Ne.symm ne_w_tree_a9_0_a9_0)))
  obtain ⟨T26, X26, e26, st26⟩ := getF X24 hx hZ hown (host := "") (Or.inl (ow16 hw)) Via.refl e24 f25 (g := (mkF m 18 #[.val (.ref a9_0), .val (.int (4 : Int32)), .val (.long q9_2), .second, .val (.int (16 : Int32))] [(.ref a9_0), (.int (16 : Int32))])) rfl rfl (hb hby d9_18)
  obtain ⟨cl27, Ar27, qk27, Sz27, Nz27, Hh27, Gf27⟩ := id V24
  obtain ⟨fs, hr, hrun, hended, hW, hsame⟩ := X26.leave (v := none) (fun _ => rfl)
  refine ⟨_, _, pre0 _ ?_, hrun, hended, _, _, rfl, ?_, ⟨_, rfl⟩, hW, hsame.mono (by decide) (by decide)⟩
  · show Steps p.tables e below (s₁.setTop (mkF m 0 #[.val (.ref a9_0), .val (.int (4 : Int32)), .val (.long q9_2), .second, .unset] [])) _
    refine XS.aloadN X0.here hx rfl (hb hby d9_0) rfl rfl ?_
    refine XS.dup X0.here hx rfl (hb hby d9_1) rfl rfl ?_
    refine st1 _ ?_
    show Steps p.tables e below (T1.setTop (mkF m 5 #[.val (.ref a9_0), .val (.int (4 : Int32)), .val (.long q9_2), .second, .unset] [(.long w_total_a9_0), (.ref a9_0)])) _
    refine XS.lloadN X1.here hx rfl (hb hby d9_5) rfl ?_
    refine XS.ladd X1.here hx rfl (hb hby d9_6) rfl ?_
    refine st2 _ ?_
    show Steps p.tables e below (T2.setTop (mkF m 10 #[.val (.ref a9_0), .val (.int (4 : Int32)), .val (.long q9_2), .second, .unset] [])) _
    refine XS.iloadN X2.here hx rfl (hb hby d9_10) rfl ?_
    refine XS.iconst X2.here hx rfl (hb hby d9_11) ?_
    refine XS.iadd X2.here hx rfl (hb hby d9_12) rfl ?_
    show Steps p.tables e below (T2.setTop (mkF m 13 #[.val (.ref a9_0), .val (.int (4 : Int32)), .val (.long q9_2), .second, .unset] [(.int (5 : Int32))])) _
    refine XS.istore X2.here hx rfl (hb hby d9_13) rfl (l' := #[.val (.ref a9_0), .val (.int (4 : Int32)), .val (.long q9_2), .second, .val (.int (5 : Int32))]) rfl ?_
    refine XS.iload X2.here hx rfl (hb hby d9_15) rfl ?_
    refine XS.aloadN X2.here hx rfl (hb hby d9_17) rfl rfl ?_
    show Steps p.tables e below (T2.setTop (mkF m 18 #[.val (.ref a9_0), .val (.int (4 : Int32)), .val (.long q9_2), .second, .val (.int (5 : Int32))] [(.ref a9_0), (.int (5 : Int32))])) _
    refine st4 _ ?_
    show Steps p.tables e below (T4.setTop (mkF m 21 #[.val (.ref a9_0), .val (.int (4 : Int32)), .val (.long q9_2), .second, .val (.int (5 : Int32))] [(.ref w_tree_a9_0), (.int (5 : Int32))])) _
    refine X4.arraylength hx (cell := cl6) (by rw [e4]; exact Ar6.1) (State.isArrayOf_alike hZ.alike Ar6.2.1) (g := (mkF m 21 #[.val (.ref a9_0), .val (.int (4 : Int32)), .val (.long q9_2), .second, .val (.int (5 : Int32))] [(.ref w_tree_a9_0), (.int (5 : Int32))])) rfl (rest := [(.int (5 : Int32))]) rfl (hb hby d9_21) _ ?_
    rw [len_of Sz6 Nz6]
    show Steps p.tables e below (T4.setTop (mkF m 22 #[.val (.ref a9_0), .val (.int (4 : Int32)), .val (.long q9_2), .second, .val (.int (5 : Int32))] [(.int (8 : Int32)), (.int (5 : Int32))])) _
    refine XS.icmpNo X4.here hx rfl (hb hby d9_22) rfl (flt (by decide : ¬ ((8 : Int32) < (5 : Int32)))).2.2.1 ?_
    refine XS.aloadN X4.here hx rfl (hb hby d9_25) rfl rfl ?_
    refine st7 _ ?_
    show Steps p.tables e below (T7.setTop (mkF m 29 #[.val (.ref a9_0), .val (.int (4 : Int32)), .val (.long q9_2), .second, .val (.int (5 : Int32))] [(.ref w_tree_a9_0)])) _
    refine XS.iload X7.here hx rfl (hb hby d9_29) rfl ?_
    refine XS.iconst X7.here hx rfl (hb hby d9_31) ?_
    refine XS.isub X7.here hx rfl (hb hby d9_32) rfl ?_
    show Steps p.tables e below (T7.setTop (mkF m 33 #[.val (.ref a9_0), .val (.int (4 : Int32)), .val (.long q9_2), .second, .val (.int (5 : Int32))] [(.int (4 : Int32)), (.ref w_tree_a9_0)])) _
    jvm_step X7.here [X7.here.top, hx, (hb hby d9_33), Value.category]
    refine X7.laload hx (j := (4 : Int32)) (v := (.long t_w_tree_a9_0_4)) (by rw [e7]; exact Ar8.1) (State.isArrayOf_alike hZ.alike Ar8.2.1) Ar8.2.2 (inb_of Sz8 ⟨by decide, by decide⟩) (Hh8.at (inb_of Sz8 ⟨by decide, by decide⟩) rfl) (g := (mkF m 34 #[.val (.ref a9_0), .val (.int (4 : Int32)), .val (.long q9_2), .second, .val (.int (5 : Int32))] [(.int (4 : Int32)), (.ref w_tree_a9_0), (.int (4 : Int32)), (.ref w_tree_a9_0)])) rfl rfl (hb hby d9_34) _ ?_
    refine XS.lloadN X7.here hx rfl (hb hby d9_35) rfl ?_
    show Steps p.tables e below (T7.setTop (mkF m 36 #[.val (.ref a9_0), .val (.int (4 : Int32)), .val (.long q9_2), .second, .val (.int (5 : Int32))] [(.long q9_2), (.long t_w_tree_a9_0_4), (.int (4 : Int32)), (.ref w_tree_a9_0)])) _
    refine XS.ladd X7.here hx rfl (hb hby d9_36) rfl ?_
    refine st10 _ ?_
    refine XS.iload X10.here hx rfl (hb hby d9_38) rfl ?_
    show Steps p.tables e below (T10.setTop (mkF m 40 #[.val (.ref a9_0), .val (.int (4 : Int32)), .val (.long q9_2), .second, .val (.int (5 : Int32))] [(.int (5 : Int32))])) _
    refine XS.iload X10.here hx rfl (hb hby d9_40) rfl ?_
    refine XS.iload X10.here hx rfl (hb hby d9_42) rfl ?_
    refine XS.ineg X10.here hx rfl (hb hby d9_44) rfl ?_
    show Steps p.tables e below (T10.setTop (mkF m 45 #[.val (.ref a9_0), .val (.int (4 : Int32)), .val (.long q9_2), .second, .val (.int (5 : Int32))] [(.int (-5 : Int32)), (.int (5 : Int32)), (.int (5 : Int32))])) _
    refine XS.iand X10.here hx rfl (hb hby d9_45) rfl ?_
    refine XS.iadd X10.here hx rfl (hb hby d9_46) rfl ?_
    refine XS.istore X10.here hx rfl (hb hby d9_47) rfl (l' := #[.val (.ref a9_0), .val (.int (4 : Int32)), .val (.long q9_2), .second, .val (.int (6 : Int32))]) rfl ?_
    show Steps p.tables e below (T10.setTop (mkF m 49 #[.val (.ref a9_0), .val (.int (4 : Int32)), .val (.long q9_2), .second, .val (.int (6 : Int32))] [])) _
    refine XS.goto X10.here hx rfl (pc0 := 49) (pc' := 15) rfl (hb hby d9_49) (by decide) (by decide) ?_
    refine XS.iload X10.here hx rfl (hb hby d9_15) rfl ?_
    refine XS.aloadN X10.here hx rfl (hb hby d9_17) rfl rfl ?_
    show Steps p.tables e below (T10.setTop (mkF m 18 #[.val (.ref a9_0), .val (.int (4 : Int32)), .val (.long q9_2), .second, .val (.int (6 : Int32))] [(.ref a9_0), (.int (6 : Int32))])) _
    refine st12 _ ?_
    show Steps p.tables e below (T12.setTop (mkF m 21 #[.val (.ref a9_0), .val (.int (4 : Int32)), .val (.long q9_2), .second, .val (.int (6 : Int32))] [(.ref w_tree_a9_0), (.int (6 : Int32))])) _
    refine X12.arraylength hx (cell := cl13) (by rw [e12]; exact Ar13.1) (State.isArrayOf_alike hZ.alike Ar13.2.1) (g := (mkF m 21 #[.val (.ref a9_0), .val (.int (4 : Int32)), .val (.long q9_2), .second, .val (.int (6 : Int32))] [(.ref w_tree_a9_0), (.int (6 : Int32))])) rfl (rest := [(.int (6 : Int32))]) rfl (hb hby d9_21) _ ?_
    rw [len_of Sz13 Nz13]
    show Steps p.tables e below (T12.setTop (mkF m 22 #[.val (.ref a9_0), .val (.int (4 : Int32)), .val (.long q9_2), .second, .val (.int (6 : Int32))] [(.int (8 : Int32)), (.int (6 : Int32))])) _
    refine XS.icmpNo X12.here hx rfl (hb hby d9_22) rfl (flt (by decide : ¬ ((8 : Int32) < (6 : Int32)))).2.2.1 ?_
    refine XS.aloadN X12.here hx rfl (hb hby d9_25) rfl rfl ?_
    refine st14 _ ?_
    show Steps p.tables e below (T14.setTop (mkF m 29 #[.val (.ref a9_0), .val (.int (4 : Int32)), .val (.long q9_2), .second, .val (.int (6 : Int32))] [(.ref w_tree_a9_0)])) _
    refine XS.iload X14.here hx rfl (hb hby d9_29) rfl ?_
    refine XS.iconst X14.here hx rfl (hb hby d9_31) ?_
    refine XS.isub X14.here hx rfl (hb hby d9_32) rfl ?_
    show Steps p.tables e below (T14.setTop (mkF m 33 #[.val (.ref a9_0), .val (.int (4 : Int32)), .val (.long q9_2), .second, .val (.int (6 : Int32))] [(.int (5 : Int32)), (.ref w_tree_a9_0)])) _
    jvm_step X14.here [X14.here.top, hx, (hb hby d9_33), Value.category]
    refine X14.laload hx (j := (5 : Int32)) (v := (.long t_w_tree_a9_0_5)) (by rw [e14]; exact Ar15.1) (State.isArrayOf_alike hZ.alike Ar15.2.1) Ar15.2.2 (inb_of Sz15 ⟨by decide, by decide⟩) (Hh15.at (inb_of Sz15 ⟨by decide, by decide⟩) rfl) (g := (mkF m 34 #[.val (.ref a9_0), .val (.int (4 : Int32)), .val (.long q9_2), .second, .val (.int (6 : Int32))] [(.int (5 : Int32)), (.ref w_tree_a9_0), (.int (5 : Int32)), (.ref w_tree_a9_0)])) rfl rfl (hb hby d9_34) _ ?_
    refine XS.lloadN X14.here hx rfl (hb hby d9_35) rfl ?_
    show Steps p.tables e below (T14.setTop (mkF m 36 #[.val (.ref a9_0), .val (.int (4 : Int32)), .val (.long q9_2), .second, .val (.int (6 : Int32))] [(.long q9_2), (.long t_w_tree_a9_0_5), (.int (5 : Int32)), (.ref w_tree_a9_0)])) _
    refine XS.ladd X14.here hx rfl (hb hby d9_36) rfl ?_
    refine st17 _ ?_
    refine XS.iload X17.here hx rfl (hb hby d9_38) rfl ?_
    show Steps p.tables e below (T17.setTop (mkF m 40 #[.val (.ref a9_0), .val (.int (4 : Int32)), .val (.long q9_2), .second, .val (.int (6 : Int32))] [(.int (6 : Int32))])) _
    refine XS.iload X17.here hx rfl (hb hby d9_40) rfl ?_
    refine XS.iload X17.here hx rfl (hb hby d9_42) rfl ?_
    refine XS.ineg X17.here hx rfl (hb hby d9_44) rfl ?_
    show Steps p.tables e below (T17.setTop (mkF m 45 #[.val (.ref a9_0), .val (.int (4 : Int32)), .val (.long q9_2), .second, .val (.int (6 : Int32))] [(.int (-6 : Int32)), (.int (6 : Int32)), (.int (6 : Int32))])) _
    refine XS.iand X17.here hx rfl (hb hby d9_45) rfl ?_
    refine XS.iadd X17.here hx rfl (hb hby d9_46) rfl ?_
    refine XS.istore X17.here hx rfl (hb hby d9_47) rfl (l' := #[.val (.ref a9_0), .val (.int (4 : Int32)), .val (.long q9_2), .second, .val (.int (8 : Int32))]) rfl ?_
    show Steps p.tables e below (T17.setTop (mkF m 49 #[.val (.ref a9_0), .val (.int (4 : Int32)), .val (.long q9_2), .second, .val (.int (8 : Int32))] [])) _
    refine XS.goto X17.here hx rfl (pc0 := 49) (pc' := 15) rfl (hb hby d9_49) (by decide) (by decide) ?_
    refine XS.iload X17.here hx rfl (hb hby d9_15) rfl ?_
    refine XS.aloadN X17.here hx rfl (hb hby d9_17) rfl rfl ?_
    show Steps p.tables e below (T17.setTop (mkF m 18 #[.val (.ref a9_0), .val (.int (4 : Int32)), .val (.long q9_2), .second, .val (.int (8 : Int32))] [(.ref a9_0), (.int (8 : Int32))])) _
    refine st19 _ ?_
    show Steps p.tables e below (T19.setTop (mkF m 21 #[.val (.ref a9_0), .val (.int (4 : Int32)), .val (.long q9_2), .second, .val (.int (8 : Int32))] [(.ref w_tree_a9_0), (.int (8 : Int32))])) _
    refine X19.arraylength hx (cell := cl20) (by rw [e19]; exact Ar20.1) (State.isArrayOf_alike hZ.alike Ar20.2.1) (g := (mkF m 21 #[.val (.ref a9_0), .val (.int (4 : Int32)), .val (.long q9_2), .second, .val (.int (8 : Int32))] [(.ref w_tree_a9_0), (.int (8 : Int32))])) rfl (rest := [(.int (8 : Int32))]) rfl (hb hby d9_21) _ ?_
    rw [len_of Sz20 Nz20]
    show Steps p.tables e below (T19.setTop (mkF m 22 #[.val (.ref a9_0), .val (.int (4 : Int32)), .val (.long q9_2), .second, .val (.int (8 : Int32))] [(.int (8 : Int32)), (.int (8 : Int32))])) _
    refine XS.icmpNo X19.here hx rfl (hb hby d9_22) rfl (flt (by decide : ¬ ((8 : Int32) < (8 : Int32)))).2.2.1 ?_
    refine XS.aloadN X19.here hx rfl (hb hby d9_25) rfl rfl ?_
    refine st21 _ ?_
    show Steps p.tables e below (T21.setTop (mkF m 29 #[.val (.ref a9_0), .val (.int (4 : Int32)), .val (.long q9_2), .second, .val (.int (8 : Int32))] [(.ref w_tree_a9_0)])) _
    refine XS.iload X21.here hx rfl (hb hby d9_29) rfl ?_
    refine XS.iconst X21.here hx rfl (hb hby d9_31) ?_
    refine XS.isub X21.here hx rfl (hb hby d9_32) rfl ?_
    show Steps p.tables e below (T21.setTop (mkF m 33 #[.val (.ref a9_0), .val (.int (4 : Int32)), .val (.long q9_2), .second, .val (.int (8 : Int32))] [(.int (7 : Int32)), (.ref w_tree_a9_0)])) _
    jvm_step X21.here [X21.here.top, hx, (hb hby d9_33), Value.category]
    refine X21.laload hx (j := (7 : Int32)) (v := (.long t_w_tree_a9_0_7)) (by rw [e21]; exact Ar22.1) (State.isArrayOf_alike hZ.alike Ar22.2.1) Ar22.2.2 (inb_of Sz22 ⟨by decide, by decide⟩) (Hh22.at (inb_of Sz22 ⟨by decide, by decide⟩) rfl) (g := (mkF m 34 #[.val (.ref a9_0), .val (.int (4 : Int32)), .val (.long q9_2), .second, .val (.int (8 : Int32))] [(.int (7 : Int32)), (.ref w_tree_a9_0), (.int (7 : Int32)), (.ref w_tree_a9_0)])) rfl rfl (hb hby d9_34) _ ?_
    refine XS.lloadN X21.here hx rfl (hb hby d9_35) rfl ?_
    show Steps p.tables e below (T21.setTop (mkF m 36 #[.val (.ref a9_0), .val (.int (4 : Int32)), .val (.long q9_2), .second, .val (.int (8 : Int32))] [(.long q9_2), (.long t_w_tree_a9_0_7), (.int (7 : Int32)), (.ref w_tree_a9_0)])) _
    refine XS.ladd X21.here hx rfl (hb hby d9_36) rfl ?_
    refine st24 _ ?_
    refine XS.iload X24.here hx rfl (hb hby d9_38) rfl ?_
    show Steps p.tables e below (T24.setTop (mkF m 40 #[.val (.ref a9_0), .val (.int (4 : Int32)), .val (.long q9_2), .second, .val (.int (8 : Int32))] [(.int (8 : Int32))])) _
    refine XS.iload X24.here hx rfl (hb hby d9_40) rfl ?_
    refine XS.iload X24.here hx rfl (hb hby d9_42) rfl ?_
    refine XS.ineg X24.here hx rfl (hb hby d9_44) rfl ?_
    show Steps p.tables e below (T24.setTop (mkF m 45 #[.val (.ref a9_0), .val (.int (4 : Int32)), .val (.long q9_2), .second, .val (.int (8 : Int32))] [(.int (-8 : Int32)), (.int (8 : Int32)), (.int (8 : Int32))])) _
    refine XS.iand X24.here hx rfl (hb hby d9_45) rfl ?_
    refine XS.iadd X24.here hx rfl (hb hby d9_46) rfl ?_
    refine XS.istore X24.here hx rfl (hb hby d9_47) rfl (l' := #[.val (.ref a9_0), .val (.int (4 : Int32)), .val (.long q9_2), .second, .val (.int (16 : Int32))]) rfl ?_
    show Steps p.tables e below (T24.setTop (mkF m 49 #[.val (.ref a9_0), .val (.int (4 : Int32)), .val (.long q9_2), .second, .val (.int (16 : Int32))] [])) _
    refine XS.goto X24.here hx rfl (pc0 := 49) (pc' := 15) rfl (hb hby d9_49) (by decide) (by decide) ?_
    refine XS.iload X24.here hx rfl (hb hby d9_15) rfl ?_
    refine XS.aloadN X24.here hx rfl (hb hby d9_17) rfl rfl ?_
    show Steps p.tables e below (T24.setTop (mkF m 18 #[.val (.ref a9_0), .val (.int (4 : Int32)), .val (.long q9_2), .second, .val (.int (16 : Int32))] [(.ref a9_0), (.int (16 : Int32))])) _
    refine st26 _ ?_
    show Steps p.tables e below (T26.setTop (mkF m 21 #[.val (.ref a9_0), .val (.int (4 : Int32)), .val (.long q9_2), .second, .val (.int (16 : Int32))] [(.ref w_tree_a9_0), (.int (16 : Int32))])) _
    refine X26.arraylength hx (cell := cl27) (by rw [e26]; exact Ar27.1) (State.isArrayOf_alike hZ.alike Ar27.2.1) (g := (mkF m 21 #[.val (.ref a9_0), .val (.int (4 : Int32)), .val (.long q9_2), .second, .val (.int (16 : Int32))] [(.ref w_tree_a9_0), (.int (16 : Int32))])) rfl (rest := [(.int (16 : Int32))]) rfl (hb hby d9_21) _ ?_
    rw [len_of Sz27 Nz27]
    show Steps p.tables e below (T26.setTop (mkF m 22 #[.val (.ref a9_0), .val (.int (4 : Int32)), .val (.long q9_2), .second, .val (.int (16 : Int32))] [(.int (8 : Int32)), (.int (16 : Int32))])) _
    refine XS.icmpYes X26.here hx rfl (pc0 := 22) (pc' := 52) rfl (hb hby d9_22) rfl (tlt (by decide : (8 : Int32) < (16 : Int32))).2.2.1 (by decide) (by decide) ?_
    show Steps p.tables e below (T26.setTop (mkF m 52 #[.val (.ref a9_0), .val (.int (4 : Int32)), .val (.long q9_2), .second, .val (.int (16 : Int32))] [])) _
    exact X26.returnOut hx Bd.returns (hb hby d9_52) hr
  · have f28 := ((((E_a9_0.wr W2).wr W10).wr W17).wr W24)
    have f29 := ((((F_size_a9_0.other W2 (Or.inr (slot_ne (Or.inl (ow29 hw)) (Or.inl (ow51 hw)) (by decide) (t := .int) (t' := .long) (by decide) (by decide)))).other W10 (Or.inl (Ne.symm ne_w_tree_a9_0_a9_0))).other W17 (Or.inl (Ne.symm ne_w_tree_a9_0_a9_0))).other W24 (Or.inl (Ne.symm ne_w_tree_a9_0_a9_0)))
    have f30 := (((F2.other W10 (Or.inl (Ne.symm ne_w_tree_a9_0_a9_0))).other W17 (Or.inl (Ne.symm ne_w_tree_a9_0_a9_0))).other W24 (Or.inl (Ne.symm ne_w_tree_a9_0_a9_0)))
    show Q_rm9_5 Z a9_0 q9_2 w_tree_a9_0 w_total_a9_0 kc_w_tree_a9_0 t_w_tree_a9_0_0 t_w_tree_a9_0_1 t_w_tree_a9_0_2 t_w_tree_a9_0_3 t_w_tree_a9_0_4 t_w_tree_a9_0_5 t_w_tree_a9_0_6 t_w_tree_a9_0_7 h0 n0 _ T26.heap _
    rw [e26]
    exact ⟨rfl, N24, K24, f28, f25, f29, f30, V24⟩
theorem ef_rm4_5 (m : MethodId) (y0 : Addr) (y1 : Int64) : entryFrame m #[(.ref y0), (.long y1)] 3 = mkF m 0 #[.val (.ref y0), .val (.long y1), .second] [] := by first | (simp [entryFrame, mkF, argsToLocals, Value.category]; done) | rfl
def Q_rm4_5 (Z : State) (a4_0 : Addr) (q4_1 : Int64) (w_tree_a4_0 : Addr) (w_total_a4_0 : Int64) (kc_w_tree_a4_0 : ClassId) (t_w_tree_a4_0_0 : Int64) (t_w_tree_a4_0_1 : Int64) (t_w_tree_a4_0_2 : Int64) (t_w_tree_a4_0_3 : Int64) (h0 : Heap) (n0 : Nat) (v : Option Value) (h : Heap) (L : List Loc) : Prop := ∃ bx4_0 : Addr, ∃ kx4_0 : ClassId, v = none ∧ Fr n0 L ∧ Keep h0 h [a4_0] ∧ h0.size ≤ bx4_0 ∧ Exa Z h a4_0 "com/example/motley/motley/CountTree" ∧ Fld Z h a4_0 "com/example/motley/motley/CountTree" "tree" "[J" (.ref bx4_0) ∧ Fld Z h a4_0 "com/example/motley/motley/CountTree" "size" "I" (.int (5 : Int32)) ∧ Fld Z h a4_0 "com/example/motley/motley/CountTree" "total" "J" (.long (w_total_a4_0 + q4_1)) ∧ Arv Z h bx4_0 kx4_0 .long (8 : Int32) [(.long t_w_tree_a4_0_0), (.long t_w_tree_a4_0_1), (.long t_w_tree_a4_0_2), (.long t_w_tree_a4_0_3), (.long ((0 : Int64) + q4_1)), (.long ((0 : Int64) + q4_1)), (.long (0 : Int64)), (.long ((w_total_a4_0 - (0 : Int64)) + q4_1))] (.long (0 : Int64))
set_option maxRecDepth 65536 in
set_option maxHeartbeats 40000000 in
theorem rm4_5 (l : Launch) (Z : State) (a0 : Array Value) (hw : ∀ d ∈ tables_1, d.before a0 Z = true) (ws : List Jvm.Cond) (a4_0 : Addr) (q4_1 : Int64) (w_tree_a4_0 : Addr) (w_total_a4_0 : Int64) (kc_w_tree_a4_0 : ClassId) (t_w_tree_a4_0_0 : Int64) (t_w_tree_a4_0_1 : Int64) (t_w_tree_a4_0_2 : Int64) (t_w_tree_a4_0_3 : Int64) (h0 : Heap) (n0 : Nat) (Z0 : n0 ≤ h0.size) (E_a4_0 : Exa Z h0 a4_0 "com/example/motley/motley/CountTree") (F_tree_a4_0 : Fld Z h0 a4_0 "com/example/motley/motley/CountTree" "tree" "[J" (.ref w_tree_a4_0)) (F_size_a4_0 : Fld Z h0 a4_0 "com/example/motley/motley/CountTree" "size" "I" (.int (4 : Int32))) (F_total_a4_0 : Fld Z h0 a4_0 "com/example/motley/motley/CountTree" "total" "J" (.long w_total_a4_0)) (V_w_tree_a4_0 : Arv Z h0 w_tree_a4_0 kc_w_tree_a4_0 .long (4 : Int32) [(.long t_w_tree_a4_0_0), (.long t_w_tree_a4_0_1), (.long t_w_tree_a4_0_2), (.long t_w_tree_a4_0_3)] (.long (0 : Int64))) (g_a4_0 : n0 ≤ a4_0) :
    MetFree l (⟨"com/example/motley/motley/CountTree", "append", "(J)V"⟩ : MethodName) (head1 (Jvm.Cond.code (⟨"com/example/motley/motley/CountTree", "append", "(J)V"⟩ : MethodName) prog_14_method_4_code 3 none :: ws) ({ frames := 3, cells := 1, slots := 8, locals := 50 } : Room)) (fun a U => a = #[(.ref a4_0), (.long q4_1)] ∧ Z.Warmed39 U.vm ∧ U.heap = h0) (fun _ _ _ _ _ => True) (fun _ U o U' => ∃ v L, o = .returned v ∧ Q_rm4_5 Z a4_0 q4_1 w_tree_a4_0 w_total_a4_0 kc_w_tree_a4_0 t_w_tree_a4_0_0 t_w_tree_a4_0_1 t_w_tree_a4_0_2 t_w_tree_a4_0_3 h0 n0 v U'.heap L ∧ FrameEnd U o U' L ({ frames := 3, cells := 1, slots := 8, locals := 50 } : Room).cells ({ frames := 3, cells := 1, slots := 8, locals := 50 } : Room).slots) := by
  refine MetFree.of_bodySF (plainFor_of_name pn_4) hisR ?_
  intro p e s m args below meth c s₁ Bd hml0 hP hK
  obtain ⟨rfl, hZ, hh⟩ := hP
  have hx := Bd.exec
  have hby := Bd.bytes
  have hml : c.maxLocals = 3 := hml0
  have hown : s.vm.findClass "com/example/motley/motley/CountTree" = some m.cls := findClass_of_methodNamed Bd.named
  have hnm := (name_of_methodNamed Bd.named Bd.method).1
  have X0 : Stand p l e ({ frames := 3, cells := 1, slots := 8, locals := 50 } : Room) s m #[(.ref a4_0), (.long q4_1)] below meth c s₁ [] 0 0 := Stand.of_body Bd
  have e0 : s₁.heap = h0 := by rw [← hh, Bd.state]; rfl
  have N0 := Fr.nil n0
  have pre0 : ∀ t, Steps p.tables e below (s₁.setTop (mkF m 0 #[.val (.ref a4_0), .val (.long q4_1), .second] [])) t → Steps p.tables e below (s₁.setTop (entryFrame m #[(.ref a4_0), (.long q4_1)] 3)) t := fun t k => castTop (ef_rm4_5 m a4_0 q4_1) k
  obtain ⟨cq1, kq1, q1a, q1b, q1c⟩ := isOf hZ e0 E_a4_0
  obtain ⟨_, _, ⟨T1, L1, k1, n1⟩, -, X1, ⟨Lc1, hQ1, l1, y1, z1⟩, st1⟩ := X0.virtualBack hx (y := (⟨"com/example/motley/motley/CountTree", "reserve", "(I)V"⟩ : MethodName)) (z := (⟨"com/example/motley/motley/CountTree", "reserve", "(I)V"⟩ : MethodName)) hown (mvT hZ (ow23 hw)) (mvT hZ (ow24 hw)) (notFace_of_selects (args := #[]) (mvT hZ (ow26 hw))) (mvT hZ (ow26 hw)) (mvT hZ (ow25 hw)) (by decide) (backOf (W := 0) (rm5_5 l Z a0 hw [] a4_0 w_tree_a4_0 w_total_a4_0 kc_w_tree_a4_0 t_w_tree_a4_0_0 t_w_tree_a4_0_1 t_w_tree_a4_0_2 t_w_tree_a4_0_3 h0 n0 Z0 E_a4_0 F_tree_a4_0 F_size_a4_0 F_total_a4_0 V_w_tree_a4_0 g_a4_0) hZ (ow27 hw) (ow8 hw) (by decide) (by decide)) q1a q1c (g := (mkF m 2 #[.val (.ref a4_0), .val (.long q4_1), .second] [(.int (1 : Int32)), (.ref a4_0)])) rfl (by rw [hml]; rfl) (Steps.refl _) (argsL := [(.int (1 : Int32))]) (rest := []) (lenOf pd__I_V rfl) rfl (by show 2 * 0 + _ ≤ _; exact Nat.le_of_eq rfl) (hb hby d4_2) (fun _ _ => ⟨rfl, e0, (by decide : 0 + 1 ≤ _), (by decide : 0 + 8 ≤ _)⟩)
  dsimp only [Pt.U, Pt.locs, Pt.cells, Pt.slots] at X1 l1 y1 z1 st1 hQ1
  subst l1 y1 z1
  obtain ⟨bx5_0_1, kx5_0_1, rfl, Nq1, Kc1, P1_0, P1_1, P1_2, P1_3, P1_4, P1_5⟩ := hQ1
  have K1 : Keep h0 T1.heap [a4_0] := Keep.trans (Keep.refl h0 [a4_0]) Kc1 (allS (P := fun x => x ∈ ([a4_0] : List Addr) ∨ h0.size ≤ x) (Or.inl (List.mem_of_getElem? (i := 0) rfl)) all0)
  have Z1 : n0 ≤ T1.heap.size := Nat.le_trans Z0 K1.1
  have g_bx5_0_1 : n0 ≤ bx5_0_1 := Nat.le_trans Z0 P1_0
  have sz_bx5_0_1 : h0.size ≤ bx5_0_1 := Nat.le_trans (Nat.le_refl _) P1_0
  have ne_a4_0_bx5_0_1 : a4_0 ≠ bx5_0_1 := Nat.ne_of_lt (Nat.lt_of_lt_of_le E_a4_0.lt P1_0)
  have ne_w_tree_a4_0_bx5_0_1 : w_tree_a4_0 ≠ bx5_0_1 := Nat.ne_of_lt (Nat.lt_of_lt_of_le V_w_tree_a4_0.lt P1_0)
  obtain ⟨y2, hy2⟩ : ∃ z : Int64, z = (w_total_a4_0 - (0 : Int64)) := ⟨_, rfl⟩
  rw [← hy2] at P1_5
  have N1 := Fr.app N0 Nq1
  obtain ⟨T3, X3, e3, st3⟩ := getF X1 hx hZ hown (host := "") (Or.inl (ow28 hw)) Via.refl rfl P1_3 (g := (mkF m 7 #[.val (.ref a4_0), .val (.long q4_1), .second] [(.ref a4_0), (.ref a4_0)])) rfl rfl (hb hby d4_7)
  obtain ⟨T4, h4, X4, e4, W4, st4⟩ := putF X3 hx hZ hown (host := "") (Or.inl (ow28 hw)) Via.refl e3 P1_3 P1_1 (Or.inl (ow29 hw)) (ow7 hw) (ty := .int) (by decide) rfl rfl (g := (mkF m 12 #[.val (.ref a4_0), .val (.long q4_1), .second] [(.int (5 : Int32)), (.ref a4_0)])) rfl rfl (hb hby d4_12)
  have F4 := P1_3.same W4
  have K4 : Keep h0 h4 [a4_0] := K1.wr W4 (Or.inl (List.mem_of_getElem? (i := 0) rfl))
  have Z4 : n0 ≤ h4.size := Nat.le_trans Z0 K4.1
  have N4 := Fr.snoc X4 N1 g_a4_0
  obtain ⟨T5, X5, e5, st5⟩ := getF X4 hx hZ hown (host := "") (Or.inl (ow28 hw)) Via.refl e4 F4 (g := (mkF m 17 #[.val (.ref a4_0), .val (.long q4_1), .second] [(.ref a4_0), (.ref a4_0)])) rfl rfl (hb hby d4_17)
  have f6 := (P1_5.other W4 (Ne.symm ne_a4_0_bx5_0_1))
  have f7 := (P1_1.wr W4)
  have f8 := (P1_2.other W4 (Or.inr (slot_ne (Or.inl (ow17 hw)) (Or.inl (ow29 hw)) (by decide) (t := (.array .long)) (t' := .int) (by decide) (by decide))))
  have f9 := (P1_4.other W4 (Or.inr (slot_ne (Or.inl (ow51 hw)) (Or.inl (ow29 hw)) (by decide) (t := .long) (t' := .int) (by decide) (by decide))))
  obtain ⟨cq10, kq10, q10a, q10b, q10c⟩ := isOf hZ e5 f7
  obtain ⟨_, _, ⟨T10, L10, k10, n10⟩, -, X10, ⟨Lc10, hQ10, l10, y10, z10⟩, st10⟩ := X5.virtualBack hx (y := (⟨"com/example/motley/motley/CountTree", "add", "(IJ)V"⟩ : MethodName)) (z := (⟨"com/example/motley/motley/CountTree", "add", "(IJ)V"⟩ : MethodName)) hown (mvT hZ (ow45 hw)) (mvT hZ (ow46 hw)) (notFace_of_selects (args := #[]) (mvT hZ (ow48 hw))) (mvT hZ (ow48 hw)) (mvT hZ (ow47 hw)) (by decide) (backOf (W := 0) (rm9_5 l Z a0 hw [] a4_0 q4_1 bx5_0_1 w_total_a4_0 kx5_0_1 t_w_tree_a4_0_0 t_w_tree_a4_0_1 t_w_tree_a4_0_2 t_w_tree_a4_0_3 (0 : Int64) (0 : Int64) (0 : Int64) y2 h4 n0 Z4 f7 f8 F4 f9 f6 g_a4_0 (Ne.symm ne_a4_0_bx5_0_1) g_bx5_0_1) hZ (ow49 hw) (ow8 hw) (by decide) (by decide)) q10a q10c (g := (mkF m 23 #[.val (.ref a4_0), .val (.long q4_1), .second] [(.long q4_1), (.int (4 : Int32)), (.ref a4_0)])) rfl (by rw [hml]; rfl) (Steps.refl _) (argsL := [(.int (4 : Int32)), (.long q4_1)]) (rest := []) (lenOf pd__IJ_V rfl) rfl (by show 2 * 0 + _ ≤ _; exact Nat.le_of_eq rfl) (hb hby d4_23) (fun _ _ => ⟨rfl, e5, (by decide : 1 + 0 ≤ _), (by decide : 8 + 0 ≤ _)⟩)
  dsimp only [Pt.U, Pt.locs, Pt.cells, Pt.slots] at X10 l10 y10 z10 st10 hQ10
  subst l10 y10 z10
  obtain ⟨rfl, Nq10, Kc10, P10_0, P10_1, P10_2, P10_3, P10_4⟩ := hQ10
  have K10 : Keep h0 T10.heap [a4_0] := Keep.trans K4 Kc10 (allS (P := fun x => x ∈ ([a4_0] : List Addr) ∨ h0.size ≤ x) (Or.inl (List.mem_of_getElem? (i := 0) rfl)) (allS (P := fun x => x ∈ ([a4_0] : List Addr) ∨ h0.size ≤ x) (Or.inr sz_bx5_0_1) all0))
  have Z10 : n0 ≤ T10.heap.size := Nat.le_trans Z0 K10.1
  obtain ⟨y11, hy11⟩ : ∃ z : Int64, z = (w_total_a4_0 + q4_1) := ⟨_, rfl⟩
  rw [← hy11] at P10_3
  obtain ⟨y12, hy12⟩ : ∃ z : Int64, z = ((0 : Int64) + q4_1) := ⟨_, rfl⟩
  rw [← hy12] at P10_4
  obtain ⟨y13, hy13⟩ : ∃ z : Int64, z = (y2 + q4_1) := ⟨_, rfl⟩
  rw [← hy13] at P10_4
  have N10 := Fr.app N4 Nq10
  obtain ⟨fs, hr, hrun, hended, hW, hsame⟩ := X10.leave (v := none) (fun _ => rfl)
  refine ⟨_, _, pre0 _ ?_, hrun, hended, _, _, rfl, ?_, ⟨_, rfl⟩, hW, hsame.mono (by decide) (by decide)⟩
  · show Steps p.tables e below (s₁.setTop (mkF m 0 #[.val (.ref a4_0), .val (.long q4_1), .second] [])) _
    refine XS.aloadN X0.here hx rfl (hb hby d4_0) rfl rfl ?_
    refine XS.iconst X0.here hx rfl (hb hby d4_1) ?_
    refine st1.trans ?_
    show Steps p.tables e below (T1.setTop (mkF m 5 #[.val (.ref a4_0), .val (.long q4_1), .second] [])) _
    refine XS.aloadN X1.here hx rfl (hb hby d4_5) rfl rfl ?_
    refine XS.dup X1.here hx rfl (hb hby d4_6) rfl rfl ?_
    refine st3 _ ?_
    show Steps p.tables e below (T3.setTop (mkF m 10 #[.val (.ref a4_0), .val (.long q4_1), .second] [(.int (4 : Int32)), (.ref a4_0)])) _
    refine XS.iconst X3.here hx rfl (hb hby d4_10) ?_
    refine XS.iadd X3.here hx rfl (hb hby d4_11) rfl ?_
    refine st4 _ ?_
    show Steps p.tables e below (T4.setTop (mkF m 15 #[.val (.ref a4_0), .val (.long q4_1), .second] [])) _
    refine XS.aloadN X4.here hx rfl (hb hby d4_15) rfl rfl ?_
    refine XS.aloadN X4.here hx rfl (hb hby d4_16) rfl rfl ?_
    refine st5 _ ?_
    show Steps p.tables e below (T5.setTop (mkF m 20 #[.val (.ref a4_0), .val (.long q4_1), .second] [(.int (5 : Int32)), (.ref a4_0)])) _
    refine XS.iconst X5.here hx rfl (hb hby d4_20) ?_
    refine XS.isub X5.here hx rfl (hb hby d4_21) rfl ?_
    refine XS.lloadN X5.here hx rfl (hb hby d4_22) rfl ?_
    show Steps p.tables e below (T5.setTop (mkF m 23 #[.val (.ref a4_0), .val (.long q4_1), .second] [(.long q4_1), (.int (4 : Int32)), (.ref a4_0)])) _
    refine st10.trans ?_
    show Steps p.tables e below (T10.setTop (mkF m 26 #[.val (.ref a4_0), .val (.long q4_1), .second] [])) _
    exact X10.returnOut hx Bd.returns (hb hby d4_26) hr
  · show Q_rm4_5 Z a4_0 q4_1 w_tree_a4_0 w_total_a4_0 kc_w_tree_a4_0 t_w_tree_a4_0_0 t_w_tree_a4_0_1 t_w_tree_a4_0_2 t_w_tree_a4_0_3 h0 n0 _ T10.heap _
    subst hy13
    subst hy12
    subst hy11
    subst hy2
    exact ⟨bx5_0_1, kx5_0_1, rfl, N10, K10, sz_bx5_0_1, P10_0, P10_1, P10_2, P10_3, P10_4⟩
theorem ef_rm9_6 (m : MethodId) (y0 : Addr) (y1 : Int32) (y2 : Int64) : entryFrame m #[(.ref y0), (.int y1), (.long y2)] 5 = mkF m 0 #[.val (.ref y0), .val (.int y1), .val (.long y2), .second, .unset] [] := by first | (simp [entryFrame, mkF, argsToLocals, Value.category]; done) | rfl
def Q_rm9_6 (Z : State) (a9_0 : Addr) (p9_1 : Int32) (q9_2 : Int64) (w_tree_a9_0 : Addr) (w_total_a9_0 : Int64) (kc_w_tree_a9_0 : ClassId) (t_w_tree_a9_0_0 : Int64) (t_w_tree_a9_0_1 : Int64) (t_w_tree_a9_0_2 : Int64) (t_w_tree_a9_0_3 : Int64) (t_w_tree_a9_0_4 : Int64) (t_w_tree_a9_0_5 : Int64) (t_w_tree_a9_0_6 : Int64) (t_w_tree_a9_0_7 : Int64) (h0 : Heap) (n0 : Nat) (v : Option Value) (h : Heap) (L : List Loc) : Prop := v = none ∧ Fr n0 L ∧ Keep h0 h [a9_0, w_tree_a9_0] ∧ Exa Z h a9_0 "com/example/motley/motley/CountTree" ∧ Fld Z h a9_0 "com/example/motley/motley/CountTree" "tree" "[J" (.ref w_tree_a9_0) ∧ Fld Z h a9_0 "com/example/motley/motley/CountTree" "size" "I" (.int (5 : Int32)) ∧ Fld Z h a9_0 "com/example/motley/motley/CountTree" "total" "J" (.long (w_total_a9_0 + q9_2)) ∧ Arv Z h w_tree_a9_0 kc_w_tree_a9_0 .long (8 : Int32) [(.long (if p9_1 = (0 : Int32) then (t_w_tree_a9_0_0 + q9_2) else t_w_tree_a9_0_0)), (.long (if p9_1 = (0 : Int32) then (t_w_tree_a9_0_1 + q9_2) else (if p9_1 = (1 : Int32) then (t_w_tree_a9_0_1 + q9_2) else t_w_tree_a9_0_1))), (.long (if p9_1 = (0 : Int32) then t_w_tree_a9_0_2 else (if p9_1 = (1 : Int32) then t_w_tree_a9_0_2 else (if p9_1 = (2 : Int32) then (t_w_tree_a9_0_2 + q9_2) else t_w_tree_a9_0_2)))), (.long (if p9_1 = (0 : Int32) then (t_w_tree_a9_0_3 + q9_2) else (if p9_1 = (1 : Int32) then (t_w_tree_a9_0_3 + q9_2) else (if p9_1 = (2 : Int32) then (t_w_tree_a9_0_3 + q9_2) else (if p9_1 = (3 : Int32) then (t_w_tree_a9_0_3 + q9_2) else t_w_tree_a9_0_3))))), (.long (if p9_1 = (0 : Int32) then t_w_tree_a9_0_4 else (if p9_1 = (1 : Int32) then t_w_tree_a9_0_4 else (if p9_1 = (2 : Int32) then t_w_tree_a9_0_4 else (if p9_1 = (3 : Int32) then t_w_tree_a9_0_4 else (t_w_tree_a9_0_4 + q9_2)))))), (.long (if p9_1 = (0 : Int32) then t_w_tree_a9_0_5 else (if p9_1 = (1 : Int32) then t_w_tree_a9_0_5 else (if p9_1 = (2 : Int32) then t_w_tree_a9_0_5 else (if p9_1 = (3 : Int32) then t_w_tree_a9_0_5 else (t_w_tree_a9_0_5 + q9_2)))))), (.long t_w_tree_a9_0_6), (.long (t_w_tree_a9_0_7 + q9_2))] (.long (0 : Int64))
set_option maxRecDepth 65536 in
set_option maxHeartbeats 40000000 in
theorem rm9_6 (l : Launch) (Z : State) (a0 : Array Value) (hw : ∀ d ∈ tables_1, d.before a0 Z = true) (ws : List Jvm.Cond) (a9_0 : Addr) (p9_1 : Int32) (q9_2 : Int64) (w_tree_a9_0 : Addr) (w_total_a9_0 : Int64) (kc_w_tree_a9_0 : ClassId) (t_w_tree_a9_0_0 : Int64) (t_w_tree_a9_0_1 : Int64) (t_w_tree_a9_0_2 : Int64) (t_w_tree_a9_0_3 : Int64) (t_w_tree_a9_0_4 : Int64) (t_w_tree_a9_0_5 : Int64) (t_w_tree_a9_0_6 : Int64) (t_w_tree_a9_0_7 : Int64) (h0 : Heap) (n0 : Nat) (Z0 : n0 ≤ h0.size) (hp : p9_1 = (0 : Int32) ∨ p9_1 = (1 : Int32) ∨ p9_1 = (2 : Int32) ∨ p9_1 = (3 : Int32) ∨ p9_1 = (4 : Int32)) (E_a9_0 : Exa Z h0 a9_0 "com/example/motley/motley/CountTree") (F_tree_a9_0 : Fld Z h0 a9_0 "com/example/motley/motley/CountTree" "tree" "[J" (.ref w_tree_a9_0)) (F_size_a9_0 : Fld Z h0 a9_0 "com/example/motley/motley/CountTree" "size" "I" (.int (5 : Int32))) (F_total_a9_0 : Fld Z h0 a9_0 "com/example/motley/motley/CountTree" "total" "J" (.long w_total_a9_0)) (V_w_tree_a9_0 : Arv Z h0 w_tree_a9_0 kc_w_tree_a9_0 .long (8 : Int32) [(.long t_w_tree_a9_0_0), (.long t_w_tree_a9_0_1), (.long t_w_tree_a9_0_2), (.long t_w_tree_a9_0_3), (.long t_w_tree_a9_0_4), (.long t_w_tree_a9_0_5), (.long t_w_tree_a9_0_6), (.long t_w_tree_a9_0_7)] (.long (0 : Int64))) (g_a9_0 : n0 ≤ a9_0) (ne_w_tree_a9_0_a9_0 : w_tree_a9_0 ≠ a9_0) (g_w_tree_a9_0 : n0 ≤ w_tree_a9_0) :
    MetFree l (⟨"com/example/motley/motley/CountTree", "add", "(IJ)V"⟩ : MethodName) (head1 (Jvm.Cond.code (⟨"com/example/motley/motley/CountTree", "add", "(IJ)V"⟩ : MethodName) prog_14_method_7_code 5 none :: ws) ({ frames := 0, cells := 0, slots := 0, locals := 0 } : Room)) (fun a U => a = #[(.ref a9_0), (.int p9_1), (.long q9_2)] ∧ Z.Warmed39 U.vm ∧ U.heap = h0) (fun _ _ _ _ _ => True) (fun _ U o U' => ∃ v L, o = .returned v ∧ Q_rm9_6 Z a9_0 p9_1 q9_2 w_tree_a9_0 w_total_a9_0 kc_w_tree_a9_0 t_w_tree_a9_0_0 t_w_tree_a9_0_1 t_w_tree_a9_0_2 t_w_tree_a9_0_3 t_w_tree_a9_0_4 t_w_tree_a9_0_5 t_w_tree_a9_0_6 t_w_tree_a9_0_7 h0 n0 v U'.heap L ∧ FrameEnd U o U' L ({ frames := 0, cells := 0, slots := 0, locals := 0 } : Room).cells ({ frames := 0, cells := 0, slots := 0, locals := 0 } : Room).slots) := by
  refine MetFree.of_bodySF (plainFor_of_name pn_9) hisR ?_
  intro p e s m args below meth c s₁ Bd hml0 hP hK
  obtain ⟨rfl, hZ, hh⟩ := hP
  have hx := Bd.exec
  have hby := Bd.bytes
  have hml : c.maxLocals = 5 := hml0
  have hown : s.vm.findClass "com/example/motley/motley/CountTree" = some m.cls := findClass_of_methodNamed Bd.named
  have hnm := (name_of_methodNamed Bd.named Bd.method).1
  have X0 : Stand p l e ({ frames := 0, cells := 0, slots := 0, locals := 0 } : Room) s m #[(.ref a9_0), (.int p9_1), (.long q9_2)] below meth c s₁ [] 0 0 := Stand.of_body Bd
  have e0 : s₁.heap = h0 := by rw [← hh, Bd.state]; rfl
  have N0 := Fr.nil n0
  have pre0 : ∀ t, Steps p.tables e below (s₁.setTop (mkF m 0 #[.val (.ref a9_0), .val (.int p9_1), .val (.long q9_2), .second, .unset] [])) t → Steps p.tables e below (s₁.setTop (entryFrame m #[(.ref a9_0), (.int p9_1), (.long q9_2)] 5)) t := fun t k => castTop (ef_rm9_6 m a9_0 p9_1 q9_2) k
  by_cases hb1 : p9_1 = (0 : Int32)
  · have own_t1 : True := trivial
    obtain ⟨T2, X2, e2, st2⟩ := getF X0 hx hZ hown (host := "") (Or.inl (ow50 hw)) Via.refl e0 F_total_a9_0 (g := (mkF m 2 #[.val (.ref a9_0), .val (.int (0 : Int32)), .val (.long q9_2), .second, .unset] [(.ref a9_0), (.ref a9_0)])) rfl rfl (hb hby d9_2)
    obtain ⟨T3, h3, X3, e3, W3, st3⟩ := putF X2 hx hZ hown (host := "") (Or.inl (ow50 hw)) Via.refl e2 F_total_a9_0 E_a9_0 (Or.inl (ow51 hw)) (ow7 hw) (ty := .long) (by decide) rfl rfl (g := (mkF m 7 #[.val (.ref a9_0), .val (.int (0 : Int32)), .val (.long q9_2), .second, .unset] [(.long (w_total_a9_0 + q9_2)), (.ref a9_0)])) rfl rfl (hb hby d9_7)
    have F3 := F_total_a9_0.same W3
    have K3 : Keep h0 h3 [a9_0, w_tree_a9_0] := (Keep.refl h0 [a9_0, w_tree_a9_0]).wr W3 (Or.inl (List.mem_of_getElem? (i := 0) rfl))
    have Z3 : n0 ≤ h3.size := Nat.le_trans Z0 K3.1
    have N3 := Fr.snoc X3 N0 g_a9_0
    have f4 := (F_tree_a9_0.other W3 (Or.inr (slot_ne (Or.inl (ow17 hw)) (Or.inl (ow51 hw)) (by decide) (t := (.array .long)) (t' := .long) (by decide) (by decide))))
    obtain ⟨T5, X5, e5, st5⟩ := getF X3 hx hZ hown (host := "") (Or.inl (ow16 hw)) Via.refl e3 f4 (g := (mkF m 18 #[.val (.ref a9_0), .val (.int (0 : Int32)), .val (.long q9_2), .second, .val (.int (1 : Int32))] [(.ref a9_0), (.int (1 : Int32))])) rfl rfl (hb hby d9_18)
    have f6 := (V_w_tree_a9_0.other W3 ne_w_tree_a9_0_a9_0)
    obtain ⟨cl7, Ar7, qk7, Sz7, Nz7, Hh7, Gf7⟩ := id f6
    obtain ⟨T8, X8, e8, st8⟩ := getF X5 hx hZ hown (host := "") (Or.inl (ow16 hw)) Via.refl e5 f4 (g := (mkF m 26 #[.val (.ref a9_0), .val (.int (0 : Int32)), .val (.long q9_2), .second, .val (.int (1 : Int32))] [(.ref a9_0)])) rfl rfl (hb hby d9_26)
    obtain ⟨cl9, Ar9, qk9, Sz9, Nz9, Hh9, Gf9⟩ := id f6
    obtain ⟨cl10, Ar10, qk10, Sz10, Nz10, Hh10, Gf10⟩ := id f6
    obtain ⟨T11, h11, X11, e11, W11, st11⟩ := stJ X8 hx hZ e8 Ar10 (j := (0 : Int32)) (inb_of Sz10 ⟨by decide, by decide⟩) (g := (mkF m 37 #[.val (.ref a9_0), .val (.int (0 : Int32)), .val (.long q9_2), .second, .val (.int (1 : Int32))] [(.long (t_w_tree_a9_0_0 + q9_2)), (.int (0 : Int32)), (.ref w_tree_a9_0)])) rfl rfl (hb hby d9_37)
    have V11 : Arv Z h11 w_tree_a9_0 kc_w_tree_a9_0 .long (8 : Int32) [(.long (t_w_tree_a9_0_0 + q9_2)), (.long t_w_tree_a9_0_1), (.long t_w_tree_a9_0_2), (.long t_w_tree_a9_0_3), (.long t_w_tree_a9_0_4), (.long t_w_tree_a9_0_5), (.long t_w_tree_a9_0_6), (.long t_w_tree_a9_0_7)] (.long (0 : Int64)) := Arv.set Ar10 qk10 Sz10 Nz10 Hh10 Gf10 rfl W11 0 rfl (Nat.le_of_ble_eq_true rfl)
    have K11 : Keep h0 h11 [a9_0, w_tree_a9_0] := K3.wr W11 (Or.inl (List.mem_of_getElem? (i := 1) rfl))
    have Z11 : n0 ≤ h11.size := Nat.le_trans Z0 K11.1
    have N11 := Fr.snoc X11 N3 g_w_tree_a9_0
    have f12 := (f4.other W11 (Or.inl (Ne.symm ne_w_tree_a9_0_a9_0)))
    obtain ⟨T13, X13, e13, st13⟩ := getF X11 hx hZ hown (host := "") (Or.inl (ow16 hw)) Via.refl e11 f12 (g := (mkF m 18 #[.val (.ref a9_0), .val (.int (0 : Int32)), .val (.long q9_2), .second, .val (.int (2 : Int32))] [(.ref a9_0), (.int (2 : Int32))])) rfl rfl (hb hby d9_18)
    obtain ⟨cl14, Ar14, qk14, Sz14, Nz14, Hh14, Gf14⟩ := id V11
    obtain ⟨T15, X15, e15, st15⟩ := getF X13 hx hZ hown (host := "") (Or.inl (ow16 hw)) Via.refl e13 f12 (g := (mkF m 26 #[.val (.ref a9_0), .val (.int (0 : Int32)), .val (.long q9_2), .second, .val (.int (2 : Int32))] [(.ref a9_0)])) rfl rfl (hb hby d9_26)
    obtain ⟨cl16, Ar16, qk16, Sz16, Nz16, Hh16, Gf16⟩ := id V11
    obtain ⟨cl17, Ar17, qk17, Sz17, Nz17, Hh17, Gf17⟩ := id V11
    obtain ⟨T18, h18, X18, e18, W18, st18⟩ := stJ X15 hx hZ e15 Ar17 (j := (1 : Int32)) (inb_of Sz17 ⟨by decide, by decide⟩) (g := (mkF m 37 #[.val (.ref a9_0), .val (.int (0 : Int32)), .val (.long q9_2), .second, .val (.int (2 : Int32))] [(.long (t_w_tree_a9_0_1 + q9_2)), (.int (1 : Int32)), (.ref w_tree_a9_0)])) rfl rfl (hb hby d9_37)
    have V18 : Arv Z h18 w_tree_a9_0 kc_w_tree_a9_0 .long (8 : Int32) [(.long (t_w_tree_a9_0_0 + q9_2)), (.long (t_w_tree_a9_0_1 + q9_2)), (.long t_w_tree_a9_0_2), (.long t_w_tree_a9_0_3), (.long t_w_tree_a9_0_4), (.long t_w_tree_a9_0_5), (.long t_w_tree_a9_0_6), (.long t_w_tree_a9_0_7)] (.long (0 : Int64)) := Arv.set Ar17 qk17 Sz17 Nz17 Hh17 Gf17 rfl W18 1 rfl (Nat.le_of_ble_eq_true rfl)
    have K18 : Keep h0 h18 [a9_0, w_tree_a9_0] := K11.wr W18 (Or.inl (List.mem_of_getElem? (i := 1) rfl))
    have Z18 : n0 ≤ h18.size := Nat.le_trans Z0 K18.1
    have N18 := Fr.snoc X18 N11 g_w_tree_a9_0
    have f19 := (f12.other W18 (Or.inl (Ne.symm ne_w_tree_a9_0_a9_0)))
    obtain ⟨T20, X20, e20, st20⟩ := getF X18 hx hZ hown (host := "") (Or.inl (ow16 hw)) Via.refl e18 f19 (g := (mkF m 18 #[.val (.ref a9_0), .val (.int (0 : Int32)), .val (.long q9_2), .second, .val (.int (4 : Int32))] [(.ref a9_0), (.int (4 : Int32))])) rfl rfl (hb hby d9_18)
    obtain ⟨cl21, Ar21, qk21, Sz21, Nz21, Hh21, Gf21⟩ := id V18
    obtain ⟨T22, X22, e22, st22⟩ := getF X20 hx hZ hown (host := "") (Or.inl (ow16 hw)) Via.refl e20 f19 (g := (mkF m 26 #[.val (.ref a9_0), .val (.int (0 : Int32)), .val (.long q9_2), .second, .val (.int (4 : Int32))] [(.ref a9_0)])) rfl rfl (hb hby d9_26)
    obtain ⟨cl23, Ar23, qk23, Sz23, Nz23, Hh23, Gf23⟩ := id V18
    obtain ⟨cl24, Ar24, qk24, Sz24, Nz24, Hh24, Gf24⟩ := id V18
    obtain ⟨T25, h25, X25, e25, W25, st25⟩ := stJ X22 hx hZ e22 Ar24 (j := (3 : Int32)) (inb_of Sz24 ⟨by decide, by decide⟩) (g := (mkF m 37 #[.val (.ref a9_0), .val (.int (0 : Int32)), .val (.long q9_2), .second, .val (.int (4 : Int32))] [(.long (t_w_tree_a9_0_3 + q9_2)), (.int (3 : Int32)), (.ref w_tree_a9_0)])) rfl rfl (hb hby d9_37)
    have V25 : Arv Z h25 w_tree_a9_0 kc_w_tree_a9_0 .long (8 : Int32) [(.long (t_w_tree_a9_0_0 + q9_2)), (.long (t_w_tree_a9_0_1 + q9_2)), (.long t_w_tree_a9_0_2), (.long (t_w_tree_a9_0_3 + q9_2)), (.long t_w_tree_a9_0_4), (.long t_w_tree_a9_0_5), (.long t_w_tree_a9_0_6), (.long t_w_tree_a9_0_7)] (.long (0 : Int64)) := Arv.set Ar24 qk24 Sz24 Nz24 Hh24 Gf24 rfl W25 3 rfl (Nat.le_of_ble_eq_true rfl)
    have K25 : Keep h0 h25 [a9_0, w_tree_a9_0] := K18.wr W25 (Or.inl (List.mem_of_getElem? (i := 1) rfl))
    have Z25 : n0 ≤ h25.size := Nat.le_trans Z0 K25.1
    have N25 := Fr.snoc X25 N18 g_w_tree_a9_0
    have f26 := (f19.other W25 (Or.inl (Ne.symm ne_w_tree_a9_0_a9_0)))
    obtain ⟨T27, X27, e27, st27⟩ := getF X25 hx hZ hown (host := "") (Or.inl (ow16 hw)) Via.refl e25 f26 (g := (mkF m 18 #[.val (.ref a9_0), .val (.int (0 : Int32)), .val (.long q9_2), .second, .val (.int (8 : Int32))] [(.ref a9_0), (.int (8 : Int32))])) rfl rfl (hb hby d9_18)
    obtain ⟨cl28, Ar28, qk28, Sz28, Nz28, Hh28, Gf28⟩ := id V25
    obtain ⟨T29, X29, e29, st29⟩ := getF X27 hx hZ hown (host := "") (Or.inl (ow16 hw)) Via.refl e27 f26 (g := (mkF m 26 #[.val (.ref a9_0), .val (.int (0 : Int32)), .val (.long q9_2), .second, .val (.int (8 : Int32))] [(.ref a9_0)])) rfl rfl (hb hby d9_26)
    obtain ⟨cl30, Ar30, qk30, Sz30, Nz30, Hh30, Gf30⟩ := id V25
    obtain ⟨cl31, Ar31, qk31, Sz31, Nz31, Hh31, Gf31⟩ := id V25
    obtain ⟨T32, h32, X32, e32, W32, st32⟩ := stJ X29 hx hZ e29 Ar31 (j := (7 : Int32)) (inb_of Sz31 ⟨by decide, by decide⟩) (g := (mkF m 37 #[.val (.ref a9_0), .val (.int (0 : Int32)), .val (.long q9_2), .second, .val (.int (8 : Int32))] [(.long (t_w_tree_a9_0_7 + q9_2)), (.int (7 : Int32)), (.ref w_tree_a9_0)])) rfl rfl (hb hby d9_37)
    have V32 : Arv Z h32 w_tree_a9_0 kc_w_tree_a9_0 .long (8 : Int32) [(.long (t_w_tree_a9_0_0 + q9_2)), (.long (t_w_tree_a9_0_1 + q9_2)), (.long t_w_tree_a9_0_2), (.long (t_w_tree_a9_0_3 + q9_2)), (.long t_w_tree_a9_0_4), (.long t_w_tree_a9_0_5), (.long t_w_tree_a9_0_6), (.long (t_w_tree_a9_0_7 + q9_2))] (.long (0 : Int64)) := Arv.set Ar31 qk31 Sz31 Nz31 Hh31 Gf31 rfl W32 7 rfl (Nat.le_of_ble_eq_true rfl)
    have K32 : Keep h0 h32 [a9_0, w_tree_a9_0] := K25.wr W32 (Or.inl (List.mem_of_getElem? (i := 1) rfl))
    have Z32 : n0 ≤ h32.size := Nat.le_trans Z0 K32.1
    have N32 := Fr.snoc X32 N25 g_w_tree_a9_0
    have f33 := (f26.other W32 (Or.inl (Ne.symm ne_w_tree_a9_0_a9_0)))
    obtain ⟨T34, X34, e34, st34⟩ := getF X32 hx hZ hown (host := "") (Or.inl (ow16 hw)) Via.refl e32 f33 (g := (mkF m 18 #[.val (.ref a9_0), .val (.int (0 : Int32)), .val (.long q9_2), .second, .val (.int (16 : Int32))] [(.ref a9_0), (.int (16 : Int32))])) rfl rfl (hb hby d9_18)
    obtain ⟨cl35, Ar35, qk35, Sz35, Nz35, Hh35, Gf35⟩ := id V32
    obtain ⟨fs, hr, hrun, hended, hW, hsame⟩ := X34.leave (v := none) (fun _ => rfl)
    refine ⟨_, _, pre0 _ ?_, hrun, hended, _, _, rfl, ?_, ⟨_, rfl⟩, hW, hsame.mono (by decide) (by decide)⟩
    · show Steps p.tables e below (s₁.setTop (mkF m 0 #[.val (.ref a9_0), .val (.int p9_1), .val (.long q9_2), .second, .unset] [])) _
      rw [hb1]
      show Steps p.tables e below (s₁.setTop (mkF m 0 #[.val (.ref a9_0), .val (.int (0 : Int32)), .val (.long q9_2), .second, .unset] [])) _
      refine XS.aloadN X0.here hx rfl (hb hby d9_0) rfl rfl ?_
      refine XS.dup X0.here hx rfl (hb hby d9_1) rfl rfl ?_
      refine st2 _ ?_
      show Steps p.tables e below (T2.setTop (mkF m 5 #[.val (.ref a9_0), .val (.int (0 : Int32)), .val (.long q9_2), .second, .unset] [(.long w_total_a9_0), (.ref a9_0)])) _
      refine XS.lloadN X2.here hx rfl (hb hby d9_5) rfl ?_
      refine XS.ladd X2.here hx rfl (hb hby d9_6) rfl ?_
      refine st3 _ ?_
      show Steps p.tables e below (T3.setTop (mkF m 10 #[.val (.ref a9_0), .val (.int (0 : Int32)), .val (.long q9_2), .second, .unset] [])) _
      refine XS.iloadN X3.here hx rfl (hb hby d9_10) rfl ?_
      refine XS.iconst X3.here hx rfl (hb hby d9_11) ?_
      refine XS.iadd X3.here hx rfl (hb hby d9_12) rfl ?_
      show Steps p.tables e below (T3.setTop (mkF m 13 #[.val (.ref a9_0), .val (.int (0 : Int32)), .val (.long q9_2), .second, .unset] [(.int (1 : Int32))])) _
      refine XS.istore X3.here hx rfl (hb hby d9_13) rfl (l' := #[.val (.ref a9_0), .val (.int (0 : Int32)), .val (.long q9_2), .second, .val (.int (1 : Int32))]) rfl ?_
      refine XS.iload X3.here hx rfl (hb hby d9_15) rfl ?_
      refine XS.aloadN X3.here hx rfl (hb hby d9_17) rfl rfl ?_
      show Steps p.tables e below (T3.setTop (mkF m 18 #[.val (.ref a9_0), .val (.int (0 : Int32)), .val (.long q9_2), .second, .val (.int (1 : Int32))] [(.ref a9_0), (.int (1 : Int32))])) _
      refine st5 _ ?_
      show Steps p.tables e below (T5.setTop (mkF m 21 #[.val (.ref a9_0), .val (.int (0 : Int32)), .val (.long q9_2), .second, .val (.int (1 : Int32))] [(.ref w_tree_a9_0), (.int (1 : Int32))])) _
      refine X5.arraylength hx (cell := cl7) (by rw [e5]; exact Ar7.1) (State.isArrayOf_alike hZ.alike Ar7.2.1) (g := (mkF m 21 #[.val (.ref a9_0), .val (.int (0 : Int32)), .val (.long q9_2), .second, .val (.int (1 : Int32))] [(.ref w_tree_a9_0), (.int (1 : Int32))])) rfl (rest := [(.int (1 : Int32))]) rfl (hb hby d9_21) _ ?_
      rw [len_of Sz7 Nz7]
      show Steps p.tables e below (T5.setTop (mkF m 22 #[.val (.ref a9_0), .val (.int (0 : Int32)), .val (.long q9_2), .second, .val (.int (1 : Int32))] [(.int (8 : Int32)), (.int (1 : Int32))])) _
      refine XS.icmpNo X5.here hx rfl (hb hby d9_22) rfl (flt (by decide : ¬ ((8 : Int32) < (1 : Int32)))).2.2.1 ?_
      refine XS.aloadN X5.here hx rfl (hb hby d9_25) rfl rfl ?_
      refine st8 _ ?_
      show Steps p.tables e below (T8.setTop (mkF m 29 #[.val (.ref a9_0), .val (.int (0 : Int32)), .val (.long q9_2), .second, .val (.int (1 : Int32))] [(.ref w_tree_a9_0)])) _
      refine XS.iload X8.here hx rfl (hb hby d9_29) rfl ?_
      refine XS.iconst X8.here hx rfl (hb hby d9_31) ?_
      refine XS.isub X8.here hx rfl (hb hby d9_32) rfl ?_
      show Steps p.tables e below (T8.setTop (mkF m 33 #[.val (.ref a9_0), .val (.int (0 : Int32)), .val (.long q9_2), .second, .val (.int (1 : Int32))] [(.int (0 : Int32)), (.ref w_tree_a9_0)])) _
      jvm_step X8.here [X8.here.top, hx, (hb hby d9_33), Value.category]
      refine X8.laload hx (j := (0 : Int32)) (v := (.long t_w_tree_a9_0_0)) (by rw [e8]; exact Ar9.1) (State.isArrayOf_alike hZ.alike Ar9.2.1) Ar9.2.2 (inb_of Sz9 ⟨by decide, by decide⟩) (Hh9.at (inb_of Sz9 ⟨by decide, by decide⟩) rfl) (g := (mkF m 34 #[.val (.ref a9_0), .val (.int (0 : Int32)), .val (.long q9_2), .second, .val (.int (1 : Int32))] [(.int (0 : Int32)), (.ref w_tree_a9_0), (.int (0 : Int32)), (.ref w_tree_a9_0)])) rfl rfl (hb hby d9_34) _ ?_
      refine XS.lloadN X8.here hx rfl (hb hby d9_35) rfl ?_
      show Steps p.tables e below (T8.setTop (mkF m 36 #[.val (.ref a9_0), .val (.int (0 : Int32)), .val (.long q9_2), .second, .val (.int (1 : Int32))] [(.long q9_2), (.long t_w_tree_a9_0_0), (.int (0 : Int32)), (.ref w_tree_a9_0)])) _
      refine XS.ladd X8.here hx rfl (hb hby d9_36) rfl ?_
      refine st11 _ ?_
      refine XS.iload X11.here hx rfl (hb hby d9_38) rfl ?_
      show Steps p.tables e below (T11.setTop (mkF m 40 #[.val (.ref a9_0), .val (.int (0 : Int32)), .val (.long q9_2), .second, .val (.int (1 : Int32))] [(.int (1 : Int32))])) _
      refine XS.iload X11.here hx rfl (hb hby d9_40) rfl ?_
      refine XS.iload X11.here hx rfl (hb hby d9_42) rfl ?_
      refine XS.ineg X11.here hx rfl (hb hby d9_44) rfl ?_
      show Steps p.tables e below (T11.setTop (mkF m 45 #[.val (.ref a9_0), .val (.int (0 : Int32)), .val (.long q9_2), .second, .val (.int (1 : Int32))] [(.int (-1 : Int32)), (.int (1 : Int32)), (.int (1 : Int32))])) _
      refine XS.iand X11.here hx rfl (hb hby d9_45) rfl ?_
      refine XS.iadd X11.here hx rfl (hb hby d9_46) rfl ?_
      refine XS.istore X11.here hx rfl (hb hby d9_47) rfl (l' := #[.val (.ref a9_0), .val (.int (0 : Int32)), .val (.long q9_2), .second, .val (.int (2 : Int32))]) rfl ?_
      show Steps p.tables e below (T11.setTop (mkF m 49 #[.val (.ref a9_0), .val (.int (0 : Int32)), .val (.long q9_2), .second, .val (.int (2 : Int32))] [])) _
      refine XS.goto X11.here hx rfl (pc0 := 49) (pc' := 15) rfl (hb hby d9_49) (by decide) (by decide) ?_
      refine XS.iload X11.here hx rfl (hb hby d9_15) rfl ?_
      refine XS.aloadN X11.here hx rfl (hb hby d9_17) rfl rfl ?_
      show Steps p.tables e below (T11.setTop (mkF m 18 #[.val (.ref a9_0), .val (.int (0 : Int32)), .val (.long q9_2), .second, .val (.int (2 : Int32))] [(.ref a9_0), (.int (2 : Int32))])) _
      refine st13 _ ?_
      show Steps p.tables e below (T13.setTop (mkF m 21 #[.val (.ref a9_0), .val (.int (0 : Int32)), .val (.long q9_2), .second, .val (.int (2 : Int32))] [(.ref w_tree_a9_0), (.int (2 : Int32))])) _
      refine X13.arraylength hx (cell := cl14) (by rw [e13]; exact Ar14.1) (State.isArrayOf_alike hZ.alike Ar14.2.1) (g := (mkF m 21 #[.val (.ref a9_0), .val (.int (0 : Int32)), .val (.long q9_2), .second, .val (.int (2 : Int32))] [(.ref w_tree_a9_0), (.int (2 : Int32))])) rfl (rest := [(.int (2 : Int32))]) rfl (hb hby d9_21) _ ?_
      rw [len_of Sz14 Nz14]
      show Steps p.tables e below (T13.setTop (mkF m 22 #[.val (.ref a9_0), .val (.int (0 : Int32)), .val (.long q9_2), .second, .val (.int (2 : Int32))] [(.int (8 : Int32)), (.int (2 : Int32))])) _
      refine XS.icmpNo X13.here hx rfl (hb hby d9_22) rfl (flt (by decide : ¬ ((8 : Int32) < (2 : Int32)))).2.2.1 ?_
      refine XS.aloadN X13.here hx rfl (hb hby d9_25) rfl rfl ?_
      refine st15 _ ?_
      show Steps p.tables e below (T15.setTop (mkF m 29 #[.val (.ref a9_0), .val (.int (0 : Int32)), .val (.long q9_2), .second, .val (.int (2 : Int32))] [(.ref w_tree_a9_0)])) _
      refine XS.iload X15.here hx rfl (hb hby d9_29) rfl ?_
      refine XS.iconst X15.here hx rfl (hb hby d9_31) ?_
      refine XS.isub X15.here hx rfl (hb hby d9_32) rfl ?_
      show Steps p.tables e below (T15.setTop (mkF m 33 #[.val (.ref a9_0), .val (.int (0 : Int32)), .val (.long q9_2), .second, .val (.int (2 : Int32))] [(.int (1 : Int32)), (.ref w_tree_a9_0)])) _
      jvm_step X15.here [X15.here.top, hx, (hb hby d9_33), Value.category]
      refine X15.laload hx (j := (1 : Int32)) (v := (.long t_w_tree_a9_0_1)) (by rw [e15]; exact Ar16.1) (State.isArrayOf_alike hZ.alike Ar16.2.1) Ar16.2.2 (inb_of Sz16 ⟨by decide, by decide⟩) (Hh16.at (inb_of Sz16 ⟨by decide, by decide⟩) rfl) (g := (mkF m 34 #[.val (.ref a9_0), .val (.int (0 : Int32)), .val (.long q9_2), .second, .val (.int (2 : Int32))] [(.int (1 : Int32)), (.ref w_tree_a9_0), (.int (1 : Int32)), (.ref w_tree_a9_0)])) rfl rfl (hb hby d9_34) _ ?_
      refine XS.lloadN X15.here hx rfl (hb hby d9_35) rfl ?_
      show Steps p.tables e below (T15.setTop (mkF m 36 #[.val (.ref a9_0), .val (.int (0 : Int32)), .val (.long q9_2), .second, .val (.int (2 : Int32))] [(.long q9_2), (.long t_w_tree_a9_0_1), (.int (1 : Int32)), (.ref w_tree_a9_0)])) _
      refine XS.ladd X15.here hx rfl (hb hby d9_36) rfl ?_
      refine st18 _ ?_
      refine XS.iload X18.here hx rfl (hb hby d9_38) rfl ?_
      show Steps p.tables e below (T18.setTop (mkF m 40 #[.val (.ref a9_0), .val (.int (0 : Int32)), .val (.long q9_2), .second, .val (.int (2 : Int32))] [(.int (2 : Int32))])) _
      refine XS.iload X18.here hx rfl (hb hby d9_40) rfl ?_
      refine XS.iload X18.here hx rfl (hb hby d9_42) rfl ?_
      refine XS.ineg X18.here hx rfl (hb hby d9_44) rfl ?_
      show Steps p.tables e below (T18.setTop (mkF m 45 #[.val (.ref a9_0), .val (.int (0 : Int32)), .val (.long q9_2), .second, .val (.int (2 : Int32))] [(.int (-2 : Int32)), (.int (2 : Int32)), (.int (2 : Int32))])) _
      refine XS.iand X18.here hx rfl (hb hby d9_45) rfl ?_
      refine XS.iadd X18.here hx rfl (hb hby d9_46) rfl ?_
      refine XS.istore X18.here hx rfl (hb hby d9_47) rfl (l' := #[.val (.ref a9_0), .val (.int (0 : Int32)), .val (.long q9_2), .second, .val (.int (4 : Int32))]) rfl ?_
      show Steps p.tables e below (T18.setTop (mkF m 49 #[.val (.ref a9_0), .val (.int (0 : Int32)), .val (.long q9_2), .second, .val (.int (4 : Int32))] [])) _
      refine XS.goto X18.here hx rfl (pc0 := 49) (pc' := 15) rfl (hb hby d9_49) (by decide) (by decide) ?_
      refine XS.iload X18.here hx rfl (hb hby d9_15) rfl ?_
      refine XS.aloadN X18.here hx rfl (hb hby d9_17) rfl rfl ?_
      show Steps p.tables e below (T18.setTop (mkF m 18 #[.val (.ref a9_0), .val (.int (0 : Int32)), .val (.long q9_2), .second, .val (.int (4 : Int32))] [(.ref a9_0), (.int (4 : Int32))])) _
      refine st20 _ ?_
      show Steps p.tables e below (T20.setTop (mkF m 21 #[.val (.ref a9_0), .val (.int (0 : Int32)), .val (.long q9_2), .second, .val (.int (4 : Int32))] [(.ref w_tree_a9_0), (.int (4 : Int32))])) _
      refine X20.arraylength hx (cell := cl21) (by rw [e20]; exact Ar21.1) (State.isArrayOf_alike hZ.alike Ar21.2.1) (g := (mkF m 21 #[.val (.ref a9_0), .val (.int (0 : Int32)), .val (.long q9_2), .second, .val (.int (4 : Int32))] [(.ref w_tree_a9_0), (.int (4 : Int32))])) rfl (rest := [(.int (4 : Int32))]) rfl (hb hby d9_21) _ ?_
      rw [len_of Sz21 Nz21]
      show Steps p.tables e below (T20.setTop (mkF m 22 #[.val (.ref a9_0), .val (.int (0 : Int32)), .val (.long q9_2), .second, .val (.int (4 : Int32))] [(.int (8 : Int32)), (.int (4 : Int32))])) _
      refine XS.icmpNo X20.here hx rfl (hb hby d9_22) rfl (flt (by decide : ¬ ((8 : Int32) < (4 : Int32)))).2.2.1 ?_
      refine XS.aloadN X20.here hx rfl (hb hby d9_25) rfl rfl ?_
      refine st22 _ ?_
      show Steps p.tables e below (T22.setTop (mkF m 29 #[.val (.ref a9_0), .val (.int (0 : Int32)), .val (.long q9_2), .second, .val (.int (4 : Int32))] [(.ref w_tree_a9_0)])) _
      refine XS.iload X22.here hx rfl (hb hby d9_29) rfl ?_
      refine XS.iconst X22.here hx rfl (hb hby d9_31) ?_
      refine XS.isub X22.here hx rfl (hb hby d9_32) rfl ?_
      show Steps p.tables e below (T22.setTop (mkF m 33 #[.val (.ref a9_0), .val (.int (0 : Int32)), .val (.long q9_2), .second, .val (.int (4 : Int32))] [(.int (3 : Int32)), (.ref w_tree_a9_0)])) _
      jvm_step X22.here [X22.here.top, hx, (hb hby d9_33), Value.category]
      refine X22.laload hx (j := (3 : Int32)) (v := (.long t_w_tree_a9_0_3)) (by rw [e22]; exact Ar23.1) (State.isArrayOf_alike hZ.alike Ar23.2.1) Ar23.2.2 (inb_of Sz23 ⟨by decide, by decide⟩) (Hh23.at (inb_of Sz23 ⟨by decide, by decide⟩) rfl) (g := (mkF m 34 #[.val (.ref a9_0), .val (.int (0 : Int32)), .val (.long q9_2), .second, .val (.int (4 : Int32))] [(.int (3 : Int32)), (.ref w_tree_a9_0), (.int (3 : Int32)), (.ref w_tree_a9_0)])) rfl rfl (hb hby d9_34) _ ?_
      refine XS.lloadN X22.here hx rfl (hb hby d9_35) rfl ?_
      show Steps p.tables e below (T22.setTop (mkF m 36 #[.val (.ref a9_0), .val (.int (0 : Int32)), .val (.long q9_2), .second, .val (.int (4 : Int32))] [(.long q9_2), (.long t_w_tree_a9_0_3), (.int (3 : Int32)), (.ref w_tree_a9_0)])) _
      refine XS.ladd X22.here hx rfl (hb hby d9_36) rfl ?_
      refine st25 _ ?_
      refine XS.iload X25.here hx rfl (hb hby d9_38) rfl ?_
      show Steps p.tables e below (T25.setTop (mkF m 40 #[.val (.ref a9_0), .val (.int (0 : Int32)), .val (.long q9_2), .second, .val (.int (4 : Int32))] [(.int (4 : Int32))])) _
      refine XS.iload X25.here hx rfl (hb hby d9_40) rfl ?_
      refine XS.iload X25.here hx rfl (hb hby d9_42) rfl ?_
      refine XS.ineg X25.here hx rfl (hb hby d9_44) rfl ?_
      show Steps p.tables e below (T25.setTop (mkF m 45 #[.val (.ref a9_0), .val (.int (0 : Int32)), .val (.long q9_2), .second, .val (.int (4 : Int32))] [(.int (-4 : Int32)), (.int (4 : Int32)), (.int (4 : Int32))])) _
      refine XS.iand X25.here hx rfl (hb hby d9_45) rfl ?_
      refine XS.iadd X25.here hx rfl (hb hby d9_46) rfl ?_
      refine XS.istore X25.here hx rfl (hb hby d9_47) rfl (l' := #[.val (.ref a9_0), .val (.int (0 : Int32)), .val (.long q9_2), .second, .val (.int (8 : Int32))]) rfl ?_
      show Steps p.tables e below (T25.setTop (mkF m 49 #[.val (.ref a9_0), .val (.int (0 : Int32)), .val (.long q9_2), .second, .val (.int (8 : Int32))] [])) _
      refine XS.goto X25.here hx rfl (pc0 := 49) (pc' := 15) rfl (hb hby d9_49) (by decide) (by decide) ?_
      refine XS.iload X25.here hx rfl (hb hby d9_15) rfl ?_
      refine XS.aloadN X25.here hx rfl (hb hby d9_17) rfl rfl ?_
      show Steps p.tables e below (T25.setTop (mkF m 18 #[.val (.ref a9_0), .val (.int (0 : Int32)), .val (.long q9_2), .second, .val (.int (8 : Int32))] [(.ref a9_0), (.int (8 : Int32))])) _
      refine st27 _ ?_
      show Steps p.tables e below (T27.setTop (mkF m 21 #[.val (.ref a9_0), .val (.int (0 : Int32)), .val (.long q9_2), .second, .val (.int (8 : Int32))] [(.ref w_tree_a9_0), (.int (8 : Int32))])) _
      refine X27.arraylength hx (cell := cl28) (by rw [e27]; exact Ar28.1) (State.isArrayOf_alike hZ.alike Ar28.2.1) (g := (mkF m 21 #[.val (.ref a9_0), .val (.int (0 : Int32)), .val (.long q9_2), .second, .val (.int (8 : Int32))] [(.ref w_tree_a9_0), (.int (8 : Int32))])) rfl (rest := [(.int (8 : Int32))]) rfl (hb hby d9_21) _ ?_
      rw [len_of Sz28 Nz28]
      show Steps p.tables e below (T27.setTop (mkF m 22 #[.val (.ref a9_0), .val (.int (0 : Int32)), .val (.long q9_2), .second, .val (.int (8 : Int32))] [(.int (8 : Int32)), (.int (8 : Int32))])) _
      refine XS.icmpNo X27.here hx rfl (hb hby d9_22) rfl (flt (by decide : ¬ ((8 : Int32) < (8 : Int32)))).2.2.1 ?_
      refine XS.aloadN X27.here hx rfl (hb hby d9_25) rfl rfl ?_
      refine st29 _ ?_
      show Steps p.tables e below (T29.setTop (mkF m 29 #[.val (.ref a9_0), .val (.int (0 : Int32)), .val (.long q9_2), .second, .val (.int (8 : Int32))] [(.ref w_tree_a9_0)])) _
      refine XS.iload X29.here hx rfl (hb hby d9_29) rfl ?_
      refine XS.iconst X29.here hx rfl (hb hby d9_31) ?_
      refine XS.isub X29.here hx rfl (hb hby d9_32) rfl ?_
      show Steps p.tables e below (T29.setTop (mkF m 33 #[.val (.ref a9_0), .val (.int (0 : Int32)), .val (.long q9_2), .second, .val (.int (8 : Int32))] [(.int (7 : Int32)), (.ref w_tree_a9_0)])) _
      jvm_step X29.here [X29.here.top, hx, (hb hby d9_33), Value.category]
      refine X29.laload hx (j := (7 : Int32)) (v := (.long t_w_tree_a9_0_7)) (by rw [e29]; exact Ar30.1) (State.isArrayOf_alike hZ.alike Ar30.2.1) Ar30.2.2 (inb_of Sz30 ⟨by decide, by decide⟩) (Hh30.at (inb_of Sz30 ⟨by decide, by decide⟩) rfl) (g := (mkF m 34 #[.val (.ref a9_0), .val (.int (0 : Int32)), .val (.long q9_2), .second, .val (.int (8 : Int32))] [(.int (7 : Int32)), (.ref w_tree_a9_0), (.int (7 : Int32)), (.ref w_tree_a9_0)])) rfl rfl (hb hby d9_34) _ ?_
      refine XS.lloadN X29.here hx rfl (hb hby d9_35) rfl ?_
      show Steps p.tables e below (T29.setTop (mkF m 36 #[.val (.ref a9_0), .val (.int (0 : Int32)), .val (.long q9_2), .second, .val (.int (8 : Int32))] [(.long q9_2), (.long t_w_tree_a9_0_7), (.int (7 : Int32)), (.ref w_tree_a9_0)])) _
      refine XS.ladd X29.here hx rfl (hb hby d9_36) rfl ?_
      refine st32 _ ?_
      refine XS.iload X32.here hx rfl (hb hby d9_38) rfl ?_
      show Steps p.tables e below (T32.setTop (mkF m 40 #[.val (.ref a9_0), .val (.int (0 : Int32)), .val (.long q9_2), .second, .val (.int (8 : Int32))] [(.int (8 : Int32))])) _
      refine XS.iload X32.here hx rfl (hb hby d9_40) rfl ?_
      refine XS.iload X32.here hx rfl (hb hby d9_42) rfl ?_
      refine XS.ineg X32.here hx rfl (hb hby d9_44) rfl ?_
      show Steps p.tables e below (T32.setTop (mkF m 45 #[.val (.ref a9_0), .val (.int (0 : Int32)), .val (.long q9_2), .second, .val (.int (8 : Int32))] [(.int (-8 : Int32)), (.int (8 : Int32)), (.int (8 : Int32))])) _
      refine XS.iand X32.here hx rfl (hb hby d9_45) rfl ?_
      refine XS.iadd X32.here hx rfl (hb hby d9_46) rfl ?_
      refine XS.istore X32.here hx rfl (hb hby d9_47) rfl (l' := #[.val (.ref a9_0), .val (.int (0 : Int32)), .val (.long q9_2), .second, .val (.int (16 : Int32))]) rfl ?_
      show Steps p.tables e below (T32.setTop (mkF m 49 #[.val (.ref a9_0), .val (.int (0 : Int32)), .val (.long q9_2), .second, .val (.int (16 : Int32))] [])) _
      refine XS.goto X32.here hx rfl (pc0 := 49) (pc' := 15) rfl (hb hby d9_49) (by decide) (by decide) ?_
      refine XS.iload X32.here hx rfl (hb hby d9_15) rfl ?_
      refine XS.aloadN X32.here hx rfl (hb hby d9_17) rfl rfl ?_
      show Steps p.tables e below (T32.setTop (mkF m 18 #[.val (.ref a9_0), .val (.int (0 : Int32)), .val (.long q9_2), .second, .val (.int (16 : Int32))] [(.ref a9_0), (.int (16 : Int32))])) _
      refine st34 _ ?_
      show Steps p.tables e below (T34.setTop (mkF m 21 #[.val (.ref a9_0), .val (.int (0 : Int32)), .val (.long q9_2), .second, .val (.int (16 : Int32))] [(.ref w_tree_a9_0), (.int (16 : Int32))])) _
      refine X34.arraylength hx (cell := cl35) (by rw [e34]; exact Ar35.1) (State.isArrayOf_alike hZ.alike Ar35.2.1) (g := (mkF m 21 #[.val (.ref a9_0), .val (.int (0 : Int32)), .val (.long q9_2), .second, .val (.int (16 : Int32))] [(.ref w_tree_a9_0), (.int (16 : Int32))])) rfl (rest := [(.int (16 : Int32))]) rfl (hb hby d9_21) _ ?_
      rw [len_of Sz35 Nz35]
      show Steps p.tables e below (T34.setTop (mkF m 22 #[.val (.ref a9_0), .val (.int (0 : Int32)), .val (.long q9_2), .second, .val (.int (16 : Int32))] [(.int (8 : Int32)), (.int (16 : Int32))])) _
      refine XS.icmpYes X34.here hx rfl (pc0 := 22) (pc' := 52) rfl (hb hby d9_22) rfl (tlt (by decide : (8 : Int32) < (16 : Int32))).2.2.1 (by decide) (by decide) ?_
      show Steps p.tables e below (T34.setTop (mkF m 52 #[.val (.ref a9_0), .val (.int (0 : Int32)), .val (.long q9_2), .second, .val (.int (16 : Int32))] [])) _
      exact X34.returnOut hx Bd.returns (hb hby d9_52) hr
    · have f141 := (((((E_a9_0.wr W3).wr W11).wr W18).wr W25).wr W32)
      have f142 := (((((F_size_a9_0.other W3 (Or.inr (slot_ne (Or.inl (ow29 hw)) (Or.inl (ow51 hw)) (by decide) (t := .int) (t' := .long) (by decide) (by decide)))).other W11 (Or.inl (Ne.symm ne_w_tree_a9_0_a9_0))).other W18 (Or.inl (Ne.symm ne_w_tree_a9_0_a9_0))).other W25 (Or.inl (Ne.symm ne_w_tree_a9_0_a9_0))).other W32 (Or.inl (Ne.symm ne_w_tree_a9_0_a9_0)))
      have f143 := ((((F3.other W11 (Or.inl (Ne.symm ne_w_tree_a9_0_a9_0))).other W18 (Or.inl (Ne.symm ne_w_tree_a9_0_a9_0))).other W25 (Or.inl (Ne.symm ne_w_tree_a9_0_a9_0))).other W32 (Or.inl (Ne.symm ne_w_tree_a9_0_a9_0)))
      show Q_rm9_6 Z a9_0 p9_1 q9_2 w_tree_a9_0 w_total_a9_0 kc_w_tree_a9_0 t_w_tree_a9_0_0 t_w_tree_a9_0_1 t_w_tree_a9_0_2 t_w_tree_a9_0_3 t_w_tree_a9_0_4 t_w_tree_a9_0_5 t_w_tree_a9_0_6 t_w_tree_a9_0_7 h0 n0 _ T34.heap _
      rw [e34]
      exact ⟨rfl, N32, K32, f141, f33, f142, f143, (own_arv V32 (own_cons (congrArg Value.long (if_pos hb1)) (own_cons (congrArg Value.long (if_pos hb1)) (own_cons (congrArg Value.long (if_pos hb1)) (own_cons (congrArg Value.long (if_pos hb1)) (own_cons (congrArg Value.long (if_pos hb1)) (own_cons (congrArg Value.long (if_pos hb1)) (own_cons rfl (own_cons rfl rfl)))))))))⟩
  · have own_u1 : True := trivial
    by_cases hb36 : p9_1 = (1 : Int32)
    · have own_t36 : True := trivial
      obtain ⟨T37, X37, e37, st37⟩ := getF X0 hx hZ hown (host := "") (Or.inl (ow50 hw)) Via.refl e0 F_total_a9_0 (g := (mkF m 2 #[.val (.ref a9_0), .val (.int (1 : Int32)), .val (.long q9_2), .second, .unset] [(.ref a9_0), (.ref a9_0)])) rfl rfl (hb hby d9_2)
      obtain ⟨T38, h38, X38, e38, W38, st38⟩ := putF X37 hx hZ hown (host := "") (Or.inl (ow50 hw)) Via.refl e37 F_total_a9_0 E_a9_0 (Or.inl (ow51 hw)) (ow7 hw) (ty := .long) (by decide) rfl rfl (g := (mkF m 7 #[.val (.ref a9_0), .val (.int (1 : Int32)), .val (.long q9_2), .second, .unset] [(.long (w_total_a9_0 + q9_2)), (.ref a9_0)])) rfl rfl (hb hby d9_7)
      have F38 := F_total_a9_0.same W38
      have K38 : Keep h0 h38 [a9_0, w_tree_a9_0] := (Keep.refl h0 [a9_0, w_tree_a9_0]).wr W38 (Or.inl (List.mem_of_getElem? (i := 0) rfl))
      have Z38 : n0 ≤ h38.size := Nat.le_trans Z0 K38.1
      have N38 := Fr.snoc X38 N0 g_a9_0
      have f39 := (F_tree_a9_0.other W38 (Or.inr (slot_ne (Or.inl (ow17 hw)) (Or.inl (ow51 hw)) (by decide) (t := (.array .long)) (t' := .long) (by decide) (by decide))))
      obtain ⟨T40, X40, e40, st40⟩ := getF X38 hx hZ hown (host := "") (Or.inl (ow16 hw)) Via.refl e38 f39 (g := (mkF m 18 #[.val (.ref a9_0), .val (.int (1 : Int32)), .val (.long q9_2), .second, .val (.int (2 : Int32))] [(.ref a9_0), (.int (2 : Int32))])) rfl rfl (hb hby d9_18)
      have f41 := (V_w_tree_a9_0.other W38 ne_w_tree_a9_0_a9_0)
      obtain ⟨cl42, Ar42, qk42, Sz42, Nz42, Hh42, Gf42⟩ := id f41
      obtain ⟨T43, X43, e43, st43⟩ := getF X40 hx hZ hown (host := "") (Or.inl (ow16 hw)) Via.refl e40 f39 (g := (mkF m 26 #[.val (.ref a9_0), .val (.int (1 : Int32)), .val (.long q9_2), .second, .val (.int (2 : Int32))] [(.ref a9_0)])) rfl rfl (hb hby d9_26)
      obtain ⟨cl44, Ar44, qk44, Sz44, Nz44, Hh44, Gf44⟩ := id f41
      obtain ⟨cl45, Ar45, qk45, Sz45, Nz45, Hh45, Gf45⟩ := id f41
      obtain ⟨T46, h46, X46, e46, W46, st46⟩ := stJ X43 hx hZ e43 Ar45 (j := (1 : Int32)) (inb_of Sz45 ⟨by decide, by decide⟩) (g := (mkF m 37 #[.val (.ref a9_0), .val (.int (1 : Int32)), .val (.long q9_2), .second, .val (.int (2 : Int32))] [(.long (t_w_tree_a9_0_1 + q9_2)), (.int (1 : Int32)), (.ref w_tree_a9_0)])) rfl rfl (hb hby d9_37)
      have V46 : Arv Z h46 w_tree_a9_0 kc_w_tree_a9_0 .long (8 : Int32) [(.long t_w_tree_a9_0_0), (.long (t_w_tree_a9_0_1 + q9_2)), (.long t_w_tree_a9_0_2), (.long t_w_tree_a9_0_3), (.long t_w_tree_a9_0_4), (.long t_w_tree_a9_0_5), (.long t_w_tree_a9_0_6), (.long t_w_tree_a9_0_7)] (.long (0 : Int64)) := Arv.set Ar45 qk45 Sz45 Nz45 Hh45 Gf45 rfl W46 1 rfl (Nat.le_of_ble_eq_true rfl)
      have K46 : Keep h0 h46 [a9_0, w_tree_a9_0] := K38.wr W46 (Or.inl (List.mem_of_getElem? (i := 1) rfl))
      have Z46 : n0 ≤ h46.size := Nat.le_trans Z0 K46.1
      have N46 := Fr.snoc X46 N38 g_w_tree_a9_0
      have f47 := (f39.other W46 (Or.inl (Ne.symm ne_w_tree_a9_0_a9_0)))
      obtain ⟨T48, X48, e48, st48⟩ := getF X46 hx hZ hown (host := "") (Or.inl (ow16 hw)) Via.refl e46 f47 (g := (mkF m 18 #[.val (.ref a9_0), .val (.int (1 : Int32)), .val (.long q9_2), .second, .val (.int (4 : Int32))] [(.ref a9_0), (.int (4 : Int32))])) rfl rfl (hb hby d9_18)
      obtain ⟨cl49, Ar49, qk49, Sz49, Nz49, Hh49, Gf49⟩ := id V46
      obtain ⟨T50, X50, e50, st50⟩ := getF X48 hx hZ hown (host := "") (Or.inl (ow16 hw)) Via.refl e48 f47 (g := (mkF m 26 #[.val (.ref a9_0), .val (.int (1 : Int32)), .val (.long q9_2), .second, .val (.int (4 : Int32))] [(.ref a9_0)])) rfl rfl (hb hby d9_26)
      obtain ⟨cl51, Ar51, qk51, Sz51, Nz51, Hh51, Gf51⟩ := id V46
      obtain ⟨cl52, Ar52, qk52, Sz52, Nz52, Hh52, Gf52⟩ := id V46
      obtain ⟨T53, h53, X53, e53, W53, st53⟩ := stJ X50 hx hZ e50 Ar52 (j := (3 : Int32)) (inb_of Sz52 ⟨by decide, by decide⟩) (g := (mkF m 37 #[.val (.ref a9_0), .val (.int (1 : Int32)), .val (.long q9_2), .second, .val (.int (4 : Int32))] [(.long (t_w_tree_a9_0_3 + q9_2)), (.int (3 : Int32)), (.ref w_tree_a9_0)])) rfl rfl (hb hby d9_37)
      have V53 : Arv Z h53 w_tree_a9_0 kc_w_tree_a9_0 .long (8 : Int32) [(.long t_w_tree_a9_0_0), (.long (t_w_tree_a9_0_1 + q9_2)), (.long t_w_tree_a9_0_2), (.long (t_w_tree_a9_0_3 + q9_2)), (.long t_w_tree_a9_0_4), (.long t_w_tree_a9_0_5), (.long t_w_tree_a9_0_6), (.long t_w_tree_a9_0_7)] (.long (0 : Int64)) := Arv.set Ar52 qk52 Sz52 Nz52 Hh52 Gf52 rfl W53 3 rfl (Nat.le_of_ble_eq_true rfl)
      have K53 : Keep h0 h53 [a9_0, w_tree_a9_0] := K46.wr W53 (Or.inl (List.mem_of_getElem? (i := 1) rfl))
      have Z53 : n0 ≤ h53.size := Nat.le_trans Z0 K53.1
      have N53 := Fr.snoc X53 N46 g_w_tree_a9_0
      have f54 := (f47.other W53 (Or.inl (Ne.symm ne_w_tree_a9_0_a9_0)))
      obtain ⟨T55, X55, e55, st55⟩ := getF X53 hx hZ hown (host := "") (Or.inl (ow16 hw)) Via.refl e53 f54 (g := (mkF m 18 #[.val (.ref a9_0), .val (.int (1 : Int32)), .val (.long q9_2), .second, .val (.int (8 : Int32))] [(.ref a9_0), (.int (8 : Int32))])) rfl rfl (hb hby d9_18)
      obtain ⟨cl56, Ar56, qk56, Sz56, Nz56, Hh56, Gf56⟩ := id V53
      obtain ⟨T57, X57, e57, st57⟩ := getF X55 hx hZ hown (host := "") (Or.inl (ow16 hw)) Via.refl e55 f54 (g := (mkF m 26 #[.val (.ref a9_0), .val (.int (1 : Int32)), .val (.long q9_2), .second, .val (.int (8 : Int32))] [(.ref a9_0)])) rfl rfl (hb hby d9_26)
      obtain ⟨cl58, Ar58, qk58, Sz58, Nz58, Hh58, Gf58⟩ := id V53
      obtain ⟨cl59, Ar59, qk59, Sz59, Nz59, Hh59, Gf59⟩ := id V53
      obtain ⟨T60, h60, X60, e60, W60, st60⟩ := stJ X57 hx hZ e57 Ar59 (j := (7 : Int32)) (inb_of Sz59 ⟨by decide, by decide⟩) (g := (mkF m 37 #[.val (.ref a9_0), .val (.int (1 : Int32)), .val (.long q9_2), .second, .val (.int (8 : Int32))] [(.long (t_w_tree_a9_0_7 + q9_2)), (.int (7 : Int32)), (.ref w_tree_a9_0)])) rfl rfl (hb hby d9_37)
      have V60 : Arv Z h60 w_tree_a9_0 kc_w_tree_a9_0 .long (8 : Int32) [(.long t_w_tree_a9_0_0), (.long (t_w_tree_a9_0_1 + q9_2)), (.long t_w_tree_a9_0_2), (.long (t_w_tree_a9_0_3 + q9_2)), (.long t_w_tree_a9_0_4), (.long t_w_tree_a9_0_5), (.long t_w_tree_a9_0_6), (.long (t_w_tree_a9_0_7 + q9_2))] (.long (0 : Int64)) := Arv.set Ar59 qk59 Sz59 Nz59 Hh59 Gf59 rfl W60 7 rfl (Nat.le_of_ble_eq_true rfl)
      have K60 : Keep h0 h60 [a9_0, w_tree_a9_0] := K53.wr W60 (Or.inl (List.mem_of_getElem? (i := 1) rfl))
      have Z60 : n0 ≤ h60.size := Nat.le_trans Z0 K60.1
      have N60 := Fr.snoc X60 N53 g_w_tree_a9_0
      have f61 := (f54.other W60 (Or.inl (Ne.symm ne_w_tree_a9_0_a9_0)))
      obtain ⟨T62, X62, e62, st62⟩ := getF X60 hx hZ hown (host := "") (Or.inl (ow16 hw)) Via.refl e60 f61 (g := (mkF m 18 #[.val (.ref a9_0), .val (.int (1 : Int32)), .val (.long q9_2), .second, .val (.int (16 : Int32))] [(.ref a9_0), (.int (16 : Int32))])) rfl rfl (hb hby d9_18)
      obtain ⟨cl63, Ar63, qk63, Sz63, Nz63, Hh63, Gf63⟩ := id V60
      obtain ⟨fs, hr, hrun, hended, hW, hsame⟩ := X62.leave (v := none) (fun _ => rfl)
      refine ⟨_, _, pre0 _ ?_, hrun, hended, _, _, rfl, ?_, ⟨_, rfl⟩, hW, hsame.mono (by decide) (by decide)⟩
      · show Steps p.tables e below (s₁.setTop (mkF m 0 #[.val (.ref a9_0), .val (.int p9_1), .val (.long q9_2), .second, .unset] [])) _
        rw [hb36]
        show Steps p.tables e below (s₁.setTop (mkF m 0 #[.val (.ref a9_0), .val (.int (1 : Int32)), .val (.long q9_2), .second, .unset] [])) _
        refine XS.aloadN X0.here hx rfl (hb hby d9_0) rfl rfl ?_
        refine XS.dup X0.here hx rfl (hb hby d9_1) rfl rfl ?_
        refine st37 _ ?_
        show Steps p.tables e below (T37.setTop (mkF m 5 #[.val (.ref a9_0), .val (.int (1 : Int32)), .val (.long q9_2), .second, .unset] [(.long w_total_a9_0), (.ref a9_0)])) _
        refine XS.lloadN X37.here hx rfl (hb hby d9_5) rfl ?_
        refine XS.ladd X37.here hx rfl (hb hby d9_6) rfl ?_
        refine st38 _ ?_
        show Steps p.tables e below (T38.setTop (mkF m 10 #[.val (.ref a9_0), .val (.int (1 : Int32)), .val (.long q9_2), .second, .unset] [])) _
        refine XS.iloadN X38.here hx rfl (hb hby d9_10) rfl ?_
        refine XS.iconst X38.here hx rfl (hb hby d9_11) ?_
        refine XS.iadd X38.here hx rfl (hb hby d9_12) rfl ?_
        show Steps p.tables e below (T38.setTop (mkF m 13 #[.val (.ref a9_0), .val (.int (1 : Int32)), .val (.long q9_2), .second, .unset] [(.int (2 : Int32))])) _
        refine XS.istore X38.here hx rfl (hb hby d9_13) rfl (l' := #[.val (.ref a9_0), .val (.int (1 : Int32)), .val (.long q9_2), .second, .val (.int (2 : Int32))]) rfl ?_
        refine XS.iload X38.here hx rfl (hb hby d9_15) rfl ?_
        refine XS.aloadN X38.here hx rfl (hb hby d9_17) rfl rfl ?_
        show Steps p.tables e below (T38.setTop (mkF m 18 #[.val (.ref a9_0), .val (.int (1 : Int32)), .val (.long q9_2), .second, .val (.int (2 : Int32))] [(.ref a9_0), (.int (2 : Int32))])) _
        refine st40 _ ?_
        show Steps p.tables e below (T40.setTop (mkF m 21 #[.val (.ref a9_0), .val (.int (1 : Int32)), .val (.long q9_2), .second, .val (.int (2 : Int32))] [(.ref w_tree_a9_0), (.int (2 : Int32))])) _
        refine X40.arraylength hx (cell := cl42) (by rw [e40]; exact Ar42.1) (State.isArrayOf_alike hZ.alike Ar42.2.1) (g := (mkF m 21 #[.val (.ref a9_0), .val (.int (1 : Int32)), .val (.long q9_2), .second, .val (.int (2 : Int32))] [(.ref w_tree_a9_0), (.int (2 : Int32))])) rfl (rest := [(.int (2 : Int32))]) rfl (hb hby d9_21) _ ?_
        rw [len_of Sz42 Nz42]
        show Steps p.tables e below (T40.setTop (mkF m 22 #[.val (.ref a9_0), .val (.int (1 : Int32)), .val (.long q9_2), .second, .val (.int (2 : Int32))] [(.int (8 : Int32)), (.int (2 : Int32))])) _
        refine XS.icmpNo X40.here hx rfl (hb hby d9_22) rfl (flt (by decide : ¬ ((8 : Int32) < (2 : Int32)))).2.2.1 ?_
        refine XS.aloadN X40.here hx rfl (hb hby d9_25) rfl rfl ?_
        refine st43 _ ?_
        show Steps p.tables e below (T43.setTop (mkF m 29 #[.val (.ref a9_0), .val (.int (1 : Int32)), .val (.long q9_2), .second, .val (.int (2 : Int32))] [(.ref w_tree_a9_0)])) _
        refine XS.iload X43.here hx rfl (hb hby d9_29) rfl ?_
        refine XS.iconst X43.here hx rfl (hb hby d9_31) ?_
        refine XS.isub X43.here hx rfl (hb hby d9_32) rfl ?_
        show Steps p.tables e below (T43.setTop (mkF m 33 #[.val (.ref a9_0), .val (.int (1 : Int32)), .val (.long q9_2), .second, .val (.int (2 : Int32))] [(.int (1 : Int32)), (.ref w_tree_a9_0)])) _
        jvm_step X43.here [X43.here.top, hx, (hb hby d9_33), Value.category]
        refine X43.laload hx (j := (1 : Int32)) (v := (.long t_w_tree_a9_0_1)) (by rw [e43]; exact Ar44.1) (State.isArrayOf_alike hZ.alike Ar44.2.1) Ar44.2.2 (inb_of Sz44 ⟨by decide, by decide⟩) (Hh44.at (inb_of Sz44 ⟨by decide, by decide⟩) rfl) (g := (mkF m 34 #[.val (.ref a9_0), .val (.int (1 : Int32)), .val (.long q9_2), .second, .val (.int (2 : Int32))] [(.int (1 : Int32)), (.ref w_tree_a9_0), (.int (1 : Int32)), (.ref w_tree_a9_0)])) rfl rfl (hb hby d9_34) _ ?_
        refine XS.lloadN X43.here hx rfl (hb hby d9_35) rfl ?_
        show Steps p.tables e below (T43.setTop (mkF m 36 #[.val (.ref a9_0), .val (.int (1 : Int32)), .val (.long q9_2), .second, .val (.int (2 : Int32))] [(.long q9_2), (.long t_w_tree_a9_0_1), (.int (1 : Int32)), (.ref w_tree_a9_0)])) _
        refine XS.ladd X43.here hx rfl (hb hby d9_36) rfl ?_
        refine st46 _ ?_
        refine XS.iload X46.here hx rfl (hb hby d9_38) rfl ?_
        show Steps p.tables e below (T46.setTop (mkF m 40 #[.val (.ref a9_0), .val (.int (1 : Int32)), .val (.long q9_2), .second, .val (.int (2 : Int32))] [(.int (2 : Int32))])) _
        refine XS.iload X46.here hx rfl (hb hby d9_40) rfl ?_
        refine XS.iload X46.here hx rfl (hb hby d9_42) rfl ?_
        refine XS.ineg X46.here hx rfl (hb hby d9_44) rfl ?_
        show Steps p.tables e below (T46.setTop (mkF m 45 #[.val (.ref a9_0), .val (.int (1 : Int32)), .val (.long q9_2), .second, .val (.int (2 : Int32))] [(.int (-2 : Int32)), (.int (2 : Int32)), (.int (2 : Int32))])) _
        refine XS.iand X46.here hx rfl (hb hby d9_45) rfl ?_
        refine XS.iadd X46.here hx rfl (hb hby d9_46) rfl ?_
        refine XS.istore X46.here hx rfl (hb hby d9_47) rfl (l' := #[.val (.ref a9_0), .val (.int (1 : Int32)), .val (.long q9_2), .second, .val (.int (4 : Int32))]) rfl ?_
        show Steps p.tables e below (T46.setTop (mkF m 49 #[.val (.ref a9_0), .val (.int (1 : Int32)), .val (.long q9_2), .second, .val (.int (4 : Int32))] [])) _
        refine XS.goto X46.here hx rfl (pc0 := 49) (pc' := 15) rfl (hb hby d9_49) (by decide) (by decide) ?_
        refine XS.iload X46.here hx rfl (hb hby d9_15) rfl ?_
        refine XS.aloadN X46.here hx rfl (hb hby d9_17) rfl rfl ?_
        show Steps p.tables e below (T46.setTop (mkF m 18 #[.val (.ref a9_0), .val (.int (1 : Int32)), .val (.long q9_2), .second, .val (.int (4 : Int32))] [(.ref a9_0), (.int (4 : Int32))])) _
        refine st48 _ ?_
        show Steps p.tables e below (T48.setTop (mkF m 21 #[.val (.ref a9_0), .val (.int (1 : Int32)), .val (.long q9_2), .second, .val (.int (4 : Int32))] [(.ref w_tree_a9_0), (.int (4 : Int32))])) _
        refine X48.arraylength hx (cell := cl49) (by rw [e48]; exact Ar49.1) (State.isArrayOf_alike hZ.alike Ar49.2.1) (g := (mkF m 21 #[.val (.ref a9_0), .val (.int (1 : Int32)), .val (.long q9_2), .second, .val (.int (4 : Int32))] [(.ref w_tree_a9_0), (.int (4 : Int32))])) rfl (rest := [(.int (4 : Int32))]) rfl (hb hby d9_21) _ ?_
        rw [len_of Sz49 Nz49]
        show Steps p.tables e below (T48.setTop (mkF m 22 #[.val (.ref a9_0), .val (.int (1 : Int32)), .val (.long q9_2), .second, .val (.int (4 : Int32))] [(.int (8 : Int32)), (.int (4 : Int32))])) _
        refine XS.icmpNo X48.here hx rfl (hb hby d9_22) rfl (flt (by decide : ¬ ((8 : Int32) < (4 : Int32)))).2.2.1 ?_
        refine XS.aloadN X48.here hx rfl (hb hby d9_25) rfl rfl ?_
        refine st50 _ ?_
        show Steps p.tables e below (T50.setTop (mkF m 29 #[.val (.ref a9_0), .val (.int (1 : Int32)), .val (.long q9_2), .second, .val (.int (4 : Int32))] [(.ref w_tree_a9_0)])) _
        refine XS.iload X50.here hx rfl (hb hby d9_29) rfl ?_
        refine XS.iconst X50.here hx rfl (hb hby d9_31) ?_
        refine XS.isub X50.here hx rfl (hb hby d9_32) rfl ?_
        show Steps p.tables e below (T50.setTop (mkF m 33 #[.val (.ref a9_0), .val (.int (1 : Int32)), .val (.long q9_2), .second, .val (.int (4 : Int32))] [(.int (3 : Int32)), (.ref w_tree_a9_0)])) _
        jvm_step X50.here [X50.here.top, hx, (hb hby d9_33), Value.category]
        refine X50.laload hx (j := (3 : Int32)) (v := (.long t_w_tree_a9_0_3)) (by rw [e50]; exact Ar51.1) (State.isArrayOf_alike hZ.alike Ar51.2.1) Ar51.2.2 (inb_of Sz51 ⟨by decide, by decide⟩) (Hh51.at (inb_of Sz51 ⟨by decide, by decide⟩) rfl) (g := (mkF m 34 #[.val (.ref a9_0), .val (.int (1 : Int32)), .val (.long q9_2), .second, .val (.int (4 : Int32))] [(.int (3 : Int32)), (.ref w_tree_a9_0), (.int (3 : Int32)), (.ref w_tree_a9_0)])) rfl rfl (hb hby d9_34) _ ?_
        refine XS.lloadN X50.here hx rfl (hb hby d9_35) rfl ?_
        show Steps p.tables e below (T50.setTop (mkF m 36 #[.val (.ref a9_0), .val (.int (1 : Int32)), .val (.long q9_2), .second, .val (.int (4 : Int32))] [(.long q9_2), (.long t_w_tree_a9_0_3), (.int (3 : Int32)), (.ref w_tree_a9_0)])) _
        refine XS.ladd X50.here hx rfl (hb hby d9_36) rfl ?_
        refine st53 _ ?_
        refine XS.iload X53.here hx rfl (hb hby d9_38) rfl ?_
        show Steps p.tables e below (T53.setTop (mkF m 40 #[.val (.ref a9_0), .val (.int (1 : Int32)), .val (.long q9_2), .second, .val (.int (4 : Int32))] [(.int (4 : Int32))])) _
        refine XS.iload X53.here hx rfl (hb hby d9_40) rfl ?_
        refine XS.iload X53.here hx rfl (hb hby d9_42) rfl ?_
        refine XS.ineg X53.here hx rfl (hb hby d9_44) rfl ?_
        show Steps p.tables e below (T53.setTop (mkF m 45 #[.val (.ref a9_0), .val (.int (1 : Int32)), .val (.long q9_2), .second, .val (.int (4 : Int32))] [(.int (-4 : Int32)), (.int (4 : Int32)), (.int (4 : Int32))])) _
        refine XS.iand X53.here hx rfl (hb hby d9_45) rfl ?_
        refine XS.iadd X53.here hx rfl (hb hby d9_46) rfl ?_
        refine XS.istore X53.here hx rfl (hb hby d9_47) rfl (l' := #[.val (.ref a9_0), .val (.int (1 : Int32)), .val (.long q9_2), .second, .val (.int (8 : Int32))]) rfl ?_
        show Steps p.tables e below (T53.setTop (mkF m 49 #[.val (.ref a9_0), .val (.int (1 : Int32)), .val (.long q9_2), .second, .val (.int (8 : Int32))] [])) _
        refine XS.goto X53.here hx rfl (pc0 := 49) (pc' := 15) rfl (hb hby d9_49) (by decide) (by decide) ?_
        refine XS.iload X53.here hx rfl (hb hby d9_15) rfl ?_
        refine XS.aloadN X53.here hx rfl (hb hby d9_17) rfl rfl ?_
        show Steps p.tables e below (T53.setTop (mkF m 18 #[.val (.ref a9_0), .val (.int (1 : Int32)), .val (.long q9_2), .second, .val (.int (8 : Int32))] [(.ref a9_0), (.int (8 : Int32))])) _
        refine st55 _ ?_
        show Steps p.tables e below (T55.setTop (mkF m 21 #[.val (.ref a9_0), .val (.int (1 : Int32)), .val (.long q9_2), .second, .val (.int (8 : Int32))] [(.ref w_tree_a9_0), (.int (8 : Int32))])) _
        refine X55.arraylength hx (cell := cl56) (by rw [e55]; exact Ar56.1) (State.isArrayOf_alike hZ.alike Ar56.2.1) (g := (mkF m 21 #[.val (.ref a9_0), .val (.int (1 : Int32)), .val (.long q9_2), .second, .val (.int (8 : Int32))] [(.ref w_tree_a9_0), (.int (8 : Int32))])) rfl (rest := [(.int (8 : Int32))]) rfl (hb hby d9_21) _ ?_
        rw [len_of Sz56 Nz56]
        show Steps p.tables e below (T55.setTop (mkF m 22 #[.val (.ref a9_0), .val (.int (1 : Int32)), .val (.long q9_2), .second, .val (.int (8 : Int32))] [(.int (8 : Int32)), (.int (8 : Int32))])) _
        refine XS.icmpNo X55.here hx rfl (hb hby d9_22) rfl (flt (by decide : ¬ ((8 : Int32) < (8 : Int32)))).2.2.1 ?_
        refine XS.aloadN X55.here hx rfl (hb hby d9_25) rfl rfl ?_
        refine st57 _ ?_
        show Steps p.tables e below (T57.setTop (mkF m 29 #[.val (.ref a9_0), .val (.int (1 : Int32)), .val (.long q9_2), .second, .val (.int (8 : Int32))] [(.ref w_tree_a9_0)])) _
        refine XS.iload X57.here hx rfl (hb hby d9_29) rfl ?_
        refine XS.iconst X57.here hx rfl (hb hby d9_31) ?_
        refine XS.isub X57.here hx rfl (hb hby d9_32) rfl ?_
        show Steps p.tables e below (T57.setTop (mkF m 33 #[.val (.ref a9_0), .val (.int (1 : Int32)), .val (.long q9_2), .second, .val (.int (8 : Int32))] [(.int (7 : Int32)), (.ref w_tree_a9_0)])) _
        jvm_step X57.here [X57.here.top, hx, (hb hby d9_33), Value.category]
        refine X57.laload hx (j := (7 : Int32)) (v := (.long t_w_tree_a9_0_7)) (by rw [e57]; exact Ar58.1) (State.isArrayOf_alike hZ.alike Ar58.2.1) Ar58.2.2 (inb_of Sz58 ⟨by decide, by decide⟩) (Hh58.at (inb_of Sz58 ⟨by decide, by decide⟩) rfl) (g := (mkF m 34 #[.val (.ref a9_0), .val (.int (1 : Int32)), .val (.long q9_2), .second, .val (.int (8 : Int32))] [(.int (7 : Int32)), (.ref w_tree_a9_0), (.int (7 : Int32)), (.ref w_tree_a9_0)])) rfl rfl (hb hby d9_34) _ ?_
        refine XS.lloadN X57.here hx rfl (hb hby d9_35) rfl ?_
        show Steps p.tables e below (T57.setTop (mkF m 36 #[.val (.ref a9_0), .val (.int (1 : Int32)), .val (.long q9_2), .second, .val (.int (8 : Int32))] [(.long q9_2), (.long t_w_tree_a9_0_7), (.int (7 : Int32)), (.ref w_tree_a9_0)])) _
        refine XS.ladd X57.here hx rfl (hb hby d9_36) rfl ?_
        refine st60 _ ?_
        refine XS.iload X60.here hx rfl (hb hby d9_38) rfl ?_
        show Steps p.tables e below (T60.setTop (mkF m 40 #[.val (.ref a9_0), .val (.int (1 : Int32)), .val (.long q9_2), .second, .val (.int (8 : Int32))] [(.int (8 : Int32))])) _
        refine XS.iload X60.here hx rfl (hb hby d9_40) rfl ?_
        refine XS.iload X60.here hx rfl (hb hby d9_42) rfl ?_
        refine XS.ineg X60.here hx rfl (hb hby d9_44) rfl ?_
        show Steps p.tables e below (T60.setTop (mkF m 45 #[.val (.ref a9_0), .val (.int (1 : Int32)), .val (.long q9_2), .second, .val (.int (8 : Int32))] [(.int (-8 : Int32)), (.int (8 : Int32)), (.int (8 : Int32))])) _
        refine XS.iand X60.here hx rfl (hb hby d9_45) rfl ?_
        refine XS.iadd X60.here hx rfl (hb hby d9_46) rfl ?_
        refine XS.istore X60.here hx rfl (hb hby d9_47) rfl (l' := #[.val (.ref a9_0), .val (.int (1 : Int32)), .val (.long q9_2), .second, .val (.int (16 : Int32))]) rfl ?_
        show Steps p.tables e below (T60.setTop (mkF m 49 #[.val (.ref a9_0), .val (.int (1 : Int32)), .val (.long q9_2), .second, .val (.int (16 : Int32))] [])) _
        refine XS.goto X60.here hx rfl (pc0 := 49) (pc' := 15) rfl (hb hby d9_49) (by decide) (by decide) ?_
        refine XS.iload X60.here hx rfl (hb hby d9_15) rfl ?_
        refine XS.aloadN X60.here hx rfl (hb hby d9_17) rfl rfl ?_
        show Steps p.tables e below (T60.setTop (mkF m 18 #[.val (.ref a9_0), .val (.int (1 : Int32)), .val (.long q9_2), .second, .val (.int (16 : Int32))] [(.ref a9_0), (.int (16 : Int32))])) _
        refine st62 _ ?_
        show Steps p.tables e below (T62.setTop (mkF m 21 #[.val (.ref a9_0), .val (.int (1 : Int32)), .val (.long q9_2), .second, .val (.int (16 : Int32))] [(.ref w_tree_a9_0), (.int (16 : Int32))])) _
        refine X62.arraylength hx (cell := cl63) (by rw [e62]; exact Ar63.1) (State.isArrayOf_alike hZ.alike Ar63.2.1) (g := (mkF m 21 #[.val (.ref a9_0), .val (.int (1 : Int32)), .val (.long q9_2), .second, .val (.int (16 : Int32))] [(.ref w_tree_a9_0), (.int (16 : Int32))])) rfl (rest := [(.int (16 : Int32))]) rfl (hb hby d9_21) _ ?_
        rw [len_of Sz63 Nz63]
        show Steps p.tables e below (T62.setTop (mkF m 22 #[.val (.ref a9_0), .val (.int (1 : Int32)), .val (.long q9_2), .second, .val (.int (16 : Int32))] [(.int (8 : Int32)), (.int (16 : Int32))])) _
        refine XS.icmpYes X62.here hx rfl (pc0 := 22) (pc' := 52) rfl (hb hby d9_22) rfl (tlt (by decide : (8 : Int32) < (16 : Int32))).2.2.1 (by decide) (by decide) ?_
        show Steps p.tables e below (T62.setTop (mkF m 52 #[.val (.ref a9_0), .val (.int (1 : Int32)), .val (.long q9_2), .second, .val (.int (16 : Int32))] [])) _
        exact X62.returnOut hx Bd.returns (hb hby d9_52) hr
      · have f144 := ((((E_a9_0.wr W38).wr W46).wr W53).wr W60)
        have f145 := ((((F_size_a9_0.other W38 (Or.inr (slot_ne (Or.inl (ow29 hw)) (Or.inl (ow51 hw)) (by decide) (t := .int) (t' := .long) (by decide) (by decide)))).other W46 (Or.inl (Ne.symm ne_w_tree_a9_0_a9_0))).other W53 (Or.inl (Ne.symm ne_w_tree_a9_0_a9_0))).other W60 (Or.inl (Ne.symm ne_w_tree_a9_0_a9_0)))
        have f146 := (((F38.other W46 (Or.inl (Ne.symm ne_w_tree_a9_0_a9_0))).other W53 (Or.inl (Ne.symm ne_w_tree_a9_0_a9_0))).other W60 (Or.inl (Ne.symm ne_w_tree_a9_0_a9_0)))
        show Q_rm9_6 Z a9_0 p9_1 q9_2 w_tree_a9_0 w_total_a9_0 kc_w_tree_a9_0 t_w_tree_a9_0_0 t_w_tree_a9_0_1 t_w_tree_a9_0_2 t_w_tree_a9_0_3 t_w_tree_a9_0_4 t_w_tree_a9_0_5 t_w_tree_a9_0_6 t_w_tree_a9_0_7 h0 n0 _ T62.heap _
        rw [e62]
        exact ⟨rfl, N60, K60, f144, f61, f145, f146, (own_arv V60 (own_cons (congrArg Value.long (if_neg hb1)) (own_cons (congrArg Value.long ((if_neg hb1).trans (if_pos hb36))) (own_cons (congrArg Value.long ((if_neg hb1).trans (if_pos hb36))) (own_cons (congrArg Value.long ((if_neg hb1).trans (if_pos hb36))) (own_cons (congrArg Value.long ((if_neg hb1).trans (if_pos hb36))) (own_cons (congrArg Value.long ((if_neg hb1).trans (if_pos hb36))) (own_cons rfl (own_cons rfl rfl)))))))))⟩
    · have own_u36 : True := trivial
      by_cases hb64 : p9_1 = (2 : Int32)
      · have own_t64 : True := trivial
        obtain ⟨T65, X65, e65, st65⟩ := getF X0 hx hZ hown (host := "") (Or.inl (ow50 hw)) Via.refl e0 F_total_a9_0 (g := (mkF m 2 #[.val (.ref a9_0), .val (.int (2 : Int32)), .val (.long q9_2), .second, .unset] [(.ref a9_0), (.ref a9_0)])) rfl rfl (hb hby d9_2)
        obtain ⟨T66, h66, X66, e66, W66, st66⟩ := putF X65 hx hZ hown (host := "") (Or.inl (ow50 hw)) Via.refl e65 F_total_a9_0 E_a9_0 (Or.inl (ow51 hw)) (ow7 hw) (ty := .long) (by decide) rfl rfl (g := (mkF m 7 #[.val (.ref a9_0), .val (.int (2 : Int32)), .val (.long q9_2), .second, .unset] [(.long (w_total_a9_0 + q9_2)), (.ref a9_0)])) rfl rfl (hb hby d9_7)
        have F66 := F_total_a9_0.same W66
        have K66 : Keep h0 h66 [a9_0, w_tree_a9_0] := (Keep.refl h0 [a9_0, w_tree_a9_0]).wr W66 (Or.inl (List.mem_of_getElem? (i := 0) rfl))
        have Z66 : n0 ≤ h66.size := Nat.le_trans Z0 K66.1
        have N66 := Fr.snoc X66 N0 g_a9_0
        have f67 := (F_tree_a9_0.other W66 (Or.inr (slot_ne (Or.inl (ow17 hw)) (Or.inl (ow51 hw)) (by decide) (t := (.array .long)) (t' := .long) (by decide) (by decide))))
        obtain ⟨T68, X68, e68, st68⟩ := getF X66 hx hZ hown (host := "") (Or.inl (ow16 hw)) Via.refl e66 f67 (g := (mkF m 18 #[.val (.ref a9_0), .val (.int (2 : Int32)), .val (.long q9_2), .second, .val (.int (3 : Int32))] [(.ref a9_0), (.int (3 : Int32))])) rfl rfl (hb hby d9_18)
        have f69 := (V_w_tree_a9_0.other W66 ne_w_tree_a9_0_a9_0)
        obtain ⟨cl70, Ar70, qk70, Sz70, Nz70, Hh70, Gf70⟩ := id f69
        obtain ⟨T71, X71, e71, st71⟩ := getF X68 hx hZ hown (host := "") (Or.inl (ow16 hw)) Via.refl e68 f67 (g := (mkF m 26 #[.val (.ref a9_0), .val (.int (2 : Int32)), .val (.long q9_2), .second, .val (.int (3 : Int32))] [(.ref a9_0)])) rfl rfl (hb hby d9_26)
        obtain ⟨cl72, Ar72, qk72, Sz72, Nz72, Hh72, Gf72⟩ := id f69
        obtain ⟨cl73, Ar73, qk73, Sz73, Nz73, Hh73, Gf73⟩ := id f69
        obtain ⟨T74, h74, X74, e74, W74, st74⟩ := stJ X71 hx hZ e71 Ar73 (j := (2 : Int32)) (inb_of Sz73 ⟨by decide, by decide⟩) (g := (mkF m 37 #[.val (.ref a9_0), .val (.int (2 : Int32)), .val (.long q9_2), .second, .val (.int (3 : Int32))] [(.long (t_w_tree_a9_0_2 + q9_2)), (.int (2 : Int32)), (.ref w_tree_a9_0)])) rfl rfl (hb hby d9_37)
        have V74 : Arv Z h74 w_tree_a9_0 kc_w_tree_a9_0 .long (8 : Int32) [(.long t_w_tree_a9_0_0), (.long t_w_tree_a9_0_1), (.long (t_w_tree_a9_0_2 + q9_2)), (.long t_w_tree_a9_0_3), (.long t_w_tree_a9_0_4), (.long t_w_tree_a9_0_5), (.long t_w_tree_a9_0_6), (.long t_w_tree_a9_0_7)] (.long (0 : Int64)) := Arv.set Ar73 qk73 Sz73 Nz73 Hh73 Gf73 rfl W74 2 rfl (Nat.le_of_ble_eq_true rfl)
        have K74 : Keep h0 h74 [a9_0, w_tree_a9_0] := K66.wr W74 (Or.inl (List.mem_of_getElem? (i := 1) rfl))
        have Z74 : n0 ≤ h74.size := Nat.le_trans Z0 K74.1
        have N74 := Fr.snoc X74 N66 g_w_tree_a9_0
        have f75 := (f67.other W74 (Or.inl (Ne.symm ne_w_tree_a9_0_a9_0)))
        obtain ⟨T76, X76, e76, st76⟩ := getF X74 hx hZ hown (host := "") (Or.inl (ow16 hw)) Via.refl e74 f75 (g := (mkF m 18 #[.val (.ref a9_0), .val (.int (2 : Int32)), .val (.long q9_2), .second, .val (.int (4 : Int32))] [(.ref a9_0), (.int (4 : Int32))])) rfl rfl (hb hby d9_18)
        obtain ⟨cl77, Ar77, qk77, Sz77, Nz77, Hh77, Gf77⟩ := id V74
        obtain ⟨T78, X78, e78, st78⟩ := getF X76 hx hZ hown (host := "") (Or.inl (ow16 hw)) Via.refl e76 f75 (g := (mkF m 26 #[.val (.ref a9_0), .val (.int (2 : Int32)), .val (.long q9_2), .second, .val (.int (4 : Int32))] [(.ref a9_0)])) rfl rfl (hb hby d9_26)
        obtain ⟨cl79, Ar79, qk79, Sz79, Nz79, Hh79, Gf79⟩ := id V74
        obtain ⟨cl80, Ar80, qk80, Sz80, Nz80, Hh80, Gf80⟩ := id V74
        obtain ⟨T81, h81, X81, e81, W81, st81⟩ := stJ X78 hx hZ e78 Ar80 (j := (3 : Int32)) (inb_of Sz80 ⟨by decide, by decide⟩) (g := (mkF m 37 #[.val (.ref a9_0), .val (.int (2 : Int32)), .val (.long q9_2), .second, .val (.int (4 : Int32))] [(.long (t_w_tree_a9_0_3 + q9_2)), (.int (3 : Int32)), (.ref w_tree_a9_0)])) rfl rfl (hb hby d9_37)
        have V81 : Arv Z h81 w_tree_a9_0 kc_w_tree_a9_0 .long (8 : Int32) [(.long t_w_tree_a9_0_0), (.long t_w_tree_a9_0_1), (.long (t_w_tree_a9_0_2 + q9_2)), (.long (t_w_tree_a9_0_3 + q9_2)), (.long t_w_tree_a9_0_4), (.long t_w_tree_a9_0_5), (.long t_w_tree_a9_0_6), (.long t_w_tree_a9_0_7)] (.long (0 : Int64)) := Arv.set Ar80 qk80 Sz80 Nz80 Hh80 Gf80 rfl W81 3 rfl (Nat.le_of_ble_eq_true rfl)
        have K81 : Keep h0 h81 [a9_0, w_tree_a9_0] := K74.wr W81 (Or.inl (List.mem_of_getElem? (i := 1) rfl))
        have Z81 : n0 ≤ h81.size := Nat.le_trans Z0 K81.1
        have N81 := Fr.snoc X81 N74 g_w_tree_a9_0
        have f82 := (f75.other W81 (Or.inl (Ne.symm ne_w_tree_a9_0_a9_0)))
        obtain ⟨T83, X83, e83, st83⟩ := getF X81 hx hZ hown (host := "") (Or.inl (ow16 hw)) Via.refl e81 f82 (g := (mkF m 18 #[.val (.ref a9_0), .val (.int (2 : Int32)), .val (.long q9_2), .second, .val (.int (8 : Int32))] [(.ref a9_0), (.int (8 : Int32))])) rfl rfl (hb hby d9_18)
        obtain ⟨cl84, Ar84, qk84, Sz84, Nz84, Hh84, Gf84⟩ := id V81
        obtain ⟨T85, X85, e85, st85⟩ := getF X83 hx hZ hown (host := "") (Or.inl (ow16 hw)) Via.refl e83 f82 (g := (mkF m 26 #[.val (.ref a9_0), .val (.int (2 : Int32)), .val (.long q9_2), .second, .val (.int (8 : Int32))] [(.ref a9_0)])) rfl rfl (hb hby d9_26)
        obtain ⟨cl86, Ar86, qk86, Sz86, Nz86, Hh86, Gf86⟩ := id V81
        obtain ⟨cl87, Ar87, qk87, Sz87, Nz87, Hh87, Gf87⟩ := id V81
        obtain ⟨T88, h88, X88, e88, W88, st88⟩ := stJ X85 hx hZ e85 Ar87 (j := (7 : Int32)) (inb_of Sz87 ⟨by decide, by decide⟩) (g := (mkF m 37 #[.val (.ref a9_0), .val (.int (2 : Int32)), .val (.long q9_2), .second, .val (.int (8 : Int32))] [(.long (t_w_tree_a9_0_7 + q9_2)), (.int (7 : Int32)), (.ref w_tree_a9_0)])) rfl rfl (hb hby d9_37)
        have V88 : Arv Z h88 w_tree_a9_0 kc_w_tree_a9_0 .long (8 : Int32) [(.long t_w_tree_a9_0_0), (.long t_w_tree_a9_0_1), (.long (t_w_tree_a9_0_2 + q9_2)), (.long (t_w_tree_a9_0_3 + q9_2)), (.long t_w_tree_a9_0_4), (.long t_w_tree_a9_0_5), (.long t_w_tree_a9_0_6), (.long (t_w_tree_a9_0_7 + q9_2))] (.long (0 : Int64)) := Arv.set Ar87 qk87 Sz87 Nz87 Hh87 Gf87 rfl W88 7 rfl (Nat.le_of_ble_eq_true rfl)
        have K88 : Keep h0 h88 [a9_0, w_tree_a9_0] := K81.wr W88 (Or.inl (List.mem_of_getElem? (i := 1) rfl))
        have Z88 : n0 ≤ h88.size := Nat.le_trans Z0 K88.1
        have N88 := Fr.snoc X88 N81 g_w_tree_a9_0
        have f89 := (f82.other W88 (Or.inl (Ne.symm ne_w_tree_a9_0_a9_0)))
        obtain ⟨T90, X90, e90, st90⟩ := getF X88 hx hZ hown (host := "") (Or.inl (ow16 hw)) Via.refl e88 f89 (g := (mkF m 18 #[.val (.ref a9_0), .val (.int (2 : Int32)), .val (.long q9_2), .second, .val (.int (16 : Int32))] [(.ref a9_0), (.int (16 : Int32))])) rfl rfl (hb hby d9_18)
        obtain ⟨cl91, Ar91, qk91, Sz91, Nz91, Hh91, Gf91⟩ := id V88
        obtain ⟨fs, hr, hrun, hended, hW, hsame⟩ := X90.leave (v := none) (fun _ => rfl)
        refine ⟨_, _, pre0 _ ?_, hrun, hended, _, _, rfl, ?_, ⟨_, rfl⟩, hW, hsame.mono (by decide) (by decide)⟩
        · show Steps p.tables e below (s₁.setTop (mkF m 0 #[.val (.ref a9_0), .val (.int p9_1), .val (.long q9_2), .second, .unset] [])) _
          rw [hb64]
          show Steps p.tables e below (s₁.setTop (mkF m 0 #[.val (.ref a9_0), .val (.int (2 : Int32)), .val (.long q9_2), .second, .unset] [])) _
          refine XS.aloadN X0.here hx rfl (hb hby d9_0) rfl rfl ?_
          refine XS.dup X0.here hx rfl (hb hby d9_1) rfl rfl ?_
          refine st65 _ ?_
          show Steps p.tables e below (T65.setTop (mkF m 5 #[.val (.ref a9_0), .val (.int (2 : Int32)), .val (.long q9_2), .second, .unset] [(.long w_total_a9_0), (.ref a9_0)])) _
          refine XS.lloadN X65.here hx rfl (hb hby d9_5) rfl ?_
          refine XS.ladd X65.here hx rfl (hb hby d9_6) rfl ?_
          refine st66 _ ?_
          show Steps p.tables e below (T66.setTop (mkF m 10 #[.val (.ref a9_0), .val (.int (2 : Int32)), .val (.long q9_2), .second, .unset] [])) _
          refine XS.iloadN X66.here hx rfl (hb hby d9_10) rfl ?_
          refine XS.iconst X66.here hx rfl (hb hby d9_11) ?_
          refine XS.iadd X66.here hx rfl (hb hby d9_12) rfl ?_
          show Steps p.tables e below (T66.setTop (mkF m 13 #[.val (.ref a9_0), .val (.int (2 : Int32)), .val (.long q9_2), .second, .unset] [(.int (3 : Int32))])) _
          refine XS.istore X66.here hx rfl (hb hby d9_13) rfl (l' := #[.val (.ref a9_0), .val (.int (2 : Int32)), .val (.long q9_2), .second, .val (.int (3 : Int32))]) rfl ?_
          refine XS.iload X66.here hx rfl (hb hby d9_15) rfl ?_
          refine XS.aloadN X66.here hx rfl (hb hby d9_17) rfl rfl ?_
          show Steps p.tables e below (T66.setTop (mkF m 18 #[.val (.ref a9_0), .val (.int (2 : Int32)), .val (.long q9_2), .second, .val (.int (3 : Int32))] [(.ref a9_0), (.int (3 : Int32))])) _
          refine st68 _ ?_
          show Steps p.tables e below (T68.setTop (mkF m 21 #[.val (.ref a9_0), .val (.int (2 : Int32)), .val (.long q9_2), .second, .val (.int (3 : Int32))] [(.ref w_tree_a9_0), (.int (3 : Int32))])) _
          refine X68.arraylength hx (cell := cl70) (by rw [e68]; exact Ar70.1) (State.isArrayOf_alike hZ.alike Ar70.2.1) (g := (mkF m 21 #[.val (.ref a9_0), .val (.int (2 : Int32)), .val (.long q9_2), .second, .val (.int (3 : Int32))] [(.ref w_tree_a9_0), (.int (3 : Int32))])) rfl (rest := [(.int (3 : Int32))]) rfl (hb hby d9_21) _ ?_
          rw [len_of Sz70 Nz70]
          show Steps p.tables e below (T68.setTop (mkF m 22 #[.val (.ref a9_0), .val (.int (2 : Int32)), .val (.long q9_2), .second, .val (.int (3 : Int32))] [(.int (8 : Int32)), (.int (3 : Int32))])) _
          refine XS.icmpNo X68.here hx rfl (hb hby d9_22) rfl (flt (by decide : ¬ ((8 : Int32) < (3 : Int32)))).2.2.1 ?_
          refine XS.aloadN X68.here hx rfl (hb hby d9_25) rfl rfl ?_
          refine st71 _ ?_
          show Steps p.tables e below (T71.setTop (mkF m 29 #[.val (.ref a9_0), .val (.int (2 : Int32)), .val (.long q9_2), .second, .val (.int (3 : Int32))] [(.ref w_tree_a9_0)])) _
          refine XS.iload X71.here hx rfl (hb hby d9_29) rfl ?_
          refine XS.iconst X71.here hx rfl (hb hby d9_31) ?_
          refine XS.isub X71.here hx rfl (hb hby d9_32) rfl ?_
          show Steps p.tables e below (T71.setTop (mkF m 33 #[.val (.ref a9_0), .val (.int (2 : Int32)), .val (.long q9_2), .second, .val (.int (3 : Int32))] [(.int (2 : Int32)), (.ref w_tree_a9_0)])) _
          jvm_step X71.here [X71.here.top, hx, (hb hby d9_33), Value.category]
          refine X71.laload hx (j := (2 : Int32)) (v := (.long t_w_tree_a9_0_2)) (by rw [e71]; exact Ar72.1) (State.isArrayOf_alike hZ.alike Ar72.2.1) Ar72.2.2 (inb_of Sz72 ⟨by decide, by decide⟩) (Hh72.at (inb_of Sz72 ⟨by decide, by decide⟩) rfl) (g := (mkF m 34 #[.val (.ref a9_0), .val (.int (2 : Int32)), .val (.long q9_2), .second, .val (.int (3 : Int32))] [(.int (2 : Int32)), (.ref w_tree_a9_0), (.int (2 : Int32)), (.ref w_tree_a9_0)])) rfl rfl (hb hby d9_34) _ ?_
          refine XS.lloadN X71.here hx rfl (hb hby d9_35) rfl ?_
          show Steps p.tables e below (T71.setTop (mkF m 36 #[.val (.ref a9_0), .val (.int (2 : Int32)), .val (.long q9_2), .second, .val (.int (3 : Int32))] [(.long q9_2), (.long t_w_tree_a9_0_2), (.int (2 : Int32)), (.ref w_tree_a9_0)])) _
          refine XS.ladd X71.here hx rfl (hb hby d9_36) rfl ?_
          refine st74 _ ?_
          refine XS.iload X74.here hx rfl (hb hby d9_38) rfl ?_
          show Steps p.tables e below (T74.setTop (mkF m 40 #[.val (.ref a9_0), .val (.int (2 : Int32)), .val (.long q9_2), .second, .val (.int (3 : Int32))] [(.int (3 : Int32))])) _
          refine XS.iload X74.here hx rfl (hb hby d9_40) rfl ?_
          refine XS.iload X74.here hx rfl (hb hby d9_42) rfl ?_
          refine XS.ineg X74.here hx rfl (hb hby d9_44) rfl ?_
          show Steps p.tables e below (T74.setTop (mkF m 45 #[.val (.ref a9_0), .val (.int (2 : Int32)), .val (.long q9_2), .second, .val (.int (3 : Int32))] [(.int (-3 : Int32)), (.int (3 : Int32)), (.int (3 : Int32))])) _
          refine XS.iand X74.here hx rfl (hb hby d9_45) rfl ?_
          refine XS.iadd X74.here hx rfl (hb hby d9_46) rfl ?_
          refine XS.istore X74.here hx rfl (hb hby d9_47) rfl (l' := #[.val (.ref a9_0), .val (.int (2 : Int32)), .val (.long q9_2), .second, .val (.int (4 : Int32))]) rfl ?_
          show Steps p.tables e below (T74.setTop (mkF m 49 #[.val (.ref a9_0), .val (.int (2 : Int32)), .val (.long q9_2), .second, .val (.int (4 : Int32))] [])) _
          refine XS.goto X74.here hx rfl (pc0 := 49) (pc' := 15) rfl (hb hby d9_49) (by decide) (by decide) ?_
          refine XS.iload X74.here hx rfl (hb hby d9_15) rfl ?_
          refine XS.aloadN X74.here hx rfl (hb hby d9_17) rfl rfl ?_
          show Steps p.tables e below (T74.setTop (mkF m 18 #[.val (.ref a9_0), .val (.int (2 : Int32)), .val (.long q9_2), .second, .val (.int (4 : Int32))] [(.ref a9_0), (.int (4 : Int32))])) _
          refine st76 _ ?_
          show Steps p.tables e below (T76.setTop (mkF m 21 #[.val (.ref a9_0), .val (.int (2 : Int32)), .val (.long q9_2), .second, .val (.int (4 : Int32))] [(.ref w_tree_a9_0), (.int (4 : Int32))])) _
          refine X76.arraylength hx (cell := cl77) (by rw [e76]; exact Ar77.1) (State.isArrayOf_alike hZ.alike Ar77.2.1) (g := (mkF m 21 #[.val (.ref a9_0), .val (.int (2 : Int32)), .val (.long q9_2), .second, .val (.int (4 : Int32))] [(.ref w_tree_a9_0), (.int (4 : Int32))])) rfl (rest := [(.int (4 : Int32))]) rfl (hb hby d9_21) _ ?_
          rw [len_of Sz77 Nz77]
          show Steps p.tables e below (T76.setTop (mkF m 22 #[.val (.ref a9_0), .val (.int (2 : Int32)), .val (.long q9_2), .second, .val (.int (4 : Int32))] [(.int (8 : Int32)), (.int (4 : Int32))])) _
          refine XS.icmpNo X76.here hx rfl (hb hby d9_22) rfl (flt (by decide : ¬ ((8 : Int32) < (4 : Int32)))).2.2.1 ?_
          refine XS.aloadN X76.here hx rfl (hb hby d9_25) rfl rfl ?_
          refine st78 _ ?_
          show Steps p.tables e below (T78.setTop (mkF m 29 #[.val (.ref a9_0), .val (.int (2 : Int32)), .val (.long q9_2), .second, .val (.int (4 : Int32))] [(.ref w_tree_a9_0)])) _
          refine XS.iload X78.here hx rfl (hb hby d9_29) rfl ?_
          refine XS.iconst X78.here hx rfl (hb hby d9_31) ?_
          refine XS.isub X78.here hx rfl (hb hby d9_32) rfl ?_
          show Steps p.tables e below (T78.setTop (mkF m 33 #[.val (.ref a9_0), .val (.int (2 : Int32)), .val (.long q9_2), .second, .val (.int (4 : Int32))] [(.int (3 : Int32)), (.ref w_tree_a9_0)])) _
          jvm_step X78.here [X78.here.top, hx, (hb hby d9_33), Value.category]
          refine X78.laload hx (j := (3 : Int32)) (v := (.long t_w_tree_a9_0_3)) (by rw [e78]; exact Ar79.1) (State.isArrayOf_alike hZ.alike Ar79.2.1) Ar79.2.2 (inb_of Sz79 ⟨by decide, by decide⟩) (Hh79.at (inb_of Sz79 ⟨by decide, by decide⟩) rfl) (g := (mkF m 34 #[.val (.ref a9_0), .val (.int (2 : Int32)), .val (.long q9_2), .second, .val (.int (4 : Int32))] [(.int (3 : Int32)), (.ref w_tree_a9_0), (.int (3 : Int32)), (.ref w_tree_a9_0)])) rfl rfl (hb hby d9_34) _ ?_
          refine XS.lloadN X78.here hx rfl (hb hby d9_35) rfl ?_
          show Steps p.tables e below (T78.setTop (mkF m 36 #[.val (.ref a9_0), .val (.int (2 : Int32)), .val (.long q9_2), .second, .val (.int (4 : Int32))] [(.long q9_2), (.long t_w_tree_a9_0_3), (.int (3 : Int32)), (.ref w_tree_a9_0)])) _
          refine XS.ladd X78.here hx rfl (hb hby d9_36) rfl ?_
          refine st81 _ ?_
          refine XS.iload X81.here hx rfl (hb hby d9_38) rfl ?_
          show Steps p.tables e below (T81.setTop (mkF m 40 #[.val (.ref a9_0), .val (.int (2 : Int32)), .val (.long q9_2), .second, .val (.int (4 : Int32))] [(.int (4 : Int32))])) _
          refine XS.iload X81.here hx rfl (hb hby d9_40) rfl ?_
          refine XS.iload X81.here hx rfl (hb hby d9_42) rfl ?_
          refine XS.ineg X81.here hx rfl (hb hby d9_44) rfl ?_
          show Steps p.tables e below (T81.setTop (mkF m 45 #[.val (.ref a9_0), .val (.int (2 : Int32)), .val (.long q9_2), .second, .val (.int (4 : Int32))] [(.int (-4 : Int32)), (.int (4 : Int32)), (.int (4 : Int32))])) _
          refine XS.iand X81.here hx rfl (hb hby d9_45) rfl ?_
          refine XS.iadd X81.here hx rfl (hb hby d9_46) rfl ?_
          refine XS.istore X81.here hx rfl (hb hby d9_47) rfl (l' := #[.val (.ref a9_0), .val (.int (2 : Int32)), .val (.long q9_2), .second, .val (.int (8 : Int32))]) rfl ?_
          show Steps p.tables e below (T81.setTop (mkF m 49 #[.val (.ref a9_0), .val (.int (2 : Int32)), .val (.long q9_2), .second, .val (.int (8 : Int32))] [])) _
          refine XS.goto X81.here hx rfl (pc0 := 49) (pc' := 15) rfl (hb hby d9_49) (by decide) (by decide) ?_
          refine XS.iload X81.here hx rfl (hb hby d9_15) rfl ?_
          refine XS.aloadN X81.here hx rfl (hb hby d9_17) rfl rfl ?_
          show Steps p.tables e below (T81.setTop (mkF m 18 #[.val (.ref a9_0), .val (.int (2 : Int32)), .val (.long q9_2), .second, .val (.int (8 : Int32))] [(.ref a9_0), (.int (8 : Int32))])) _
          refine st83 _ ?_
          show Steps p.tables e below (T83.setTop (mkF m 21 #[.val (.ref a9_0), .val (.int (2 : Int32)), .val (.long q9_2), .second, .val (.int (8 : Int32))] [(.ref w_tree_a9_0), (.int (8 : Int32))])) _
          refine X83.arraylength hx (cell := cl84) (by rw [e83]; exact Ar84.1) (State.isArrayOf_alike hZ.alike Ar84.2.1) (g := (mkF m 21 #[.val (.ref a9_0), .val (.int (2 : Int32)), .val (.long q9_2), .second, .val (.int (8 : Int32))] [(.ref w_tree_a9_0), (.int (8 : Int32))])) rfl (rest := [(.int (8 : Int32))]) rfl (hb hby d9_21) _ ?_
          rw [len_of Sz84 Nz84]
          show Steps p.tables e below (T83.setTop (mkF m 22 #[.val (.ref a9_0), .val (.int (2 : Int32)), .val (.long q9_2), .second, .val (.int (8 : Int32))] [(.int (8 : Int32)), (.int (8 : Int32))])) _
          refine XS.icmpNo X83.here hx rfl (hb hby d9_22) rfl (flt (by decide : ¬ ((8 : Int32) < (8 : Int32)))).2.2.1 ?_
          refine XS.aloadN X83.here hx rfl (hb hby d9_25) rfl rfl ?_
          refine st85 _ ?_
          show Steps p.tables e below (T85.setTop (mkF m 29 #[.val (.ref a9_0), .val (.int (2 : Int32)), .val (.long q9_2), .second, .val (.int (8 : Int32))] [(.ref w_tree_a9_0)])) _
          refine XS.iload X85.here hx rfl (hb hby d9_29) rfl ?_
          refine XS.iconst X85.here hx rfl (hb hby d9_31) ?_
          refine XS.isub X85.here hx rfl (hb hby d9_32) rfl ?_
          show Steps p.tables e below (T85.setTop (mkF m 33 #[.val (.ref a9_0), .val (.int (2 : Int32)), .val (.long q9_2), .second, .val (.int (8 : Int32))] [(.int (7 : Int32)), (.ref w_tree_a9_0)])) _
          jvm_step X85.here [X85.here.top, hx, (hb hby d9_33), Value.category]
          refine X85.laload hx (j := (7 : Int32)) (v := (.long t_w_tree_a9_0_7)) (by rw [e85]; exact Ar86.1) (State.isArrayOf_alike hZ.alike Ar86.2.1) Ar86.2.2 (inb_of Sz86 ⟨by decide, by decide⟩) (Hh86.at (inb_of Sz86 ⟨by decide, by decide⟩) rfl) (g := (mkF m 34 #[.val (.ref a9_0), .val (.int (2 : Int32)), .val (.long q9_2), .second, .val (.int (8 : Int32))] [(.int (7 : Int32)), (.ref w_tree_a9_0), (.int (7 : Int32)), (.ref w_tree_a9_0)])) rfl rfl (hb hby d9_34) _ ?_
          refine XS.lloadN X85.here hx rfl (hb hby d9_35) rfl ?_
          show Steps p.tables e below (T85.setTop (mkF m 36 #[.val (.ref a9_0), .val (.int (2 : Int32)), .val (.long q9_2), .second, .val (.int (8 : Int32))] [(.long q9_2), (.long t_w_tree_a9_0_7), (.int (7 : Int32)), (.ref w_tree_a9_0)])) _
          refine XS.ladd X85.here hx rfl (hb hby d9_36) rfl ?_
          refine st88 _ ?_
          refine XS.iload X88.here hx rfl (hb hby d9_38) rfl ?_
          show Steps p.tables e below (T88.setTop (mkF m 40 #[.val (.ref a9_0), .val (.int (2 : Int32)), .val (.long q9_2), .second, .val (.int (8 : Int32))] [(.int (8 : Int32))])) _
          refine XS.iload X88.here hx rfl (hb hby d9_40) rfl ?_
          refine XS.iload X88.here hx rfl (hb hby d9_42) rfl ?_
          refine XS.ineg X88.here hx rfl (hb hby d9_44) rfl ?_
          show Steps p.tables e below (T88.setTop (mkF m 45 #[.val (.ref a9_0), .val (.int (2 : Int32)), .val (.long q9_2), .second, .val (.int (8 : Int32))] [(.int (-8 : Int32)), (.int (8 : Int32)), (.int (8 : Int32))])) _
          refine XS.iand X88.here hx rfl (hb hby d9_45) rfl ?_
          refine XS.iadd X88.here hx rfl (hb hby d9_46) rfl ?_
          refine XS.istore X88.here hx rfl (hb hby d9_47) rfl (l' := #[.val (.ref a9_0), .val (.int (2 : Int32)), .val (.long q9_2), .second, .val (.int (16 : Int32))]) rfl ?_
          show Steps p.tables e below (T88.setTop (mkF m 49 #[.val (.ref a9_0), .val (.int (2 : Int32)), .val (.long q9_2), .second, .val (.int (16 : Int32))] [])) _
          refine XS.goto X88.here hx rfl (pc0 := 49) (pc' := 15) rfl (hb hby d9_49) (by decide) (by decide) ?_
          refine XS.iload X88.here hx rfl (hb hby d9_15) rfl ?_
          refine XS.aloadN X88.here hx rfl (hb hby d9_17) rfl rfl ?_
          show Steps p.tables e below (T88.setTop (mkF m 18 #[.val (.ref a9_0), .val (.int (2 : Int32)), .val (.long q9_2), .second, .val (.int (16 : Int32))] [(.ref a9_0), (.int (16 : Int32))])) _
          refine st90 _ ?_
          show Steps p.tables e below (T90.setTop (mkF m 21 #[.val (.ref a9_0), .val (.int (2 : Int32)), .val (.long q9_2), .second, .val (.int (16 : Int32))] [(.ref w_tree_a9_0), (.int (16 : Int32))])) _
          refine X90.arraylength hx (cell := cl91) (by rw [e90]; exact Ar91.1) (State.isArrayOf_alike hZ.alike Ar91.2.1) (g := (mkF m 21 #[.val (.ref a9_0), .val (.int (2 : Int32)), .val (.long q9_2), .second, .val (.int (16 : Int32))] [(.ref w_tree_a9_0), (.int (16 : Int32))])) rfl (rest := [(.int (16 : Int32))]) rfl (hb hby d9_21) _ ?_
          rw [len_of Sz91 Nz91]
          show Steps p.tables e below (T90.setTop (mkF m 22 #[.val (.ref a9_0), .val (.int (2 : Int32)), .val (.long q9_2), .second, .val (.int (16 : Int32))] [(.int (8 : Int32)), (.int (16 : Int32))])) _
          refine XS.icmpYes X90.here hx rfl (pc0 := 22) (pc' := 52) rfl (hb hby d9_22) rfl (tlt (by decide : (8 : Int32) < (16 : Int32))).2.2.1 (by decide) (by decide) ?_
          show Steps p.tables e below (T90.setTop (mkF m 52 #[.val (.ref a9_0), .val (.int (2 : Int32)), .val (.long q9_2), .second, .val (.int (16 : Int32))] [])) _
          exact X90.returnOut hx Bd.returns (hb hby d9_52) hr
        · have f147 := ((((E_a9_0.wr W66).wr W74).wr W81).wr W88)
          have f148 := ((((F_size_a9_0.other W66 (Or.inr (slot_ne (Or.inl (ow29 hw)) (Or.inl (ow51 hw)) (by decide) (t := .int) (t' := .long) (by decide) (by decide)))).other W74 (Or.inl (Ne.symm ne_w_tree_a9_0_a9_0))).other W81 (Or.inl (Ne.symm ne_w_tree_a9_0_a9_0))).other W88 (Or.inl (Ne.symm ne_w_tree_a9_0_a9_0)))
          have f149 := (((F66.other W74 (Or.inl (Ne.symm ne_w_tree_a9_0_a9_0))).other W81 (Or.inl (Ne.symm ne_w_tree_a9_0_a9_0))).other W88 (Or.inl (Ne.symm ne_w_tree_a9_0_a9_0)))
          show Q_rm9_6 Z a9_0 p9_1 q9_2 w_tree_a9_0 w_total_a9_0 kc_w_tree_a9_0 t_w_tree_a9_0_0 t_w_tree_a9_0_1 t_w_tree_a9_0_2 t_w_tree_a9_0_3 t_w_tree_a9_0_4 t_w_tree_a9_0_5 t_w_tree_a9_0_6 t_w_tree_a9_0_7 h0 n0 _ T90.heap _
          rw [e90]
          exact ⟨rfl, N88, K88, f147, f89, f148, f149, (own_arv V88 (own_cons (congrArg Value.long (if_neg hb1)) (own_cons (congrArg Value.long ((if_neg hb1).trans (if_neg hb36))) (own_cons (congrArg Value.long ((if_neg hb1).trans ((if_neg hb36).trans (if_pos hb64)))) (own_cons (congrArg Value.long ((if_neg hb1).trans ((if_neg hb36).trans (if_pos hb64)))) (own_cons (congrArg Value.long ((if_neg hb1).trans ((if_neg hb36).trans (if_pos hb64)))) (own_cons (congrArg Value.long ((if_neg hb1).trans ((if_neg hb36).trans (if_pos hb64)))) (own_cons rfl (own_cons rfl rfl)))))))))⟩
      · have own_u64 : True := trivial
        by_cases hb92 : p9_1 = (3 : Int32)
        · have own_t92 : True := trivial
          obtain ⟨T93, X93, e93, st93⟩ := getF X0 hx hZ hown (host := "") (Or.inl (ow50 hw)) Via.refl e0 F_total_a9_0 (g := (mkF m 2 #[.val (.ref a9_0), .val (.int (3 : Int32)), .val (.long q9_2), .second, .unset] [(.ref a9_0), (.ref a9_0)])) rfl rfl (hb hby d9_2)
          obtain ⟨T94, h94, X94, e94, W94, st94⟩ := putF X93 hx hZ hown (host := "") (Or.inl (ow50 hw)) Via.refl e93 F_total_a9_0 E_a9_0 (Or.inl (ow51 hw)) (ow7 hw) (ty := .long) (by decide) rfl rfl (g := (mkF m 7 #[.val (.ref a9_0), .val (.int (3 : Int32)), .val (.long q9_2), .second, .unset] [(.long (w_total_a9_0 + q9_2)), (.ref a9_0)])) rfl rfl (hb hby d9_7)
          have F94 := F_total_a9_0.same W94
          have K94 : Keep h0 h94 [a9_0, w_tree_a9_0] := (Keep.refl h0 [a9_0, w_tree_a9_0]).wr W94 (Or.inl (List.mem_of_getElem? (i := 0) rfl))
          have Z94 : n0 ≤ h94.size := Nat.le_trans Z0 K94.1
          have N94 := Fr.snoc X94 N0 g_a9_0
          have f95 := (F_tree_a9_0.other W94 (Or.inr (slot_ne (Or.inl (ow17 hw)) (Or.inl (ow51 hw)) (by decide) (t := (.array .long)) (t' := .long) (by decide) (by decide))))
          obtain ⟨T96, X96, e96, st96⟩ := getF X94 hx hZ hown (host := "") (Or.inl (ow16 hw)) Via.refl e94 f95 (g := (mkF m 18 #[.val (.ref a9_0), .val (.int (3 : Int32)), .val (.long q9_2), .second, .val (.int (4 : Int32))] [(.ref a9_0), (.int (4 : Int32))])) rfl rfl (hb hby d9_18)
          have f97 := (V_w_tree_a9_0.other W94 ne_w_tree_a9_0_a9_0)
          obtain ⟨cl98, Ar98, qk98, Sz98, Nz98, Hh98, Gf98⟩ := id f97
          obtain ⟨T99, X99, e99, st99⟩ := getF X96 hx hZ hown (host := "") (Or.inl (ow16 hw)) Via.refl e96 f95 (g := (mkF m 26 #[.val (.ref a9_0), .val (.int (3 : Int32)), .val (.long q9_2), .second, .val (.int (4 : Int32))] [(.ref a9_0)])) rfl rfl (hb hby d9_26)
          obtain ⟨cl100, Ar100, qk100, Sz100, Nz100, Hh100, Gf100⟩ := id f97
          obtain ⟨cl101, Ar101, qk101, Sz101, Nz101, Hh101, Gf101⟩ := id f97
          obtain ⟨T102, h102, X102, e102, W102, st102⟩ := stJ X99 hx hZ e99 Ar101 (j := (3 : Int32)) (inb_of Sz101 ⟨by decide, by decide⟩) (g := (mkF m 37 #[.val (.ref a9_0), .val (.int (3 : Int32)), .val (.long q9_2), .second, .val (.int (4 : Int32))] [(.long (t_w_tree_a9_0_3 + q9_2)), (.int (3 : Int32)), (.ref w_tree_a9_0)])) rfl rfl (hb hby d9_37)
          have V102 : Arv Z h102 w_tree_a9_0 kc_w_tree_a9_0 .long (8 : Int32) [(.long t_w_tree_a9_0_0), (.long t_w_tree_a9_0_1), (.long t_w_tree_a9_0_2), (.long (t_w_tree_a9_0_3 + q9_2)), (.long t_w_tree_a9_0_4), (.long t_w_tree_a9_0_5), (.long t_w_tree_a9_0_6), (.long t_w_tree_a9_0_7)] (.long (0 : Int64)) := Arv.set Ar101 qk101 Sz101 Nz101 Hh101 Gf101 rfl W102 3 rfl (Nat.le_of_ble_eq_true rfl)
          have K102 : Keep h0 h102 [a9_0, w_tree_a9_0] := K94.wr W102 (Or.inl (List.mem_of_getElem? (i := 1) rfl))
          have Z102 : n0 ≤ h102.size := Nat.le_trans Z0 K102.1
          have N102 := Fr.snoc X102 N94 g_w_tree_a9_0
          have f103 := (f95.other W102 (Or.inl (Ne.symm ne_w_tree_a9_0_a9_0)))
          obtain ⟨T104, X104, e104, st104⟩ := getF X102 hx hZ hown (host := "") (Or.inl (ow16 hw)) Via.refl e102 f103 (g := (mkF m 18 #[.val (.ref a9_0), .val (.int (3 : Int32)), .val (.long q9_2), .second, .val (.int (8 : Int32))] [(.ref a9_0), (.int (8 : Int32))])) rfl rfl (hb hby d9_18)
          obtain ⟨cl105, Ar105, qk105, Sz105, Nz105, Hh105, Gf105⟩ := id V102
          obtain ⟨T106, X106, e106, st106⟩ := getF X104 hx hZ hown (host := "") (Or.inl (ow16 hw)) Via.refl e104 f103 (g := (mkF m 26 #[.val (.ref a9_0), .val (.int (3 : Int32)), .val (.long q9_2), .second, .val (.int (8 : Int32))] [(.ref a9_0)])) rfl rfl (hb hby d9_26)
          obtain ⟨cl107, Ar107, qk107, Sz107, Nz107, Hh107, Gf107⟩ := id V102
          obtain ⟨cl108, Ar108, qk108, Sz108, Nz108, Hh108, Gf108⟩ := id V102
          obtain ⟨T109, h109, X109, e109, W109, st109⟩ := stJ X106 hx hZ e106 Ar108 (j := (7 : Int32)) (inb_of Sz108 ⟨by decide, by decide⟩) (g := (mkF m 37 #[.val (.ref a9_0), .val (.int (3 : Int32)), .val (.long q9_2), .second, .val (.int (8 : Int32))] [(.long (t_w_tree_a9_0_7 + q9_2)), (.int (7 : Int32)), (.ref w_tree_a9_0)])) rfl rfl (hb hby d9_37)
          have V109 : Arv Z h109 w_tree_a9_0 kc_w_tree_a9_0 .long (8 : Int32) [(.long t_w_tree_a9_0_0), (.long t_w_tree_a9_0_1), (.long t_w_tree_a9_0_2), (.long (t_w_tree_a9_0_3 + q9_2)), (.long t_w_tree_a9_0_4), (.long t_w_tree_a9_0_5), (.long t_w_tree_a9_0_6), (.long (t_w_tree_a9_0_7 + q9_2))] (.long (0 : Int64)) := Arv.set Ar108 qk108 Sz108 Nz108 Hh108 Gf108 rfl W109 7 rfl (Nat.le_of_ble_eq_true rfl)
          have K109 : Keep h0 h109 [a9_0, w_tree_a9_0] := K102.wr W109 (Or.inl (List.mem_of_getElem? (i := 1) rfl))
          have Z109 : n0 ≤ h109.size := Nat.le_trans Z0 K109.1
          have N109 := Fr.snoc X109 N102 g_w_tree_a9_0
          have f110 := (f103.other W109 (Or.inl (Ne.symm ne_w_tree_a9_0_a9_0)))
          obtain ⟨T111, X111, e111, st111⟩ := getF X109 hx hZ hown (host := "") (Or.inl (ow16 hw)) Via.refl e109 f110 (g := (mkF m 18 #[.val (.ref a9_0), .val (.int (3 : Int32)), .val (.long q9_2), .second, .val (.int (16 : Int32))] [(.ref a9_0), (.int (16 : Int32))])) rfl rfl (hb hby d9_18)
          obtain ⟨cl112, Ar112, qk112, Sz112, Nz112, Hh112, Gf112⟩ := id V109
          obtain ⟨fs, hr, hrun, hended, hW, hsame⟩ := X111.leave (v := none) (fun _ => rfl)
          refine ⟨_, _, pre0 _ ?_, hrun, hended, _, _, rfl, ?_, ⟨_, rfl⟩, hW, hsame.mono (by decide) (by decide)⟩
          · show Steps p.tables e below (s₁.setTop (mkF m 0 #[.val (.ref a9_0), .val (.int p9_1), .val (.long q9_2), .second, .unset] [])) _
            rw [hb92]
            show Steps p.tables e below (s₁.setTop (mkF m 0 #[.val (.ref a9_0), .val (.int (3 : Int32)), .val (.long q9_2), .second, .unset] [])) _
            refine XS.aloadN X0.here hx rfl (hb hby d9_0) rfl rfl ?_
            refine XS.dup X0.here hx rfl (hb hby d9_1) rfl rfl ?_
            refine st93 _ ?_
            show Steps p.tables e below (T93.setTop (mkF m 5 #[.val (.ref a9_0), .val (.int (3 : Int32)), .val (.long q9_2), .second, .unset] [(.long w_total_a9_0), (.ref a9_0)])) _
            refine XS.lloadN X93.here hx rfl (hb hby d9_5) rfl ?_
            refine XS.ladd X93.here hx rfl (hb hby d9_6) rfl ?_
            refine st94 _ ?_
            show Steps p.tables e below (T94.setTop (mkF m 10 #[.val (.ref a9_0), .val (.int (3 : Int32)), .val (.long q9_2), .second, .unset] [])) _
            refine XS.iloadN X94.here hx rfl (hb hby d9_10) rfl ?_
            refine XS.iconst X94.here hx rfl (hb hby d9_11) ?_
            refine XS.iadd X94.here hx rfl (hb hby d9_12) rfl ?_
            show Steps p.tables e below (T94.setTop (mkF m 13 #[.val (.ref a9_0), .val (.int (3 : Int32)), .val (.long q9_2), .second, .unset] [(.int (4 : Int32))])) _
            refine XS.istore X94.here hx rfl (hb hby d9_13) rfl (l' := #[.val (.ref a9_0), .val (.int (3 : Int32)), .val (.long q9_2), .second, .val (.int (4 : Int32))]) rfl ?_
            refine XS.iload X94.here hx rfl (hb hby d9_15) rfl ?_
            refine XS.aloadN X94.here hx rfl (hb hby d9_17) rfl rfl ?_
            show Steps p.tables e below (T94.setTop (mkF m 18 #[.val (.ref a9_0), .val (.int (3 : Int32)), .val (.long q9_2), .second, .val (.int (4 : Int32))] [(.ref a9_0), (.int (4 : Int32))])) _
            refine st96 _ ?_
            show Steps p.tables e below (T96.setTop (mkF m 21 #[.val (.ref a9_0), .val (.int (3 : Int32)), .val (.long q9_2), .second, .val (.int (4 : Int32))] [(.ref w_tree_a9_0), (.int (4 : Int32))])) _
            refine X96.arraylength hx (cell := cl98) (by rw [e96]; exact Ar98.1) (State.isArrayOf_alike hZ.alike Ar98.2.1) (g := (mkF m 21 #[.val (.ref a9_0), .val (.int (3 : Int32)), .val (.long q9_2), .second, .val (.int (4 : Int32))] [(.ref w_tree_a9_0), (.int (4 : Int32))])) rfl (rest := [(.int (4 : Int32))]) rfl (hb hby d9_21) _ ?_
            rw [len_of Sz98 Nz98]
            show Steps p.tables e below (T96.setTop (mkF m 22 #[.val (.ref a9_0), .val (.int (3 : Int32)), .val (.long q9_2), .second, .val (.int (4 : Int32))] [(.int (8 : Int32)), (.int (4 : Int32))])) _
            refine XS.icmpNo X96.here hx rfl (hb hby d9_22) rfl (flt (by decide : ¬ ((8 : Int32) < (4 : Int32)))).2.2.1 ?_
            refine XS.aloadN X96.here hx rfl (hb hby d9_25) rfl rfl ?_
            refine st99 _ ?_
            show Steps p.tables e below (T99.setTop (mkF m 29 #[.val (.ref a9_0), .val (.int (3 : Int32)), .val (.long q9_2), .second, .val (.int (4 : Int32))] [(.ref w_tree_a9_0)])) _
            refine XS.iload X99.here hx rfl (hb hby d9_29) rfl ?_
            refine XS.iconst X99.here hx rfl (hb hby d9_31) ?_
            refine XS.isub X99.here hx rfl (hb hby d9_32) rfl ?_
            show Steps p.tables e below (T99.setTop (mkF m 33 #[.val (.ref a9_0), .val (.int (3 : Int32)), .val (.long q9_2), .second, .val (.int (4 : Int32))] [(.int (3 : Int32)), (.ref w_tree_a9_0)])) _
            jvm_step X99.here [X99.here.top, hx, (hb hby d9_33), Value.category]
            refine X99.laload hx (j := (3 : Int32)) (v := (.long t_w_tree_a9_0_3)) (by rw [e99]; exact Ar100.1) (State.isArrayOf_alike hZ.alike Ar100.2.1) Ar100.2.2 (inb_of Sz100 ⟨by decide, by decide⟩) (Hh100.at (inb_of Sz100 ⟨by decide, by decide⟩) rfl) (g := (mkF m 34 #[.val (.ref a9_0), .val (.int (3 : Int32)), .val (.long q9_2), .second, .val (.int (4 : Int32))] [(.int (3 : Int32)), (.ref w_tree_a9_0), (.int (3 : Int32)), (.ref w_tree_a9_0)])) rfl rfl (hb hby d9_34) _ ?_
            refine XS.lloadN X99.here hx rfl (hb hby d9_35) rfl ?_
            show Steps p.tables e below (T99.setTop (mkF m 36 #[.val (.ref a9_0), .val (.int (3 : Int32)), .val (.long q9_2), .second, .val (.int (4 : Int32))] [(.long q9_2), (.long t_w_tree_a9_0_3), (.int (3 : Int32)), (.ref w_tree_a9_0)])) _
            refine XS.ladd X99.here hx rfl (hb hby d9_36) rfl ?_
            refine st102 _ ?_
            refine XS.iload X102.here hx rfl (hb hby d9_38) rfl ?_
            show Steps p.tables e below (T102.setTop (mkF m 40 #[.val (.ref a9_0), .val (.int (3 : Int32)), .val (.long q9_2), .second, .val (.int (4 : Int32))] [(.int (4 : Int32))])) _
            refine XS.iload X102.here hx rfl (hb hby d9_40) rfl ?_
            refine XS.iload X102.here hx rfl (hb hby d9_42) rfl ?_
            refine XS.ineg X102.here hx rfl (hb hby d9_44) rfl ?_
            show Steps p.tables e below (T102.setTop (mkF m 45 #[.val (.ref a9_0), .val (.int (3 : Int32)), .val (.long q9_2), .second, .val (.int (4 : Int32))] [(.int (-4 : Int32)), (.int (4 : Int32)), (.int (4 : Int32))])) _
            refine XS.iand X102.here hx rfl (hb hby d9_45) rfl ?_
            refine XS.iadd X102.here hx rfl (hb hby d9_46) rfl ?_
            refine XS.istore X102.here hx rfl (hb hby d9_47) rfl (l' := #[.val (.ref a9_0), .val (.int (3 : Int32)), .val (.long q9_2), .second, .val (.int (8 : Int32))]) rfl ?_
            show Steps p.tables e below (T102.setTop (mkF m 49 #[.val (.ref a9_0), .val (.int (3 : Int32)), .val (.long q9_2), .second, .val (.int (8 : Int32))] [])) _
            refine XS.goto X102.here hx rfl (pc0 := 49) (pc' := 15) rfl (hb hby d9_49) (by decide) (by decide) ?_
            refine XS.iload X102.here hx rfl (hb hby d9_15) rfl ?_
            refine XS.aloadN X102.here hx rfl (hb hby d9_17) rfl rfl ?_
            show Steps p.tables e below (T102.setTop (mkF m 18 #[.val (.ref a9_0), .val (.int (3 : Int32)), .val (.long q9_2), .second, .val (.int (8 : Int32))] [(.ref a9_0), (.int (8 : Int32))])) _
            refine st104 _ ?_
            show Steps p.tables e below (T104.setTop (mkF m 21 #[.val (.ref a9_0), .val (.int (3 : Int32)), .val (.long q9_2), .second, .val (.int (8 : Int32))] [(.ref w_tree_a9_0), (.int (8 : Int32))])) _
            refine X104.arraylength hx (cell := cl105) (by rw [e104]; exact Ar105.1) (State.isArrayOf_alike hZ.alike Ar105.2.1) (g := (mkF m 21 #[.val (.ref a9_0), .val (.int (3 : Int32)), .val (.long q9_2), .second, .val (.int (8 : Int32))] [(.ref w_tree_a9_0), (.int (8 : Int32))])) rfl (rest := [(.int (8 : Int32))]) rfl (hb hby d9_21) _ ?_
            rw [len_of Sz105 Nz105]
            show Steps p.tables e below (T104.setTop (mkF m 22 #[.val (.ref a9_0), .val (.int (3 : Int32)), .val (.long q9_2), .second, .val (.int (8 : Int32))] [(.int (8 : Int32)), (.int (8 : Int32))])) _
            refine XS.icmpNo X104.here hx rfl (hb hby d9_22) rfl (flt (by decide : ¬ ((8 : Int32) < (8 : Int32)))).2.2.1 ?_
            refine XS.aloadN X104.here hx rfl (hb hby d9_25) rfl rfl ?_
            refine st106 _ ?_
            show Steps p.tables e below (T106.setTop (mkF m 29 #[.val (.ref a9_0), .val (.int (3 : Int32)), .val (.long q9_2), .second, .val (.int (8 : Int32))] [(.ref w_tree_a9_0)])) _
            refine XS.iload X106.here hx rfl (hb hby d9_29) rfl ?_
            refine XS.iconst X106.here hx rfl (hb hby d9_31) ?_
            refine XS.isub X106.here hx rfl (hb hby d9_32) rfl ?_
            show Steps p.tables e below (T106.setTop (mkF m 33 #[.val (.ref a9_0), .val (.int (3 : Int32)), .val (.long q9_2), .second, .val (.int (8 : Int32))] [(.int (7 : Int32)), (.ref w_tree_a9_0)])) _
            jvm_step X106.here [X106.here.top, hx, (hb hby d9_33), Value.category]
            refine X106.laload hx (j := (7 : Int32)) (v := (.long t_w_tree_a9_0_7)) (by rw [e106]; exact Ar107.1) (State.isArrayOf_alike hZ.alike Ar107.2.1) Ar107.2.2 (inb_of Sz107 ⟨by decide, by decide⟩) (Hh107.at (inb_of Sz107 ⟨by decide, by decide⟩) rfl) (g := (mkF m 34 #[.val (.ref a9_0), .val (.int (3 : Int32)), .val (.long q9_2), .second, .val (.int (8 : Int32))] [(.int (7 : Int32)), (.ref w_tree_a9_0), (.int (7 : Int32)), (.ref w_tree_a9_0)])) rfl rfl (hb hby d9_34) _ ?_
            refine XS.lloadN X106.here hx rfl (hb hby d9_35) rfl ?_
            show Steps p.tables e below (T106.setTop (mkF m 36 #[.val (.ref a9_0), .val (.int (3 : Int32)), .val (.long q9_2), .second, .val (.int (8 : Int32))] [(.long q9_2), (.long t_w_tree_a9_0_7), (.int (7 : Int32)), (.ref w_tree_a9_0)])) _
            refine XS.ladd X106.here hx rfl (hb hby d9_36) rfl ?_
            refine st109 _ ?_
            refine XS.iload X109.here hx rfl (hb hby d9_38) rfl ?_
            show Steps p.tables e below (T109.setTop (mkF m 40 #[.val (.ref a9_0), .val (.int (3 : Int32)), .val (.long q9_2), .second, .val (.int (8 : Int32))] [(.int (8 : Int32))])) _
            refine XS.iload X109.here hx rfl (hb hby d9_40) rfl ?_
            refine XS.iload X109.here hx rfl (hb hby d9_42) rfl ?_
            refine XS.ineg X109.here hx rfl (hb hby d9_44) rfl ?_
            show Steps p.tables e below (T109.setTop (mkF m 45 #[.val (.ref a9_0), .val (.int (3 : Int32)), .val (.long q9_2), .second, .val (.int (8 : Int32))] [(.int (-8 : Int32)), (.int (8 : Int32)), (.int (8 : Int32))])) _
            refine XS.iand X109.here hx rfl (hb hby d9_45) rfl ?_
            refine XS.iadd X109.here hx rfl (hb hby d9_46) rfl ?_
            refine XS.istore X109.here hx rfl (hb hby d9_47) rfl (l' := #[.val (.ref a9_0), .val (.int (3 : Int32)), .val (.long q9_2), .second, .val (.int (16 : Int32))]) rfl ?_
            show Steps p.tables e below (T109.setTop (mkF m 49 #[.val (.ref a9_0), .val (.int (3 : Int32)), .val (.long q9_2), .second, .val (.int (16 : Int32))] [])) _
            refine XS.goto X109.here hx rfl (pc0 := 49) (pc' := 15) rfl (hb hby d9_49) (by decide) (by decide) ?_
            refine XS.iload X109.here hx rfl (hb hby d9_15) rfl ?_
            refine XS.aloadN X109.here hx rfl (hb hby d9_17) rfl rfl ?_
            show Steps p.tables e below (T109.setTop (mkF m 18 #[.val (.ref a9_0), .val (.int (3 : Int32)), .val (.long q9_2), .second, .val (.int (16 : Int32))] [(.ref a9_0), (.int (16 : Int32))])) _
            refine st111 _ ?_
            show Steps p.tables e below (T111.setTop (mkF m 21 #[.val (.ref a9_0), .val (.int (3 : Int32)), .val (.long q9_2), .second, .val (.int (16 : Int32))] [(.ref w_tree_a9_0), (.int (16 : Int32))])) _
            refine X111.arraylength hx (cell := cl112) (by rw [e111]; exact Ar112.1) (State.isArrayOf_alike hZ.alike Ar112.2.1) (g := (mkF m 21 #[.val (.ref a9_0), .val (.int (3 : Int32)), .val (.long q9_2), .second, .val (.int (16 : Int32))] [(.ref w_tree_a9_0), (.int (16 : Int32))])) rfl (rest := [(.int (16 : Int32))]) rfl (hb hby d9_21) _ ?_
            rw [len_of Sz112 Nz112]
            show Steps p.tables e below (T111.setTop (mkF m 22 #[.val (.ref a9_0), .val (.int (3 : Int32)), .val (.long q9_2), .second, .val (.int (16 : Int32))] [(.int (8 : Int32)), (.int (16 : Int32))])) _
            refine XS.icmpYes X111.here hx rfl (pc0 := 22) (pc' := 52) rfl (hb hby d9_22) rfl (tlt (by decide : (8 : Int32) < (16 : Int32))).2.2.1 (by decide) (by decide) ?_
            show Steps p.tables e below (T111.setTop (mkF m 52 #[.val (.ref a9_0), .val (.int (3 : Int32)), .val (.long q9_2), .second, .val (.int (16 : Int32))] [])) _
            exact X111.returnOut hx Bd.returns (hb hby d9_52) hr
          · have f150 := (((E_a9_0.wr W94).wr W102).wr W109)
            have f151 := (((F_size_a9_0.other W94 (Or.inr (slot_ne (Or.inl (ow29 hw)) (Or.inl (ow51 hw)) (by decide) (t := .int) (t' := .long) (by decide) (by decide)))).other W102 (Or.inl (Ne.symm ne_w_tree_a9_0_a9_0))).other W109 (Or.inl (Ne.symm ne_w_tree_a9_0_a9_0)))
            have f152 := ((F94.other W102 (Or.inl (Ne.symm ne_w_tree_a9_0_a9_0))).other W109 (Or.inl (Ne.symm ne_w_tree_a9_0_a9_0)))
            show Q_rm9_6 Z a9_0 p9_1 q9_2 w_tree_a9_0 w_total_a9_0 kc_w_tree_a9_0 t_w_tree_a9_0_0 t_w_tree_a9_0_1 t_w_tree_a9_0_2 t_w_tree_a9_0_3 t_w_tree_a9_0_4 t_w_tree_a9_0_5 t_w_tree_a9_0_6 t_w_tree_a9_0_7 h0 n0 _ T111.heap _
            rw [e111]
            exact ⟨rfl, N109, K109, f150, f110, f151, f152, (own_arv V109 (own_cons (congrArg Value.long (if_neg hb1)) (own_cons (congrArg Value.long ((if_neg hb1).trans (if_neg hb36))) (own_cons (congrArg Value.long ((if_neg hb1).trans ((if_neg hb36).trans (if_neg hb64)))) (own_cons (congrArg Value.long ((if_neg hb1).trans ((if_neg hb36).trans ((if_neg hb64).trans (if_pos hb92))))) (own_cons (congrArg Value.long ((if_neg hb1).trans ((if_neg hb36).trans ((if_neg hb64).trans (if_pos hb92))))) (own_cons (congrArg Value.long ((if_neg hb1).trans ((if_neg hb36).trans ((if_neg hb64).trans (if_pos hb92))))) (own_cons rfl (own_cons rfl rfl)))))))))⟩
        · have own_u92 : True := trivial
          have hl113 : p9_1 = (4 : Int32) := ((((hp.resolve_left hb1).resolve_left hb36).resolve_left hb64).resolve_left hb92)
          obtain ⟨T114, X114, e114, st114⟩ := getF X0 hx hZ hown (host := "") (Or.inl (ow50 hw)) Via.refl e0 F_total_a9_0 (g := (mkF m 2 #[.val (.ref a9_0), .val (.int (4 : Int32)), .val (.long q9_2), .second, .unset] [(.ref a9_0), (.ref a9_0)])) rfl rfl (hb hby d9_2)
          obtain ⟨T115, h115, X115, e115, W115, st115⟩ := putF X114 hx hZ hown (host := "") (Or.inl (ow50 hw)) Via.refl e114 F_total_a9_0 E_a9_0 (Or.inl (ow51 hw)) (ow7 hw) (ty := .long) (by decide) rfl rfl (g := (mkF m 7 #[.val (.ref a9_0), .val (.int (4 : Int32)), .val (.long q9_2), .second, .unset] [(.long (w_total_a9_0 + q9_2)), (.ref a9_0)])) rfl rfl (hb hby d9_7)
          have F115 := F_total_a9_0.same W115
          have K115 : Keep h0 h115 [a9_0, w_tree_a9_0] := (Keep.refl h0 [a9_0, w_tree_a9_0]).wr W115 (Or.inl (List.mem_of_getElem? (i := 0) rfl))
          have Z115 : n0 ≤ h115.size := Nat.le_trans Z0 K115.1
          have N115 := Fr.snoc X115 N0 g_a9_0
          have f116 := (F_tree_a9_0.other W115 (Or.inr (slot_ne (Or.inl (ow17 hw)) (Or.inl (ow51 hw)) (by decide) (t := (.array .long)) (t' := .long) (by decide) (by decide))))
          obtain ⟨T117, X117, e117, st117⟩ := getF X115 hx hZ hown (host := "") (Or.inl (ow16 hw)) Via.refl e115 f116 (g := (mkF m 18 #[.val (.ref a9_0), .val (.int (4 : Int32)), .val (.long q9_2), .second, .val (.int (5 : Int32))] [(.ref a9_0), (.int (5 : Int32))])) rfl rfl (hb hby d9_18)
          have f118 := (V_w_tree_a9_0.other W115 ne_w_tree_a9_0_a9_0)
          obtain ⟨cl119, Ar119, qk119, Sz119, Nz119, Hh119, Gf119⟩ := id f118
          obtain ⟨T120, X120, e120, st120⟩ := getF X117 hx hZ hown (host := "") (Or.inl (ow16 hw)) Via.refl e117 f116 (g := (mkF m 26 #[.val (.ref a9_0), .val (.int (4 : Int32)), .val (.long q9_2), .second, .val (.int (5 : Int32))] [(.ref a9_0)])) rfl rfl (hb hby d9_26)
          obtain ⟨cl121, Ar121, qk121, Sz121, Nz121, Hh121, Gf121⟩ := id f118
          obtain ⟨cl122, Ar122, qk122, Sz122, Nz122, Hh122, Gf122⟩ := id f118
          obtain ⟨T123, h123, X123, e123, W123, st123⟩ := stJ X120 hx hZ e120 Ar122 (j := (4 : Int32)) (inb_of Sz122 ⟨by decide, by decide⟩) (g := (mkF m 37 #[.val (.ref a9_0), .val (.int (4 : Int32)), .val (.long q9_2), .second, .val (.int (5 : Int32))] [(.long (t_w_tree_a9_0_4 + q9_2)), (.int (4 : Int32)), (.ref w_tree_a9_0)])) rfl rfl (hb hby d9_37)
          have V123 : Arv Z h123 w_tree_a9_0 kc_w_tree_a9_0 .long (8 : Int32) [(.long t_w_tree_a9_0_0), (.long t_w_tree_a9_0_1), (.long t_w_tree_a9_0_2), (.long t_w_tree_a9_0_3), (.long (t_w_tree_a9_0_4 + q9_2)), (.long t_w_tree_a9_0_5), (.long t_w_tree_a9_0_6), (.long t_w_tree_a9_0_7)] (.long (0 : Int64)) := Arv.set Ar122 qk122 Sz122 Nz122 Hh122 Gf122 rfl W123 4 rfl (Nat.le_of_ble_eq_true rfl)
          have K123 : Keep h0 h123 [a9_0, w_tree_a9_0] := K115.wr W123 (Or.inl (List.mem_of_getElem? (i := 1) rfl))
          have Z123 : n0 ≤ h123.size := Nat.le_trans Z0 K123.1
          have N123 := Fr.snoc X123 N115 g_w_tree_a9_0
          have f124 := (f116.other W123 (Or.inl (Ne.symm ne_w_tree_a9_0_a9_0)))
          obtain ⟨T125, X125, e125, st125⟩ := getF X123 hx hZ hown (host := "") (Or.inl (ow16 hw)) Via.refl e123 f124 (g := (mkF m 18 #[.val (.ref a9_0), .val (.int (4 : Int32)), .val (.long q9_2), .second, .val (.int (6 : Int32))] [(.ref a9_0), (.int (6 : Int32))])) rfl rfl (hb hby d9_18)
          obtain ⟨cl126, Ar126, qk126, Sz126, Nz126, Hh126, Gf126⟩ := id V123
          obtain ⟨T127, X127, e127, st127⟩ := getF X125 hx hZ hown (host := "") (Or.inl (ow16 hw)) Via.refl e125 f124 (g := (mkF m 26 #[.val (.ref a9_0), .val (.int (4 : Int32)), .val (.long q9_2), .second, .val (.int (6 : Int32))] [(.ref a9_0)])) rfl rfl (hb hby d9_26)
          obtain ⟨cl128, Ar128, qk128, Sz128, Nz128, Hh128, Gf128⟩ := id V123
          obtain ⟨cl129, Ar129, qk129, Sz129, Nz129, Hh129, Gf129⟩ := id V123
          obtain ⟨T130, h130, X130, e130, W130, st130⟩ := stJ X127 hx hZ e127 Ar129 (j := (5 : Int32)) (inb_of Sz129 ⟨by decide, by decide⟩) (g := (mkF m 37 #[.val (.ref a9_0), .val (.int (4 : Int32)), .val (.long q9_2), .second, .val (.int (6 : Int32))] [(.long (t_w_tree_a9_0_5 + q9_2)), (.int (5 : Int32)), (.ref w_tree_a9_0)])) rfl rfl (hb hby d9_37)
          have V130 : Arv Z h130 w_tree_a9_0 kc_w_tree_a9_0 .long (8 : Int32) [(.long t_w_tree_a9_0_0), (.long t_w_tree_a9_0_1), (.long t_w_tree_a9_0_2), (.long t_w_tree_a9_0_3), (.long (t_w_tree_a9_0_4 + q9_2)), (.long (t_w_tree_a9_0_5 + q9_2)), (.long t_w_tree_a9_0_6), (.long t_w_tree_a9_0_7)] (.long (0 : Int64)) := Arv.set Ar129 qk129 Sz129 Nz129 Hh129 Gf129 rfl W130 5 rfl (Nat.le_of_ble_eq_true rfl)
          have K130 : Keep h0 h130 [a9_0, w_tree_a9_0] := K123.wr W130 (Or.inl (List.mem_of_getElem? (i := 1) rfl))
          have Z130 : n0 ≤ h130.size := Nat.le_trans Z0 K130.1
          have N130 := Fr.snoc X130 N123 g_w_tree_a9_0
          have f131 := (f124.other W130 (Or.inl (Ne.symm ne_w_tree_a9_0_a9_0)))
          obtain ⟨T132, X132, e132, st132⟩ := getF X130 hx hZ hown (host := "") (Or.inl (ow16 hw)) Via.refl e130 f131 (g := (mkF m 18 #[.val (.ref a9_0), .val (.int (4 : Int32)), .val (.long q9_2), .second, .val (.int (8 : Int32))] [(.ref a9_0), (.int (8 : Int32))])) rfl rfl (hb hby d9_18)
          obtain ⟨cl133, Ar133, qk133, Sz133, Nz133, Hh133, Gf133⟩ := id V130
          obtain ⟨T134, X134, e134, st134⟩ := getF X132 hx hZ hown (host := "") (Or.inl (ow16 hw)) Via.refl e132 f131 (g := (mkF m 26 #[.val (.ref a9_0), .val (.int (4 : Int32)), .val (.long q9_2), .second, .val (.int (8 : Int32))] [(.ref a9_0)])) rfl rfl (hb hby d9_26)
          obtain ⟨cl135, Ar135, qk135, Sz135, Nz135, Hh135, Gf135⟩ := id V130
          obtain ⟨cl136, Ar136, qk136, Sz136, Nz136, Hh136, Gf136⟩ := id V130
          obtain ⟨T137, h137, X137, e137, W137, st137⟩ := stJ X134 hx hZ e134 Ar136 (j := (7 : Int32)) (inb_of Sz136 ⟨by decide, by decide⟩) (g := (mkF m 37 #[.val (.ref a9_0), .val (.int (4 : Int32)), .val (.long q9_2), .second, .val (.int (8 : Int32))] [(.long (t_w_tree_a9_0_7 + q9_2)), (.int (7 : Int32)), (.ref w_tree_a9_0)])) rfl rfl (hb hby d9_37)
          have V137 : Arv Z h137 w_tree_a9_0 kc_w_tree_a9_0 .long (8 : Int32) [(.long t_w_tree_a9_0_0), (.long t_w_tree_a9_0_1), (.long t_w_tree_a9_0_2), (.long t_w_tree_a9_0_3), (.long (t_w_tree_a9_0_4 + q9_2)), (.long (t_w_tree_a9_0_5 + q9_2)), (.long t_w_tree_a9_0_6), (.long (t_w_tree_a9_0_7 + q9_2))] (.long (0 : Int64)) := Arv.set Ar136 qk136 Sz136 Nz136 Hh136 Gf136 rfl W137 7 rfl (Nat.le_of_ble_eq_true rfl)
          have K137 : Keep h0 h137 [a9_0, w_tree_a9_0] := K130.wr W137 (Or.inl (List.mem_of_getElem? (i := 1) rfl))
          have Z137 : n0 ≤ h137.size := Nat.le_trans Z0 K137.1
          have N137 := Fr.snoc X137 N130 g_w_tree_a9_0
          have f138 := (f131.other W137 (Or.inl (Ne.symm ne_w_tree_a9_0_a9_0)))
          obtain ⟨T139, X139, e139, st139⟩ := getF X137 hx hZ hown (host := "") (Or.inl (ow16 hw)) Via.refl e137 f138 (g := (mkF m 18 #[.val (.ref a9_0), .val (.int (4 : Int32)), .val (.long q9_2), .second, .val (.int (16 : Int32))] [(.ref a9_0), (.int (16 : Int32))])) rfl rfl (hb hby d9_18)
          obtain ⟨cl140, Ar140, qk140, Sz140, Nz140, Hh140, Gf140⟩ := id V137
          obtain ⟨fs, hr, hrun, hended, hW, hsame⟩ := X139.leave (v := none) (fun _ => rfl)
          refine ⟨_, _, pre0 _ ?_, hrun, hended, _, _, rfl, ?_, ⟨_, rfl⟩, hW, hsame.mono (by decide) (by decide)⟩
          · show Steps p.tables e below (s₁.setTop (mkF m 0 #[.val (.ref a9_0), .val (.int p9_1), .val (.long q9_2), .second, .unset] [])) _
            rw [hl113]
            show Steps p.tables e below (s₁.setTop (mkF m 0 #[.val (.ref a9_0), .val (.int (4 : Int32)), .val (.long q9_2), .second, .unset] [])) _
            refine XS.aloadN X0.here hx rfl (hb hby d9_0) rfl rfl ?_
            refine XS.dup X0.here hx rfl (hb hby d9_1) rfl rfl ?_
            refine st114 _ ?_
            show Steps p.tables e below (T114.setTop (mkF m 5 #[.val (.ref a9_0), .val (.int (4 : Int32)), .val (.long q9_2), .second, .unset] [(.long w_total_a9_0), (.ref a9_0)])) _
            refine XS.lloadN X114.here hx rfl (hb hby d9_5) rfl ?_
            refine XS.ladd X114.here hx rfl (hb hby d9_6) rfl ?_
            refine st115 _ ?_
            show Steps p.tables e below (T115.setTop (mkF m 10 #[.val (.ref a9_0), .val (.int (4 : Int32)), .val (.long q9_2), .second, .unset] [])) _
            refine XS.iloadN X115.here hx rfl (hb hby d9_10) rfl ?_
            refine XS.iconst X115.here hx rfl (hb hby d9_11) ?_
            refine XS.iadd X115.here hx rfl (hb hby d9_12) rfl ?_
            show Steps p.tables e below (T115.setTop (mkF m 13 #[.val (.ref a9_0), .val (.int (4 : Int32)), .val (.long q9_2), .second, .unset] [(.int (5 : Int32))])) _
            refine XS.istore X115.here hx rfl (hb hby d9_13) rfl (l' := #[.val (.ref a9_0), .val (.int (4 : Int32)), .val (.long q9_2), .second, .val (.int (5 : Int32))]) rfl ?_
            refine XS.iload X115.here hx rfl (hb hby d9_15) rfl ?_
            refine XS.aloadN X115.here hx rfl (hb hby d9_17) rfl rfl ?_
            show Steps p.tables e below (T115.setTop (mkF m 18 #[.val (.ref a9_0), .val (.int (4 : Int32)), .val (.long q9_2), .second, .val (.int (5 : Int32))] [(.ref a9_0), (.int (5 : Int32))])) _
            refine st117 _ ?_
            show Steps p.tables e below (T117.setTop (mkF m 21 #[.val (.ref a9_0), .val (.int (4 : Int32)), .val (.long q9_2), .second, .val (.int (5 : Int32))] [(.ref w_tree_a9_0), (.int (5 : Int32))])) _
            refine X117.arraylength hx (cell := cl119) (by rw [e117]; exact Ar119.1) (State.isArrayOf_alike hZ.alike Ar119.2.1) (g := (mkF m 21 #[.val (.ref a9_0), .val (.int (4 : Int32)), .val (.long q9_2), .second, .val (.int (5 : Int32))] [(.ref w_tree_a9_0), (.int (5 : Int32))])) rfl (rest := [(.int (5 : Int32))]) rfl (hb hby d9_21) _ ?_
            rw [len_of Sz119 Nz119]
            show Steps p.tables e below (T117.setTop (mkF m 22 #[.val (.ref a9_0), .val (.int (4 : Int32)), .val (.long q9_2), .second, .val (.int (5 : Int32))] [(.int (8 : Int32)), (.int (5 : Int32))])) _
            refine XS.icmpNo X117.here hx rfl (hb hby d9_22) rfl (flt (by decide : ¬ ((8 : Int32) < (5 : Int32)))).2.2.1 ?_
            refine XS.aloadN X117.here hx rfl (hb hby d9_25) rfl rfl ?_
            refine st120 _ ?_
            show Steps p.tables e below (T120.setTop (mkF m 29 #[.val (.ref a9_0), .val (.int (4 : Int32)), .val (.long q9_2), .second, .val (.int (5 : Int32))] [(.ref w_tree_a9_0)])) _
            refine XS.iload X120.here hx rfl (hb hby d9_29) rfl ?_
            refine XS.iconst X120.here hx rfl (hb hby d9_31) ?_
            refine XS.isub X120.here hx rfl (hb hby d9_32) rfl ?_
            show Steps p.tables e below (T120.setTop (mkF m 33 #[.val (.ref a9_0), .val (.int (4 : Int32)), .val (.long q9_2), .second, .val (.int (5 : Int32))] [(.int (4 : Int32)), (.ref w_tree_a9_0)])) _
            jvm_step X120.here [X120.here.top, hx, (hb hby d9_33), Value.category]
            refine X120.laload hx (j := (4 : Int32)) (v := (.long t_w_tree_a9_0_4)) (by rw [e120]; exact Ar121.1) (State.isArrayOf_alike hZ.alike Ar121.2.1) Ar121.2.2 (inb_of Sz121 ⟨by decide, by decide⟩) (Hh121.at (inb_of Sz121 ⟨by decide, by decide⟩) rfl) (g := (mkF m 34 #[.val (.ref a9_0), .val (.int (4 : Int32)), .val (.long q9_2), .second, .val (.int (5 : Int32))] [(.int (4 : Int32)), (.ref w_tree_a9_0), (.int (4 : Int32)), (.ref w_tree_a9_0)])) rfl rfl (hb hby d9_34) _ ?_
            refine XS.lloadN X120.here hx rfl (hb hby d9_35) rfl ?_
            show Steps p.tables e below (T120.setTop (mkF m 36 #[.val (.ref a9_0), .val (.int (4 : Int32)), .val (.long q9_2), .second, .val (.int (5 : Int32))] [(.long q9_2), (.long t_w_tree_a9_0_4), (.int (4 : Int32)), (.ref w_tree_a9_0)])) _
            refine XS.ladd X120.here hx rfl (hb hby d9_36) rfl ?_
            refine st123 _ ?_
            refine XS.iload X123.here hx rfl (hb hby d9_38) rfl ?_
            show Steps p.tables e below (T123.setTop (mkF m 40 #[.val (.ref a9_0), .val (.int (4 : Int32)), .val (.long q9_2), .second, .val (.int (5 : Int32))] [(.int (5 : Int32))])) _
            refine XS.iload X123.here hx rfl (hb hby d9_40) rfl ?_
            refine XS.iload X123.here hx rfl (hb hby d9_42) rfl ?_
            refine XS.ineg X123.here hx rfl (hb hby d9_44) rfl ?_
            show Steps p.tables e below (T123.setTop (mkF m 45 #[.val (.ref a9_0), .val (.int (4 : Int32)), .val (.long q9_2), .second, .val (.int (5 : Int32))] [(.int (-5 : Int32)), (.int (5 : Int32)), (.int (5 : Int32))])) _
            refine XS.iand X123.here hx rfl (hb hby d9_45) rfl ?_
            refine XS.iadd X123.here hx rfl (hb hby d9_46) rfl ?_
            refine XS.istore X123.here hx rfl (hb hby d9_47) rfl (l' := #[.val (.ref a9_0), .val (.int (4 : Int32)), .val (.long q9_2), .second, .val (.int (6 : Int32))]) rfl ?_
            show Steps p.tables e below (T123.setTop (mkF m 49 #[.val (.ref a9_0), .val (.int (4 : Int32)), .val (.long q9_2), .second, .val (.int (6 : Int32))] [])) _
            refine XS.goto X123.here hx rfl (pc0 := 49) (pc' := 15) rfl (hb hby d9_49) (by decide) (by decide) ?_
            refine XS.iload X123.here hx rfl (hb hby d9_15) rfl ?_
            refine XS.aloadN X123.here hx rfl (hb hby d9_17) rfl rfl ?_
            show Steps p.tables e below (T123.setTop (mkF m 18 #[.val (.ref a9_0), .val (.int (4 : Int32)), .val (.long q9_2), .second, .val (.int (6 : Int32))] [(.ref a9_0), (.int (6 : Int32))])) _
            refine st125 _ ?_
            show Steps p.tables e below (T125.setTop (mkF m 21 #[.val (.ref a9_0), .val (.int (4 : Int32)), .val (.long q9_2), .second, .val (.int (6 : Int32))] [(.ref w_tree_a9_0), (.int (6 : Int32))])) _
            refine X125.arraylength hx (cell := cl126) (by rw [e125]; exact Ar126.1) (State.isArrayOf_alike hZ.alike Ar126.2.1) (g := (mkF m 21 #[.val (.ref a9_0), .val (.int (4 : Int32)), .val (.long q9_2), .second, .val (.int (6 : Int32))] [(.ref w_tree_a9_0), (.int (6 : Int32))])) rfl (rest := [(.int (6 : Int32))]) rfl (hb hby d9_21) _ ?_
            rw [len_of Sz126 Nz126]
            show Steps p.tables e below (T125.setTop (mkF m 22 #[.val (.ref a9_0), .val (.int (4 : Int32)), .val (.long q9_2), .second, .val (.int (6 : Int32))] [(.int (8 : Int32)), (.int (6 : Int32))])) _
            refine XS.icmpNo X125.here hx rfl (hb hby d9_22) rfl (flt (by decide : ¬ ((8 : Int32) < (6 : Int32)))).2.2.1 ?_
            refine XS.aloadN X125.here hx rfl (hb hby d9_25) rfl rfl ?_
            refine st127 _ ?_
            show Steps p.tables e below (T127.setTop (mkF m 29 #[.val (.ref a9_0), .val (.int (4 : Int32)), .val (.long q9_2), .second, .val (.int (6 : Int32))] [(.ref w_tree_a9_0)])) _
            refine XS.iload X127.here hx rfl (hb hby d9_29) rfl ?_
            refine XS.iconst X127.here hx rfl (hb hby d9_31) ?_
            refine XS.isub X127.here hx rfl (hb hby d9_32) rfl ?_
            show Steps p.tables e below (T127.setTop (mkF m 33 #[.val (.ref a9_0), .val (.int (4 : Int32)), .val (.long q9_2), .second, .val (.int (6 : Int32))] [(.int (5 : Int32)), (.ref w_tree_a9_0)])) _
            jvm_step X127.here [X127.here.top, hx, (hb hby d9_33), Value.category]
            refine X127.laload hx (j := (5 : Int32)) (v := (.long t_w_tree_a9_0_5)) (by rw [e127]; exact Ar128.1) (State.isArrayOf_alike hZ.alike Ar128.2.1) Ar128.2.2 (inb_of Sz128 ⟨by decide, by decide⟩) (Hh128.at (inb_of Sz128 ⟨by decide, by decide⟩) rfl) (g := (mkF m 34 #[.val (.ref a9_0), .val (.int (4 : Int32)), .val (.long q9_2), .second, .val (.int (6 : Int32))] [(.int (5 : Int32)), (.ref w_tree_a9_0), (.int (5 : Int32)), (.ref w_tree_a9_0)])) rfl rfl (hb hby d9_34) _ ?_
            refine XS.lloadN X127.here hx rfl (hb hby d9_35) rfl ?_
            show Steps p.tables e below (T127.setTop (mkF m 36 #[.val (.ref a9_0), .val (.int (4 : Int32)), .val (.long q9_2), .second, .val (.int (6 : Int32))] [(.long q9_2), (.long t_w_tree_a9_0_5), (.int (5 : Int32)), (.ref w_tree_a9_0)])) _
            refine XS.ladd X127.here hx rfl (hb hby d9_36) rfl ?_
            refine st130 _ ?_
            refine XS.iload X130.here hx rfl (hb hby d9_38) rfl ?_
            show Steps p.tables e below (T130.setTop (mkF m 40 #[.val (.ref a9_0), .val (.int (4 : Int32)), .val (.long q9_2), .second, .val (.int (6 : Int32))] [(.int (6 : Int32))])) _
            refine XS.iload X130.here hx rfl (hb hby d9_40) rfl ?_
            refine XS.iload X130.here hx rfl (hb hby d9_42) rfl ?_
            refine XS.ineg X130.here hx rfl (hb hby d9_44) rfl ?_
            show Steps p.tables e below (T130.setTop (mkF m 45 #[.val (.ref a9_0), .val (.int (4 : Int32)), .val (.long q9_2), .second, .val (.int (6 : Int32))] [(.int (-6 : Int32)), (.int (6 : Int32)), (.int (6 : Int32))])) _
            refine XS.iand X130.here hx rfl (hb hby d9_45) rfl ?_
            refine XS.iadd X130.here hx rfl (hb hby d9_46) rfl ?_
            refine XS.istore X130.here hx rfl (hb hby d9_47) rfl (l' := #[.val (.ref a9_0), .val (.int (4 : Int32)), .val (.long q9_2), .second, .val (.int (8 : Int32))]) rfl ?_
            show Steps p.tables e below (T130.setTop (mkF m 49 #[.val (.ref a9_0), .val (.int (4 : Int32)), .val (.long q9_2), .second, .val (.int (8 : Int32))] [])) _
            refine XS.goto X130.here hx rfl (pc0 := 49) (pc' := 15) rfl (hb hby d9_49) (by decide) (by decide) ?_
            refine XS.iload X130.here hx rfl (hb hby d9_15) rfl ?_
            refine XS.aloadN X130.here hx rfl (hb hby d9_17) rfl rfl ?_
            show Steps p.tables e below (T130.setTop (mkF m 18 #[.val (.ref a9_0), .val (.int (4 : Int32)), .val (.long q9_2), .second, .val (.int (8 : Int32))] [(.ref a9_0), (.int (8 : Int32))])) _
            refine st132 _ ?_
            show Steps p.tables e below (T132.setTop (mkF m 21 #[.val (.ref a9_0), .val (.int (4 : Int32)), .val (.long q9_2), .second, .val (.int (8 : Int32))] [(.ref w_tree_a9_0), (.int (8 : Int32))])) _
            refine X132.arraylength hx (cell := cl133) (by rw [e132]; exact Ar133.1) (State.isArrayOf_alike hZ.alike Ar133.2.1) (g := (mkF m 21 #[.val (.ref a9_0), .val (.int (4 : Int32)), .val (.long q9_2), .second, .val (.int (8 : Int32))] [(.ref w_tree_a9_0), (.int (8 : Int32))])) rfl (rest := [(.int (8 : Int32))]) rfl (hb hby d9_21) _ ?_
            rw [len_of Sz133 Nz133]
            show Steps p.tables e below (T132.setTop (mkF m 22 #[.val (.ref a9_0), .val (.int (4 : Int32)), .val (.long q9_2), .second, .val (.int (8 : Int32))] [(.int (8 : Int32)), (.int (8 : Int32))])) _
            refine XS.icmpNo X132.here hx rfl (hb hby d9_22) rfl (flt (by decide : ¬ ((8 : Int32) < (8 : Int32)))).2.2.1 ?_
            refine XS.aloadN X132.here hx rfl (hb hby d9_25) rfl rfl ?_
            refine st134 _ ?_
            show Steps p.tables e below (T134.setTop (mkF m 29 #[.val (.ref a9_0), .val (.int (4 : Int32)), .val (.long q9_2), .second, .val (.int (8 : Int32))] [(.ref w_tree_a9_0)])) _
            refine XS.iload X134.here hx rfl (hb hby d9_29) rfl ?_
            refine XS.iconst X134.here hx rfl (hb hby d9_31) ?_
            refine XS.isub X134.here hx rfl (hb hby d9_32) rfl ?_
            show Steps p.tables e below (T134.setTop (mkF m 33 #[.val (.ref a9_0), .val (.int (4 : Int32)), .val (.long q9_2), .second, .val (.int (8 : Int32))] [(.int (7 : Int32)), (.ref w_tree_a9_0)])) _
            jvm_step X134.here [X134.here.top, hx, (hb hby d9_33), Value.category]
            refine X134.laload hx (j := (7 : Int32)) (v := (.long t_w_tree_a9_0_7)) (by rw [e134]; exact Ar135.1) (State.isArrayOf_alike hZ.alike Ar135.2.1) Ar135.2.2 (inb_of Sz135 ⟨by decide, by decide⟩) (Hh135.at (inb_of Sz135 ⟨by decide, by decide⟩) rfl) (g := (mkF m 34 #[.val (.ref a9_0), .val (.int (4 : Int32)), .val (.long q9_2), .second, .val (.int (8 : Int32))] [(.int (7 : Int32)), (.ref w_tree_a9_0), (.int (7 : Int32)), (.ref w_tree_a9_0)])) rfl rfl (hb hby d9_34) _ ?_
            refine XS.lloadN X134.here hx rfl (hb hby d9_35) rfl ?_
            show Steps p.tables e below (T134.setTop (mkF m 36 #[.val (.ref a9_0), .val (.int (4 : Int32)), .val (.long q9_2), .second, .val (.int (8 : Int32))] [(.long q9_2), (.long t_w_tree_a9_0_7), (.int (7 : Int32)), (.ref w_tree_a9_0)])) _
            refine XS.ladd X134.here hx rfl (hb hby d9_36) rfl ?_
            refine st137 _ ?_
            refine XS.iload X137.here hx rfl (hb hby d9_38) rfl ?_
            show Steps p.tables e below (T137.setTop (mkF m 40 #[.val (.ref a9_0), .val (.int (4 : Int32)), .val (.long q9_2), .second, .val (.int (8 : Int32))] [(.int (8 : Int32))])) _
            refine XS.iload X137.here hx rfl (hb hby d9_40) rfl ?_
            refine XS.iload X137.here hx rfl (hb hby d9_42) rfl ?_
            refine XS.ineg X137.here hx rfl (hb hby d9_44) rfl ?_
            show Steps p.tables e below (T137.setTop (mkF m 45 #[.val (.ref a9_0), .val (.int (4 : Int32)), .val (.long q9_2), .second, .val (.int (8 : Int32))] [(.int (-8 : Int32)), (.int (8 : Int32)), (.int (8 : Int32))])) _
            refine XS.iand X137.here hx rfl (hb hby d9_45) rfl ?_
            refine XS.iadd X137.here hx rfl (hb hby d9_46) rfl ?_
            refine XS.istore X137.here hx rfl (hb hby d9_47) rfl (l' := #[.val (.ref a9_0), .val (.int (4 : Int32)), .val (.long q9_2), .second, .val (.int (16 : Int32))]) rfl ?_
            show Steps p.tables e below (T137.setTop (mkF m 49 #[.val (.ref a9_0), .val (.int (4 : Int32)), .val (.long q9_2), .second, .val (.int (16 : Int32))] [])) _
            refine XS.goto X137.here hx rfl (pc0 := 49) (pc' := 15) rfl (hb hby d9_49) (by decide) (by decide) ?_
            refine XS.iload X137.here hx rfl (hb hby d9_15) rfl ?_
            refine XS.aloadN X137.here hx rfl (hb hby d9_17) rfl rfl ?_
            show Steps p.tables e below (T137.setTop (mkF m 18 #[.val (.ref a9_0), .val (.int (4 : Int32)), .val (.long q9_2), .second, .val (.int (16 : Int32))] [(.ref a9_0), (.int (16 : Int32))])) _
            refine st139 _ ?_
            show Steps p.tables e below (T139.setTop (mkF m 21 #[.val (.ref a9_0), .val (.int (4 : Int32)), .val (.long q9_2), .second, .val (.int (16 : Int32))] [(.ref w_tree_a9_0), (.int (16 : Int32))])) _
            refine X139.arraylength hx (cell := cl140) (by rw [e139]; exact Ar140.1) (State.isArrayOf_alike hZ.alike Ar140.2.1) (g := (mkF m 21 #[.val (.ref a9_0), .val (.int (4 : Int32)), .val (.long q9_2), .second, .val (.int (16 : Int32))] [(.ref w_tree_a9_0), (.int (16 : Int32))])) rfl (rest := [(.int (16 : Int32))]) rfl (hb hby d9_21) _ ?_
            rw [len_of Sz140 Nz140]
            show Steps p.tables e below (T139.setTop (mkF m 22 #[.val (.ref a9_0), .val (.int (4 : Int32)), .val (.long q9_2), .second, .val (.int (16 : Int32))] [(.int (8 : Int32)), (.int (16 : Int32))])) _
            refine XS.icmpYes X139.here hx rfl (pc0 := 22) (pc' := 52) rfl (hb hby d9_22) rfl (tlt (by decide : (8 : Int32) < (16 : Int32))).2.2.1 (by decide) (by decide) ?_
            show Steps p.tables e below (T139.setTop (mkF m 52 #[.val (.ref a9_0), .val (.int (4 : Int32)), .val (.long q9_2), .second, .val (.int (16 : Int32))] [])) _
            exact X139.returnOut hx Bd.returns (hb hby d9_52) hr
          · have f153 := ((((E_a9_0.wr W115).wr W123).wr W130).wr W137)
            have f154 := ((((F_size_a9_0.other W115 (Or.inr (slot_ne (Or.inl (ow29 hw)) (Or.inl (ow51 hw)) (by decide) (t := .int) (t' := .long) (by decide) (by decide)))).other W123 (Or.inl (Ne.symm ne_w_tree_a9_0_a9_0))).other W130 (Or.inl (Ne.symm ne_w_tree_a9_0_a9_0))).other W137 (Or.inl (Ne.symm ne_w_tree_a9_0_a9_0)))
            have f155 := (((F115.other W123 (Or.inl (Ne.symm ne_w_tree_a9_0_a9_0))).other W130 (Or.inl (Ne.symm ne_w_tree_a9_0_a9_0))).other W137 (Or.inl (Ne.symm ne_w_tree_a9_0_a9_0)))
            show Q_rm9_6 Z a9_0 p9_1 q9_2 w_tree_a9_0 w_total_a9_0 kc_w_tree_a9_0 t_w_tree_a9_0_0 t_w_tree_a9_0_1 t_w_tree_a9_0_2 t_w_tree_a9_0_3 t_w_tree_a9_0_4 t_w_tree_a9_0_5 t_w_tree_a9_0_6 t_w_tree_a9_0_7 h0 n0 _ T139.heap _
            rw [e139]
            exact ⟨rfl, N137, K137, f153, f138, f154, f155, (own_arv V137 (own_cons (congrArg Value.long (if_neg hb1)) (own_cons (congrArg Value.long ((if_neg hb1).trans (if_neg hb36))) (own_cons (congrArg Value.long ((if_neg hb1).trans ((if_neg hb36).trans (if_neg hb64)))) (own_cons (congrArg Value.long ((if_neg hb1).trans ((if_neg hb36).trans ((if_neg hb64).trans (if_neg hb92))))) (own_cons (congrArg Value.long ((if_neg hb1).trans ((if_neg hb36).trans ((if_neg hb64).trans (if_neg hb92))))) (own_cons (congrArg Value.long ((if_neg hb1).trans ((if_neg hb36).trans ((if_neg hb64).trans (if_neg hb92))))) (own_cons rfl (own_cons rfl rfl)))))))))⟩
theorem d11_0 : decode prog_14_method_5_code 0 = .ok (.aload_n 0, 1) := by decide +kernel
theorem d11_1 : decode prog_14_method_5_code 1 = .ok (.getfield 29, 3) := by decide +kernel
theorem d11_4 : decode prog_14_method_5_code 4 = .ok (.lreturn, 1) := by decide +kernel
theorem pn_11 : plainName "com/example/motley/motley/CountTree" = true := by first | (simp [plainName, overriddenIn]; done) | decide +kernel
theorem ef_rm11_1 (m : MethodId) (y0 : Addr) : entryFrame m #[(.ref y0)] 1 = mkF m 0 #[.val (.ref y0)] [] := by first | (simp [entryFrame, mkF, argsToLocals, Value.category]; done) | rfl
def Q_rm11_1 (Z : State) (a11_0 : Addr) (w_tree_a11_0 : Addr) (w_total_a11_0 : Int64) (kc_w_tree_a11_0 : ClassId) (t_w_tree_a11_0_0 : Int64) (t_w_tree_a11_0_1 : Int64) (t_w_tree_a11_0_2 : Int64) (t_w_tree_a11_0_3 : Int64) (t_w_tree_a11_0_4 : Int64) (t_w_tree_a11_0_5 : Int64) (t_w_tree_a11_0_6 : Int64) (t_w_tree_a11_0_7 : Int64) (h0 : Heap) (n0 : Nat) (v : Option Value) (h : Heap) (L : List Loc) : Prop := v = some (.long w_total_a11_0) ∧ Fr n0 L ∧ h = h0
set_option maxRecDepth 65536 in
set_option maxHeartbeats 40000000 in
theorem rm11_1 (l : Launch) (Z : State) (a0 : Array Value) (hw : ∀ d ∈ tables_1, d.before a0 Z = true) (ws : List Jvm.Cond) (a11_0 : Addr) (w_tree_a11_0 : Addr) (w_total_a11_0 : Int64) (kc_w_tree_a11_0 : ClassId) (t_w_tree_a11_0_0 : Int64) (t_w_tree_a11_0_1 : Int64) (t_w_tree_a11_0_2 : Int64) (t_w_tree_a11_0_3 : Int64) (t_w_tree_a11_0_4 : Int64) (t_w_tree_a11_0_5 : Int64) (t_w_tree_a11_0_6 : Int64) (t_w_tree_a11_0_7 : Int64) (h0 : Heap) (n0 : Nat) (Z0 : n0 ≤ h0.size) (E_a11_0 : Exa Z h0 a11_0 "com/example/motley/motley/CountTree") (F_tree_a11_0 : Fld Z h0 a11_0 "com/example/motley/motley/CountTree" "tree" "[J" (.ref w_tree_a11_0)) (F_size_a11_0 : Fld Z h0 a11_0 "com/example/motley/motley/CountTree" "size" "I" (.int (5 : Int32))) (F_total_a11_0 : Fld Z h0 a11_0 "com/example/motley/motley/CountTree" "total" "J" (.long w_total_a11_0)) (V_w_tree_a11_0 : Arv Z h0 w_tree_a11_0 kc_w_tree_a11_0 .long (8 : Int32) [(.long t_w_tree_a11_0_0), (.long t_w_tree_a11_0_1), (.long t_w_tree_a11_0_2), (.long t_w_tree_a11_0_3), (.long t_w_tree_a11_0_4), (.long t_w_tree_a11_0_5), (.long t_w_tree_a11_0_6), (.long t_w_tree_a11_0_7)] (.long (0 : Int64))) :
    MetFree l (⟨"com/example/motley/motley/CountTree", "total", "()J"⟩ : MethodName) (head1 (Jvm.Cond.code (⟨"com/example/motley/motley/CountTree", "total", "()J"⟩ : MethodName) prog_14_method_5_code 1 (some .long) :: ws) ({ frames := 0, cells := 0, slots := 0, locals := 0 } : Room)) (fun a U => a = #[(.ref a11_0)] ∧ Z.Warmed39 U.vm ∧ U.heap = h0) (fun _ _ _ _ _ => True) (fun _ U o U' => ∃ v L, o = .returned v ∧ Q_rm11_1 Z a11_0 w_tree_a11_0 w_total_a11_0 kc_w_tree_a11_0 t_w_tree_a11_0_0 t_w_tree_a11_0_1 t_w_tree_a11_0_2 t_w_tree_a11_0_3 t_w_tree_a11_0_4 t_w_tree_a11_0_5 t_w_tree_a11_0_6 t_w_tree_a11_0_7 h0 n0 v U'.heap L ∧ FrameEnd U o U' L ({ frames := 0, cells := 0, slots := 0, locals := 0 } : Room).cells ({ frames := 0, cells := 0, slots := 0, locals := 0 } : Room).slots) := by
  refine MetFree.of_bodySF (plainFor_of_name pn_11) hisR ?_
  intro p e s m args below meth c s₁ Bd hml0 hP hK
  obtain ⟨rfl, hZ, hh⟩ := hP
  have hx := Bd.exec
  have hby := Bd.bytes
  have hml : c.maxLocals = 1 := hml0
  have hown : s.vm.findClass "com/example/motley/motley/CountTree" = some m.cls := findClass_of_methodNamed Bd.named
  have hnm := (name_of_methodNamed Bd.named Bd.method).1
  have X0 : Stand p l e ({ frames := 0, cells := 0, slots := 0, locals := 0 } : Room) s m #[(.ref a11_0)] below meth c s₁ [] 0 0 := Stand.of_body Bd
  have e0 : s₁.heap = h0 := by rw [← hh, Bd.state]; rfl
  have N0 := Fr.nil n0
  have pre0 : ∀ t, Steps p.tables e below (s₁.setTop (mkF m 0 #[.val (.ref a11_0)] [])) t → Steps p.tables e below (s₁.setTop (entryFrame m #[(.ref a11_0)] 1)) t := fun t k => castTop (ef_rm11_1 m a11_0) k
  obtain ⟨T1, X1, e1, st1⟩ := getF X0 hx hZ hown (host := "") (Or.inl (ow50 hw)) Via.refl e0 F_total_a11_0 (g := (mkF m 1 #[.val (.ref a11_0)] [(.ref a11_0)])) rfl rfl (hb hby d11_1)
  obtain ⟨fs, hr, hrun, hended, hW, hsame⟩ := X1.leave (v := some (.long w_total_a11_0)) (fun h => by rw [Bd.returns] at h; cases h)
  refine ⟨_, _, pre0 _ ?_, hrun, hended, _, _, rfl, ?_, ⟨_, rfl⟩, hW, hsame.mono (by decide) (by decide)⟩
  · show Steps p.tables e below (s₁.setTop (mkF m 0 #[.val (.ref a11_0)] [])) _
    refine XS.aloadN X0.here hx rfl (hb hby d11_0) rfl rfl ?_
    refine st1 _ ?_
    show Steps p.tables e below (T1.setTop (mkF m 4 #[.val (.ref a11_0)] [(.long w_total_a11_0)])) _
    exact own_retJ X1 hx Bd.returns (hb hby d11_4) hr
  · show Q_rm11_1 Z a11_0 w_tree_a11_0 w_total_a11_0 kc_w_tree_a11_0 t_w_tree_a11_0_0 t_w_tree_a11_0_1 t_w_tree_a11_0_2 t_w_tree_a11_0_3 t_w_tree_a11_0_4 t_w_tree_a11_0_5 t_w_tree_a11_0_6 t_w_tree_a11_0_7 h0 n0 _ T1.heap _
    rw [e1]
    exact ⟨rfl, N0, rfl⟩
theorem pd___J : parseMethodDescriptor "()J" = some ⟨[], some .long⟩ := by decide +kernel
theorem d10_10 : decode prog_14_method_8_code 10 = .ok (.lload_n 2, 1) := by decide +kernel
theorem d10_11 : decode prog_14_method_8_code 11 = .ok (.aload_n 0, 1) := by decide +kernel
theorem d10_12 : decode prog_14_method_8_code 12 = .ok (.getfield 7, 3) := by decide +kernel
theorem d10_15 : decode prog_14_method_8_code 15 = .ok (.iload 4, 2) := by decide +kernel
theorem d10_17 : decode prog_14_method_8_code 17 = .ok (.iconst 1, 1) := by decide +kernel
theorem d10_18 : decode prog_14_method_8_code 18 = .ok (.isub, 1) := by decide +kernel
theorem d10_19 : decode prog_14_method_8_code 19 = .ok (.laload, 1) := by decide +kernel
theorem d10_20 : decode prog_14_method_8_code 20 = .ok (.ladd, 1) := by decide +kernel
theorem d10_21 : decode prog_14_method_8_code 21 = .ok (.lstore_n 2, 1) := by decide +kernel
theorem d10_22 : decode prog_14_method_8_code 22 = .ok (.iload 4, 2) := by decide +kernel
theorem d10_24 : decode prog_14_method_8_code 24 = .ok (.iload 4, 2) := by decide +kernel
theorem d10_26 : decode prog_14_method_8_code 26 = .ok (.iload 4, 2) := by decide +kernel
theorem d10_28 : decode prog_14_method_8_code 28 = .ok (.ineg, 1) := by decide +kernel
theorem d10_29 : decode prog_14_method_8_code 29 = .ok (.iand, 1) := by decide +kernel
theorem d10_30 : decode prog_14_method_8_code 30 = .ok (.isub, 1) := by decide +kernel
theorem d10_31 : decode prog_14_method_8_code 31 = .ok (.istore 4, 2) := by decide +kernel
theorem d10_33 : decode prog_14_method_8_code 33 = .ok (.goto (-28), 3) := by decide +kernel
theorem ef_rm10_4 (m : MethodId) (y0 : Addr) : entryFrame m #[(.ref y0), (.int (1 : Int32))] 5 = mkF m 0 #[.val (.ref y0), .val (.int (1 : Int32)), .unset, .unset, .unset] [] := by first | (simp [entryFrame, mkF, argsToLocals, Value.category]; done) | rfl
def Q_rm10_4 (Z : State) (a10_0 : Addr) (w_tree_a10_0 : Addr) (w_total_a10_0 : Int64) (kc_w_tree_a10_0 : ClassId) (t_w_tree_a10_0_0 : Int64) (t_w_tree_a10_0_1 : Int64) (t_w_tree_a10_0_2 : Int64) (t_w_tree_a10_0_3 : Int64) (t_w_tree_a10_0_4 : Int64) (t_w_tree_a10_0_5 : Int64) (t_w_tree_a10_0_6 : Int64) (t_w_tree_a10_0_7 : Int64) (h0 : Heap) (n0 : Nat) (v : Option Value) (h : Heap) (L : List Loc) : Prop := v = some (.long ((0 : Int64) + t_w_tree_a10_0_0)) ∧ Fr n0 L ∧ h = h0
set_option maxRecDepth 65536 in
set_option maxHeartbeats 40000000 in
theorem rm10_4 (l : Launch) (Z : State) (a0 : Array Value) (hw : ∀ d ∈ tables_1, d.before a0 Z = true) (ws : List Jvm.Cond) (a10_0 : Addr) (w_tree_a10_0 : Addr) (w_total_a10_0 : Int64) (kc_w_tree_a10_0 : ClassId) (t_w_tree_a10_0_0 : Int64) (t_w_tree_a10_0_1 : Int64) (t_w_tree_a10_0_2 : Int64) (t_w_tree_a10_0_3 : Int64) (t_w_tree_a10_0_4 : Int64) (t_w_tree_a10_0_5 : Int64) (t_w_tree_a10_0_6 : Int64) (t_w_tree_a10_0_7 : Int64) (h0 : Heap) (n0 : Nat) (Z0 : n0 ≤ h0.size) (E_a10_0 : Exa Z h0 a10_0 "com/example/motley/motley/CountTree") (F_tree_a10_0 : Fld Z h0 a10_0 "com/example/motley/motley/CountTree" "tree" "[J" (.ref w_tree_a10_0)) (F_size_a10_0 : Fld Z h0 a10_0 "com/example/motley/motley/CountTree" "size" "I" (.int (5 : Int32))) (F_total_a10_0 : Fld Z h0 a10_0 "com/example/motley/motley/CountTree" "total" "J" (.long w_total_a10_0)) (V_w_tree_a10_0 : Arv Z h0 w_tree_a10_0 kc_w_tree_a10_0 .long (8 : Int32) [(.long t_w_tree_a10_0_0), (.long t_w_tree_a10_0_1), (.long t_w_tree_a10_0_2), (.long t_w_tree_a10_0_3), (.long t_w_tree_a10_0_4), (.long t_w_tree_a10_0_5), (.long t_w_tree_a10_0_6), (.long t_w_tree_a10_0_7)] (.long (0 : Int64))) :
    MetFree l (⟨"com/example/motley/motley/CountTree", "sumBefore", "(I)J"⟩ : MethodName) (head1 (Jvm.Cond.code (⟨"com/example/motley/motley/CountTree", "sumBefore", "(I)J"⟩ : MethodName) prog_14_method_8_code 5 (some .long) :: ws) ({ frames := 0, cells := 0, slots := 0, locals := 0 } : Room)) (fun a U => a = #[(.ref a10_0), (.int (1 : Int32))] ∧ Z.Warmed39 U.vm ∧ U.heap = h0) (fun _ _ _ _ _ => True) (fun _ U o U' => ∃ v L, o = .returned v ∧ Q_rm10_4 Z a10_0 w_tree_a10_0 w_total_a10_0 kc_w_tree_a10_0 t_w_tree_a10_0_0 t_w_tree_a10_0_1 t_w_tree_a10_0_2 t_w_tree_a10_0_3 t_w_tree_a10_0_4 t_w_tree_a10_0_5 t_w_tree_a10_0_6 t_w_tree_a10_0_7 h0 n0 v U'.heap L ∧ FrameEnd U o U' L ({ frames := 0, cells := 0, slots := 0, locals := 0 } : Room).cells ({ frames := 0, cells := 0, slots := 0, locals := 0 } : Room).slots) := by
  refine MetFree.of_bodySF (plainFor_of_name pn_10) hisR ?_
  intro p e s m args below meth c s₁ Bd hml0 hP hK
  obtain ⟨rfl, hZ, hh⟩ := hP
  have hx := Bd.exec
  have hby := Bd.bytes
  have hml : c.maxLocals = 5 := hml0
  have hown : s.vm.findClass "com/example/motley/motley/CountTree" = some m.cls := findClass_of_methodNamed Bd.named
  have hnm := (name_of_methodNamed Bd.named Bd.method).1
  have X0 : Stand p l e ({ frames := 0, cells := 0, slots := 0, locals := 0 } : Room) s m #[(.ref a10_0), (.int (1 : Int32))] below meth c s₁ [] 0 0 := Stand.of_body Bd
  have e0 : s₁.heap = h0 := by rw [← hh, Bd.state]; rfl
  have N0 := Fr.nil n0
  have pre0 : ∀ t, Steps p.tables e below (s₁.setTop (mkF m 0 #[.val (.ref a10_0), .val (.int (1 : Int32)), .unset, .unset, .unset] [])) t → Steps p.tables e below (s₁.setTop (entryFrame m #[(.ref a10_0), (.int (1 : Int32))] 5)) t := fun t k => castTop (ef_rm10_4 m a10_0) k
  obtain ⟨T1, X1, e1, st1⟩ := getF X0 hx hZ hown (host := "") (Or.inl (ow16 hw)) Via.refl e0 F_tree_a10_0 (g := (mkF m 12 #[.val (.ref a10_0), .val (.int (1 : Int32)), .val (.long (0 : Int64)), .second, .val (.int (1 : Int32))] [(.ref a10_0), (.long (0 : Int64))])) rfl rfl (hb hby d10_12)
  obtain ⟨cl2, Ar2, qk2, Sz2, Nz2, Hh2, Gf2⟩ := id V_w_tree_a10_0
  obtain ⟨fs, hr, hrun, hended, hW, hsame⟩ := X1.leave (v := some (.long ((0 : Int64) + t_w_tree_a10_0_0))) (fun h => by rw [Bd.returns] at h; cases h)
  refine ⟨_, _, pre0 _ ?_, hrun, hended, _, _, rfl, ?_, ⟨_, rfl⟩, hW, hsame.mono (by decide) (by decide)⟩
  · show Steps p.tables e below (s₁.setTop (mkF m 0 #[.val (.ref a10_0), .val (.int (1 : Int32)), .unset, .unset, .unset] [])) _
    refine XS.lconst X0.here hx rfl (hb hby d10_0) ?_
    refine XS.lstoreN X0.here hx rfl (hb hby d10_1) rfl (l' := #[.val (.ref a10_0), .val (.int (1 : Int32)), .val (.long (0 : Int64)), .second, .unset]) rfl ?_
    refine XS.iloadN X0.here hx rfl (hb hby d10_2) rfl ?_
    show Steps p.tables e below (s₁.setTop (mkF m 3 #[.val (.ref a10_0), .val (.int (1 : Int32)), .val (.long (0 : Int64)), .second, .unset] [(.int (1 : Int32))])) _
    refine XS.istore X0.here hx rfl (hb hby d10_3) rfl (l' := #[.val (.ref a10_0), .val (.int (1 : Int32)), .val (.long (0 : Int64)), .second, .val (.int (1 : Int32))]) rfl ?_
    refine XS.iload X0.here hx rfl (hb hby d10_5) rfl ?_
    show Steps p.tables e below (s₁.setTop (mkF m 7 #[.val (.ref a10_0), .val (.int (1 : Int32)), .val (.long (0 : Int64)), .second, .val (.int (1 : Int32))] [(.int (1 : Int32))])) _
    refine XS.ifNo X0.here hx rfl (hb hby d10_7) rfl ((if0 _ _).trans (tlt (by decide : (0 : Int32) < (1 : Int32))).2.2.2) ?_
    refine XS.lloadN X0.here hx rfl (hb hby d10_10) rfl ?_
    refine XS.aloadN X0.here hx rfl (hb hby d10_11) rfl rfl ?_
    show Steps p.tables e below (s₁.setTop (mkF m 12 #[.val (.ref a10_0), .val (.int (1 : Int32)), .val (.long (0 : Int64)), .second, .val (.int (1 : Int32))] [(.ref a10_0), (.long (0 : Int64))])) _
    refine st1 _ ?_
    refine XS.iload X1.here hx rfl (hb hby d10_15) rfl ?_
    refine XS.iconst X1.here hx rfl (hb hby d10_17) ?_
    show Steps p.tables e below (T1.setTop (mkF m 18 #[.val (.ref a10_0), .val (.int (1 : Int32)), .val (.long (0 : Int64)), .second, .val (.int (1 : Int32))] [(.int (1 : Int32)), (.int (1 : Int32)), (.ref w_tree_a10_0), (.long (0 : Int64))])) _
    refine XS.isub X1.here hx rfl (hb hby d10_18) rfl ?_
    refine X1.laload hx (j := (0 : Int32)) (v := (.long t_w_tree_a10_0_0)) (by rw [e1]; exact Ar2.1) (State.isArrayOf_alike hZ.alike Ar2.2.1) Ar2.2.2 (inb_of Sz2 ⟨by decide, by decide⟩) (Hh2.at (inb_of Sz2 ⟨by decide, by decide⟩) rfl) (g := (mkF m 19 #[.val (.ref a10_0), .val (.int (1 : Int32)), .val (.long (0 : Int64)), .second, .val (.int (1 : Int32))] [(.int (0 : Int32)), (.ref w_tree_a10_0), (.long (0 : Int64))])) rfl rfl (hb hby d10_19) _ ?_
    refine XS.ladd X1.here hx rfl (hb hby d10_20) rfl ?_
    show Steps p.tables e below (T1.setTop (mkF m 21 #[.val (.ref a10_0), .val (.int (1 : Int32)), .val (.long (0 : Int64)), .second, .val (.int (1 : Int32))] [(.long ((0 : Int64) + t_w_tree_a10_0_0))])) _
    refine XS.lstoreN X1.here hx rfl (hb hby d10_21) rfl (l' := #[.val (.ref a10_0), .val (.int (1 : Int32)), .val (.long ((0 : Int64) + t_w_tree_a10_0_0)), .second, .val (.int (1 : Int32))]) rfl ?_
    refine XS.iload X1.here hx rfl (hb hby d10_22) rfl ?_
    refine XS.iload X1.here hx rfl (hb hby d10_24) rfl ?_
    show Steps p.tables e below (T1.setTop (mkF m 26 #[.val (.ref a10_0), .val (.int (1 : Int32)), .val (.long ((0 : Int64) + t_w_tree_a10_0_0)), .second, .val (.int (1 : Int32))] [(.int (1 : Int32)), (.int (1 : Int32))])) _
    refine XS.iload X1.here hx rfl (hb hby d10_26) rfl ?_
    refine XS.ineg X1.here hx rfl (hb hby d10_28) rfl ?_
    refine XS.iand X1.here hx rfl (hb hby d10_29) rfl ?_
    show Steps p.tables e below (T1.setTop (mkF m 30 #[.val (.ref a10_0), .val (.int (1 : Int32)), .val (.long ((0 : Int64) + t_w_tree_a10_0_0)), .second, .val (.int (1 : Int32))] [(.int (1 : Int32)), (.int (1 : Int32))])) _
    refine XS.isub X1.here hx rfl (hb hby d10_30) rfl ?_
    refine XS.istore X1.here hx rfl (hb hby d10_31) rfl (l' := #[.val (.ref a10_0), .val (.int (1 : Int32)), .val (.long ((0 : Int64) + t_w_tree_a10_0_0)), .second, .val (.int (0 : Int32))]) rfl ?_
    refine XS.goto X1.here hx rfl (pc0 := 33) (pc' := 5) rfl (hb hby d10_33) (by decide) (by decide) ?_
    show Steps p.tables e below (T1.setTop (mkF m 5 #[.val (.ref a10_0), .val (.int (1 : Int32)), .val (.long ((0 : Int64) + t_w_tree_a10_0_0)), .second, .val (.int (0 : Int32))] [])) _
    refine XS.iload X1.here hx rfl (hb hby d10_5) rfl ?_
    show Steps p.tables e below (T1.setTop (mkF m 7 #[.val (.ref a10_0), .val (.int (1 : Int32)), .val (.long ((0 : Int64) + t_w_tree_a10_0_0)), .second, .val (.int (0 : Int32))] [(.int (0 : Int32))])) _
    refine XS.ifYes X1.here hx rfl (pc0 := 7) (pc' := 36) rfl (hb hby d10_7) rfl ((if0 _ _).trans (flt (by decide : ¬ ((0 : Int32) < (0 : Int32)))).2.2.2) (by decide) (by decide) ?_
    refine XS.lloadN X1.here hx rfl (hb hby d10_36) rfl ?_
    show Steps p.tables e below (T1.setTop (mkF m 37 #[.val (.ref a10_0), .val (.int (1 : Int32)), .val (.long ((0 : Int64) + t_w_tree_a10_0_0)), .second, .val (.int (0 : Int32))] [(.long ((0 : Int64) + t_w_tree_a10_0_0))])) _
    exact own_retJ X1 hx Bd.returns (hb hby d10_37) hr
  · show Q_rm10_4 Z a10_0 w_tree_a10_0 w_total_a10_0 kc_w_tree_a10_0 t_w_tree_a10_0_0 t_w_tree_a10_0_1 t_w_tree_a10_0_2 t_w_tree_a10_0_3 t_w_tree_a10_0_4 t_w_tree_a10_0_5 t_w_tree_a10_0_6 t_w_tree_a10_0_7 h0 n0 _ T1.heap _
    rw [e1]
    exact ⟨rfl, N0, rfl⟩
theorem ef_rm10_5 (m : MethodId) (y0 : Addr) : entryFrame m #[(.ref y0), (.int (0 : Int32))] 5 = mkF m 0 #[.val (.ref y0), .val (.int (0 : Int32)), .unset, .unset, .unset] [] := by first | (simp [entryFrame, mkF, argsToLocals, Value.category]; done) | rfl
def Q_rm10_5 (Z : State) (a10_0 : Addr) (w_tree_a10_0 : Addr) (w_total_a10_0 : Int64) (kc_w_tree_a10_0 : ClassId) (t_w_tree_a10_0_0 : Int64) (t_w_tree_a10_0_1 : Int64) (t_w_tree_a10_0_2 : Int64) (t_w_tree_a10_0_3 : Int64) (t_w_tree_a10_0_4 : Int64) (t_w_tree_a10_0_5 : Int64) (t_w_tree_a10_0_6 : Int64) (t_w_tree_a10_0_7 : Int64) (h0 : Heap) (n0 : Nat) (v : Option Value) (h : Heap) (L : List Loc) : Prop := v = some (.long (0 : Int64)) ∧ Fr n0 L ∧ h = h0
set_option maxRecDepth 65536 in
set_option maxHeartbeats 40000000 in
theorem rm10_5 (l : Launch) (Z : State) (a0 : Array Value) (hw : ∀ d ∈ tables_1, d.before a0 Z = true) (ws : List Jvm.Cond) (a10_0 : Addr) (w_tree_a10_0 : Addr) (w_total_a10_0 : Int64) (kc_w_tree_a10_0 : ClassId) (t_w_tree_a10_0_0 : Int64) (t_w_tree_a10_0_1 : Int64) (t_w_tree_a10_0_2 : Int64) (t_w_tree_a10_0_3 : Int64) (t_w_tree_a10_0_4 : Int64) (t_w_tree_a10_0_5 : Int64) (t_w_tree_a10_0_6 : Int64) (t_w_tree_a10_0_7 : Int64) (h0 : Heap) (n0 : Nat) (Z0 : n0 ≤ h0.size) (E_a10_0 : Exa Z h0 a10_0 "com/example/motley/motley/CountTree") (F_tree_a10_0 : Fld Z h0 a10_0 "com/example/motley/motley/CountTree" "tree" "[J" (.ref w_tree_a10_0)) (F_size_a10_0 : Fld Z h0 a10_0 "com/example/motley/motley/CountTree" "size" "I" (.int (5 : Int32))) (F_total_a10_0 : Fld Z h0 a10_0 "com/example/motley/motley/CountTree" "total" "J" (.long w_total_a10_0)) (V_w_tree_a10_0 : Arv Z h0 w_tree_a10_0 kc_w_tree_a10_0 .long (8 : Int32) [(.long t_w_tree_a10_0_0), (.long t_w_tree_a10_0_1), (.long t_w_tree_a10_0_2), (.long t_w_tree_a10_0_3), (.long t_w_tree_a10_0_4), (.long t_w_tree_a10_0_5), (.long t_w_tree_a10_0_6), (.long t_w_tree_a10_0_7)] (.long (0 : Int64))) :
    MetFree l (⟨"com/example/motley/motley/CountTree", "sumBefore", "(I)J"⟩ : MethodName) (head1 (Jvm.Cond.code (⟨"com/example/motley/motley/CountTree", "sumBefore", "(I)J"⟩ : MethodName) prog_14_method_8_code 5 (some .long) :: ws) ({ frames := 0, cells := 0, slots := 0, locals := 0 } : Room)) (fun a U => a = #[(.ref a10_0), (.int (0 : Int32))] ∧ Z.Warmed39 U.vm ∧ U.heap = h0) (fun _ _ _ _ _ => True) (fun _ U o U' => ∃ v L, o = .returned v ∧ Q_rm10_5 Z a10_0 w_tree_a10_0 w_total_a10_0 kc_w_tree_a10_0 t_w_tree_a10_0_0 t_w_tree_a10_0_1 t_w_tree_a10_0_2 t_w_tree_a10_0_3 t_w_tree_a10_0_4 t_w_tree_a10_0_5 t_w_tree_a10_0_6 t_w_tree_a10_0_7 h0 n0 v U'.heap L ∧ FrameEnd U o U' L ({ frames := 0, cells := 0, slots := 0, locals := 0 } : Room).cells ({ frames := 0, cells := 0, slots := 0, locals := 0 } : Room).slots) := by
  refine MetFree.of_bodySF (plainFor_of_name pn_10) hisR ?_
  intro p e s m args below meth c s₁ Bd hml0 hP hK
  obtain ⟨rfl, hZ, hh⟩ := hP
  have hx := Bd.exec
  have hby := Bd.bytes
  have hml : c.maxLocals = 5 := hml0
  have hown : s.vm.findClass "com/example/motley/motley/CountTree" = some m.cls := findClass_of_methodNamed Bd.named
  have hnm := (name_of_methodNamed Bd.named Bd.method).1
  have X0 : Stand p l e ({ frames := 0, cells := 0, slots := 0, locals := 0 } : Room) s m #[(.ref a10_0), (.int (0 : Int32))] below meth c s₁ [] 0 0 := Stand.of_body Bd
  have e0 : s₁.heap = h0 := by rw [← hh, Bd.state]; rfl
  have N0 := Fr.nil n0
  have pre0 : ∀ t, Steps p.tables e below (s₁.setTop (mkF m 0 #[.val (.ref a10_0), .val (.int (0 : Int32)), .unset, .unset, .unset] [])) t → Steps p.tables e below (s₁.setTop (entryFrame m #[(.ref a10_0), (.int (0 : Int32))] 5)) t := fun t k => castTop (ef_rm10_5 m a10_0) k
  obtain ⟨fs, hr, hrun, hended, hW, hsame⟩ := X0.leave (v := some (.long (0 : Int64))) (fun h => by rw [Bd.returns] at h; cases h)
  refine ⟨_, _, pre0 _ ?_, hrun, hended, _, _, rfl, ?_, ⟨_, rfl⟩, hW, hsame.mono (by decide) (by decide)⟩
  · show Steps p.tables e below (s₁.setTop (mkF m 0 #[.val (.ref a10_0), .val (.int (0 : Int32)), .unset, .unset, .unset] [])) _
    refine XS.lconst X0.here hx rfl (hb hby d10_0) ?_
    refine XS.lstoreN X0.here hx rfl (hb hby d10_1) rfl (l' := #[.val (.ref a10_0), .val (.int (0 : Int32)), .val (.long (0 : Int64)), .second, .unset]) rfl ?_
    refine XS.iloadN X0.here hx rfl (hb hby d10_2) rfl ?_
    show Steps p.tables e below (s₁.setTop (mkF m 3 #[.val (.ref a10_0), .val (.int (0 : Int32)), .val (.long (0 : Int64)), .second, .unset] [(.int (0 : Int32))])) _
    refine XS.istore X0.here hx rfl (hb hby d10_3) rfl (l' := #[.val (.ref a10_0), .val (.int (0 : Int32)), .val (.long (0 : Int64)), .second, .val (.int (0 : Int32))]) rfl ?_
    refine XS.iload X0.here hx rfl (hb hby d10_5) rfl ?_
    show Steps p.tables e below (s₁.setTop (mkF m 7 #[.val (.ref a10_0), .val (.int (0 : Int32)), .val (.long (0 : Int64)), .second, .val (.int (0 : Int32))] [(.int (0 : Int32))])) _
    refine XS.ifYes X0.here hx rfl (pc0 := 7) (pc' := 36) rfl (hb hby d10_7) rfl ((if0 _ _).trans (flt (by decide : ¬ ((0 : Int32) < (0 : Int32)))).2.2.2) (by decide) (by decide) ?_
    refine XS.lloadN X0.here hx rfl (hb hby d10_36) rfl ?_
    show Steps p.tables e below (s₁.setTop (mkF m 37 #[.val (.ref a10_0), .val (.int (0 : Int32)), .val (.long (0 : Int64)), .second, .val (.int (0 : Int32))] [(.long (0 : Int64))])) _
    exact own_retJ X0 hx Bd.returns (hb hby d10_37) hr
  · show Q_rm10_5 Z a10_0 w_tree_a10_0 w_total_a10_0 kc_w_tree_a10_0 t_w_tree_a10_0_0 t_w_tree_a10_0_1 t_w_tree_a10_0_2 t_w_tree_a10_0_3 t_w_tree_a10_0_4 t_w_tree_a10_0_5 t_w_tree_a10_0_6 t_w_tree_a10_0_7 h0 n0 _ s₁.heap _
    rw [e0]
    exact ⟨rfl, N0, rfl⟩
theorem ef_rm10_6 (m : MethodId) (y0 : Addr) : entryFrame m #[(.ref y0), (.int (2 : Int32))] 5 = mkF m 0 #[.val (.ref y0), .val (.int (2 : Int32)), .unset, .unset, .unset] [] := by first | (simp [entryFrame, mkF, argsToLocals, Value.category]; done) | rfl
def Q_rm10_6 (Z : State) (a10_0 : Addr) (w_tree_a10_0 : Addr) (w_total_a10_0 : Int64) (kc_w_tree_a10_0 : ClassId) (t_w_tree_a10_0_0 : Int64) (t_w_tree_a10_0_1 : Int64) (t_w_tree_a10_0_2 : Int64) (t_w_tree_a10_0_3 : Int64) (t_w_tree_a10_0_4 : Int64) (t_w_tree_a10_0_5 : Int64) (t_w_tree_a10_0_6 : Int64) (t_w_tree_a10_0_7 : Int64) (h0 : Heap) (n0 : Nat) (v : Option Value) (h : Heap) (L : List Loc) : Prop := v = some (.long ((0 : Int64) + t_w_tree_a10_0_1)) ∧ Fr n0 L ∧ h = h0
set_option maxRecDepth 65536 in
set_option maxHeartbeats 40000000 in
theorem rm10_6 (l : Launch) (Z : State) (a0 : Array Value) (hw : ∀ d ∈ tables_1, d.before a0 Z = true) (ws : List Jvm.Cond) (a10_0 : Addr) (w_tree_a10_0 : Addr) (w_total_a10_0 : Int64) (kc_w_tree_a10_0 : ClassId) (t_w_tree_a10_0_0 : Int64) (t_w_tree_a10_0_1 : Int64) (t_w_tree_a10_0_2 : Int64) (t_w_tree_a10_0_3 : Int64) (t_w_tree_a10_0_4 : Int64) (t_w_tree_a10_0_5 : Int64) (t_w_tree_a10_0_6 : Int64) (t_w_tree_a10_0_7 : Int64) (h0 : Heap) (n0 : Nat) (Z0 : n0 ≤ h0.size) (E_a10_0 : Exa Z h0 a10_0 "com/example/motley/motley/CountTree") (F_tree_a10_0 : Fld Z h0 a10_0 "com/example/motley/motley/CountTree" "tree" "[J" (.ref w_tree_a10_0)) (F_size_a10_0 : Fld Z h0 a10_0 "com/example/motley/motley/CountTree" "size" "I" (.int (5 : Int32))) (F_total_a10_0 : Fld Z h0 a10_0 "com/example/motley/motley/CountTree" "total" "J" (.long w_total_a10_0)) (V_w_tree_a10_0 : Arv Z h0 w_tree_a10_0 kc_w_tree_a10_0 .long (8 : Int32) [(.long t_w_tree_a10_0_0), (.long t_w_tree_a10_0_1), (.long t_w_tree_a10_0_2), (.long t_w_tree_a10_0_3), (.long t_w_tree_a10_0_4), (.long t_w_tree_a10_0_5), (.long t_w_tree_a10_0_6), (.long t_w_tree_a10_0_7)] (.long (0 : Int64))) :
    MetFree l (⟨"com/example/motley/motley/CountTree", "sumBefore", "(I)J"⟩ : MethodName) (head1 (Jvm.Cond.code (⟨"com/example/motley/motley/CountTree", "sumBefore", "(I)J"⟩ : MethodName) prog_14_method_8_code 5 (some .long) :: ws) ({ frames := 0, cells := 0, slots := 0, locals := 0 } : Room)) (fun a U => a = #[(.ref a10_0), (.int (2 : Int32))] ∧ Z.Warmed39 U.vm ∧ U.heap = h0) (fun _ _ _ _ _ => True) (fun _ U o U' => ∃ v L, o = .returned v ∧ Q_rm10_6 Z a10_0 w_tree_a10_0 w_total_a10_0 kc_w_tree_a10_0 t_w_tree_a10_0_0 t_w_tree_a10_0_1 t_w_tree_a10_0_2 t_w_tree_a10_0_3 t_w_tree_a10_0_4 t_w_tree_a10_0_5 t_w_tree_a10_0_6 t_w_tree_a10_0_7 h0 n0 v U'.heap L ∧ FrameEnd U o U' L ({ frames := 0, cells := 0, slots := 0, locals := 0 } : Room).cells ({ frames := 0, cells := 0, slots := 0, locals := 0 } : Room).slots) := by
  refine MetFree.of_bodySF (plainFor_of_name pn_10) hisR ?_
  intro p e s m args below meth c s₁ Bd hml0 hP hK
  obtain ⟨rfl, hZ, hh⟩ := hP
  have hx := Bd.exec
  have hby := Bd.bytes
  have hml : c.maxLocals = 5 := hml0
  have hown : s.vm.findClass "com/example/motley/motley/CountTree" = some m.cls := findClass_of_methodNamed Bd.named
  have hnm := (name_of_methodNamed Bd.named Bd.method).1
  have X0 : Stand p l e ({ frames := 0, cells := 0, slots := 0, locals := 0 } : Room) s m #[(.ref a10_0), (.int (2 : Int32))] below meth c s₁ [] 0 0 := Stand.of_body Bd
  have e0 : s₁.heap = h0 := by rw [← hh, Bd.state]; rfl
  have N0 := Fr.nil n0
  have pre0 : ∀ t, Steps p.tables e below (s₁.setTop (mkF m 0 #[.val (.ref a10_0), .val (.int (2 : Int32)), .unset, .unset, .unset] [])) t → Steps p.tables e below (s₁.setTop (entryFrame m #[(.ref a10_0), (.int (2 : Int32))] 5)) t := fun t k => castTop (ef_rm10_6 m a10_0) k
  obtain ⟨T1, X1, e1, st1⟩ := getF X0 hx hZ hown (host := "") (Or.inl (ow16 hw)) Via.refl e0 F_tree_a10_0 (g := (mkF m 12 #[.val (.ref a10_0), .val (.int (2 : Int32)), .val (.long (0 : Int64)), .second, .val (.int (2 : Int32))] [(.ref a10_0), (.long (0 : Int64))])) rfl rfl (hb hby d10_12)
  obtain ⟨cl2, Ar2, qk2, Sz2, Nz2, Hh2, Gf2⟩ := id V_w_tree_a10_0
  obtain ⟨fs, hr, hrun, hended, hW, hsame⟩ := X1.leave (v := some (.long ((0 : Int64) + t_w_tree_a10_0_1))) (fun h => by rw [Bd.returns] at h; cases h)
  refine ⟨_, _, pre0 _ ?_, hrun, hended, _, _, rfl, ?_, ⟨_, rfl⟩, hW, hsame.mono (by decide) (by decide)⟩
  · show Steps p.tables e below (s₁.setTop (mkF m 0 #[.val (.ref a10_0), .val (.int (2 : Int32)), .unset, .unset, .unset] [])) _
    refine XS.lconst X0.here hx rfl (hb hby d10_0) ?_
    refine XS.lstoreN X0.here hx rfl (hb hby d10_1) rfl (l' := #[.val (.ref a10_0), .val (.int (2 : Int32)), .val (.long (0 : Int64)), .second, .unset]) rfl ?_
    refine XS.iloadN X0.here hx rfl (hb hby d10_2) rfl ?_
    show Steps p.tables e below (s₁.setTop (mkF m 3 #[.val (.ref a10_0), .val (.int (2 : Int32)), .val (.long (0 : Int64)), .second, .unset] [(.int (2 : Int32))])) _
    refine XS.istore X0.here hx rfl (hb hby d10_3) rfl (l' := #[.val (.ref a10_0), .val (.int (2 : Int32)), .val (.long (0 : Int64)), .second, .val (.int (2 : Int32))]) rfl ?_
    refine XS.iload X0.here hx rfl (hb hby d10_5) rfl ?_
    show Steps p.tables e below (s₁.setTop (mkF m 7 #[.val (.ref a10_0), .val (.int (2 : Int32)), .val (.long (0 : Int64)), .second, .val (.int (2 : Int32))] [(.int (2 : Int32))])) _
    refine XS.ifNo X0.here hx rfl (hb hby d10_7) rfl ((if0 _ _).trans (tlt (by decide : (0 : Int32) < (2 : Int32))).2.2.2) ?_
    refine XS.lloadN X0.here hx rfl (hb hby d10_10) rfl ?_
    refine XS.aloadN X0.here hx rfl (hb hby d10_11) rfl rfl ?_
    show Steps p.tables e below (s₁.setTop (mkF m 12 #[.val (.ref a10_0), .val (.int (2 : Int32)), .val (.long (0 : Int64)), .second, .val (.int (2 : Int32))] [(.ref a10_0), (.long (0 : Int64))])) _
    refine st1 _ ?_
    refine XS.iload X1.here hx rfl (hb hby d10_15) rfl ?_
    refine XS.iconst X1.here hx rfl (hb hby d10_17) ?_
    show Steps p.tables e below (T1.setTop (mkF m 18 #[.val (.ref a10_0), .val (.int (2 : Int32)), .val (.long (0 : Int64)), .second, .val (.int (2 : Int32))] [(.int (1 : Int32)), (.int (2 : Int32)), (.ref w_tree_a10_0), (.long (0 : Int64))])) _
    refine XS.isub X1.here hx rfl (hb hby d10_18) rfl ?_
    refine X1.laload hx (j := (1 : Int32)) (v := (.long t_w_tree_a10_0_1)) (by rw [e1]; exact Ar2.1) (State.isArrayOf_alike hZ.alike Ar2.2.1) Ar2.2.2 (inb_of Sz2 ⟨by decide, by decide⟩) (Hh2.at (inb_of Sz2 ⟨by decide, by decide⟩) rfl) (g := (mkF m 19 #[.val (.ref a10_0), .val (.int (2 : Int32)), .val (.long (0 : Int64)), .second, .val (.int (2 : Int32))] [(.int (1 : Int32)), (.ref w_tree_a10_0), (.long (0 : Int64))])) rfl rfl (hb hby d10_19) _ ?_
    refine XS.ladd X1.here hx rfl (hb hby d10_20) rfl ?_
    show Steps p.tables e below (T1.setTop (mkF m 21 #[.val (.ref a10_0), .val (.int (2 : Int32)), .val (.long (0 : Int64)), .second, .val (.int (2 : Int32))] [(.long ((0 : Int64) + t_w_tree_a10_0_1))])) _
    refine XS.lstoreN X1.here hx rfl (hb hby d10_21) rfl (l' := #[.val (.ref a10_0), .val (.int (2 : Int32)), .val (.long ((0 : Int64) + t_w_tree_a10_0_1)), .second, .val (.int (2 : Int32))]) rfl ?_
    refine XS.iload X1.here hx rfl (hb hby d10_22) rfl ?_
    refine XS.iload X1.here hx rfl (hb hby d10_24) rfl ?_
    show Steps p.tables e below (T1.setTop (mkF m 26 #[.val (.ref a10_0), .val (.int (2 : Int32)), .val (.long ((0 : Int64) + t_w_tree_a10_0_1)), .second, .val (.int (2 : Int32))] [(.int (2 : Int32)), (.int (2 : Int32))])) _
    refine XS.iload X1.here hx rfl (hb hby d10_26) rfl ?_
    refine XS.ineg X1.here hx rfl (hb hby d10_28) rfl ?_
    refine XS.iand X1.here hx rfl (hb hby d10_29) rfl ?_
    show Steps p.tables e below (T1.setTop (mkF m 30 #[.val (.ref a10_0), .val (.int (2 : Int32)), .val (.long ((0 : Int64) + t_w_tree_a10_0_1)), .second, .val (.int (2 : Int32))] [(.int (2 : Int32)), (.int (2 : Int32))])) _
    refine XS.isub X1.here hx rfl (hb hby d10_30) rfl ?_
    refine XS.istore X1.here hx rfl (hb hby d10_31) rfl (l' := #[.val (.ref a10_0), .val (.int (2 : Int32)), .val (.long ((0 : Int64) + t_w_tree_a10_0_1)), .second, .val (.int (0 : Int32))]) rfl ?_
    refine XS.goto X1.here hx rfl (pc0 := 33) (pc' := 5) rfl (hb hby d10_33) (by decide) (by decide) ?_
    show Steps p.tables e below (T1.setTop (mkF m 5 #[.val (.ref a10_0), .val (.int (2 : Int32)), .val (.long ((0 : Int64) + t_w_tree_a10_0_1)), .second, .val (.int (0 : Int32))] [])) _
    refine XS.iload X1.here hx rfl (hb hby d10_5) rfl ?_
    show Steps p.tables e below (T1.setTop (mkF m 7 #[.val (.ref a10_0), .val (.int (2 : Int32)), .val (.long ((0 : Int64) + t_w_tree_a10_0_1)), .second, .val (.int (0 : Int32))] [(.int (0 : Int32))])) _
    refine XS.ifYes X1.here hx rfl (pc0 := 7) (pc' := 36) rfl (hb hby d10_7) rfl ((if0 _ _).trans (flt (by decide : ¬ ((0 : Int32) < (0 : Int32)))).2.2.2) (by decide) (by decide) ?_
    refine XS.lloadN X1.here hx rfl (hb hby d10_36) rfl ?_
    show Steps p.tables e below (T1.setTop (mkF m 37 #[.val (.ref a10_0), .val (.int (2 : Int32)), .val (.long ((0 : Int64) + t_w_tree_a10_0_1)), .second, .val (.int (0 : Int32))] [(.long ((0 : Int64) + t_w_tree_a10_0_1))])) _
    exact own_retJ X1 hx Bd.returns (hb hby d10_37) hr
  · show Q_rm10_6 Z a10_0 w_tree_a10_0 w_total_a10_0 kc_w_tree_a10_0 t_w_tree_a10_0_0 t_w_tree_a10_0_1 t_w_tree_a10_0_2 t_w_tree_a10_0_3 t_w_tree_a10_0_4 t_w_tree_a10_0_5 t_w_tree_a10_0_6 t_w_tree_a10_0_7 h0 n0 _ T1.heap _
    rw [e1]
    exact ⟨rfl, N0, rfl⟩
theorem ef_rm10_7 (m : MethodId) (y0 : Addr) : entryFrame m #[(.ref y0), (.int (3 : Int32))] 5 = mkF m 0 #[.val (.ref y0), .val (.int (3 : Int32)), .unset, .unset, .unset] [] := by first | (simp [entryFrame, mkF, argsToLocals, Value.category]; done) | rfl
def Q_rm10_7 (Z : State) (a10_0 : Addr) (w_tree_a10_0 : Addr) (w_total_a10_0 : Int64) (kc_w_tree_a10_0 : ClassId) (t_w_tree_a10_0_0 : Int64) (t_w_tree_a10_0_1 : Int64) (t_w_tree_a10_0_2 : Int64) (t_w_tree_a10_0_3 : Int64) (t_w_tree_a10_0_4 : Int64) (t_w_tree_a10_0_5 : Int64) (t_w_tree_a10_0_6 : Int64) (t_w_tree_a10_0_7 : Int64) (h0 : Heap) (n0 : Nat) (v : Option Value) (h : Heap) (L : List Loc) : Prop := v = some (.long (((0 : Int64) + t_w_tree_a10_0_2) + t_w_tree_a10_0_1)) ∧ Fr n0 L ∧ h = h0
set_option maxRecDepth 65536 in
set_option maxHeartbeats 40000000 in
theorem rm10_7 (l : Launch) (Z : State) (a0 : Array Value) (hw : ∀ d ∈ tables_1, d.before a0 Z = true) (ws : List Jvm.Cond) (a10_0 : Addr) (w_tree_a10_0 : Addr) (w_total_a10_0 : Int64) (kc_w_tree_a10_0 : ClassId) (t_w_tree_a10_0_0 : Int64) (t_w_tree_a10_0_1 : Int64) (t_w_tree_a10_0_2 : Int64) (t_w_tree_a10_0_3 : Int64) (t_w_tree_a10_0_4 : Int64) (t_w_tree_a10_0_5 : Int64) (t_w_tree_a10_0_6 : Int64) (t_w_tree_a10_0_7 : Int64) (h0 : Heap) (n0 : Nat) (Z0 : n0 ≤ h0.size) (E_a10_0 : Exa Z h0 a10_0 "com/example/motley/motley/CountTree") (F_tree_a10_0 : Fld Z h0 a10_0 "com/example/motley/motley/CountTree" "tree" "[J" (.ref w_tree_a10_0)) (F_size_a10_0 : Fld Z h0 a10_0 "com/example/motley/motley/CountTree" "size" "I" (.int (5 : Int32))) (F_total_a10_0 : Fld Z h0 a10_0 "com/example/motley/motley/CountTree" "total" "J" (.long w_total_a10_0)) (V_w_tree_a10_0 : Arv Z h0 w_tree_a10_0 kc_w_tree_a10_0 .long (8 : Int32) [(.long t_w_tree_a10_0_0), (.long t_w_tree_a10_0_1), (.long t_w_tree_a10_0_2), (.long t_w_tree_a10_0_3), (.long t_w_tree_a10_0_4), (.long t_w_tree_a10_0_5), (.long t_w_tree_a10_0_6), (.long t_w_tree_a10_0_7)] (.long (0 : Int64))) :
    MetFree l (⟨"com/example/motley/motley/CountTree", "sumBefore", "(I)J"⟩ : MethodName) (head1 (Jvm.Cond.code (⟨"com/example/motley/motley/CountTree", "sumBefore", "(I)J"⟩ : MethodName) prog_14_method_8_code 5 (some .long) :: ws) ({ frames := 0, cells := 0, slots := 0, locals := 0 } : Room)) (fun a U => a = #[(.ref a10_0), (.int (3 : Int32))] ∧ Z.Warmed39 U.vm ∧ U.heap = h0) (fun _ _ _ _ _ => True) (fun _ U o U' => ∃ v L, o = .returned v ∧ Q_rm10_7 Z a10_0 w_tree_a10_0 w_total_a10_0 kc_w_tree_a10_0 t_w_tree_a10_0_0 t_w_tree_a10_0_1 t_w_tree_a10_0_2 t_w_tree_a10_0_3 t_w_tree_a10_0_4 t_w_tree_a10_0_5 t_w_tree_a10_0_6 t_w_tree_a10_0_7 h0 n0 v U'.heap L ∧ FrameEnd U o U' L ({ frames := 0, cells := 0, slots := 0, locals := 0 } : Room).cells ({ frames := 0, cells := 0, slots := 0, locals := 0 } : Room).slots) := by
  refine MetFree.of_bodySF (plainFor_of_name pn_10) hisR ?_
  intro p e s m args below meth c s₁ Bd hml0 hP hK
  obtain ⟨rfl, hZ, hh⟩ := hP
  have hx := Bd.exec
  have hby := Bd.bytes
  have hml : c.maxLocals = 5 := hml0
  have hown : s.vm.findClass "com/example/motley/motley/CountTree" = some m.cls := findClass_of_methodNamed Bd.named
  have hnm := (name_of_methodNamed Bd.named Bd.method).1
  have X0 : Stand p l e ({ frames := 0, cells := 0, slots := 0, locals := 0 } : Room) s m #[(.ref a10_0), (.int (3 : Int32))] below meth c s₁ [] 0 0 := Stand.of_body Bd
  have e0 : s₁.heap = h0 := by rw [← hh, Bd.state]; rfl
  have N0 := Fr.nil n0
  have pre0 : ∀ t, Steps p.tables e below (s₁.setTop (mkF m 0 #[.val (.ref a10_0), .val (.int (3 : Int32)), .unset, .unset, .unset] [])) t → Steps p.tables e below (s₁.setTop (entryFrame m #[(.ref a10_0), (.int (3 : Int32))] 5)) t := fun t k => castTop (ef_rm10_7 m a10_0) k
  obtain ⟨T1, X1, e1, st1⟩ := getF X0 hx hZ hown (host := "") (Or.inl (ow16 hw)) Via.refl e0 F_tree_a10_0 (g := (mkF m 12 #[.val (.ref a10_0), .val (.int (3 : Int32)), .val (.long (0 : Int64)), .second, .val (.int (3 : Int32))] [(.ref a10_0), (.long (0 : Int64))])) rfl rfl (hb hby d10_12)
  obtain ⟨cl2, Ar2, qk2, Sz2, Nz2, Hh2, Gf2⟩ := id V_w_tree_a10_0
  obtain ⟨T3, X3, e3, st3⟩ := getF X1 hx hZ hown (host := "") (Or.inl (ow16 hw)) Via.refl e1 F_tree_a10_0 (g := (mkF m 12 #[.val (.ref a10_0), .val (.int (3 : Int32)), .val (.long ((0 : Int64) + t_w_tree_a10_0_2)), .second, .val (.int (2 : Int32))] [(.ref a10_0), (.long ((0 : Int64) + t_w_tree_a10_0_2))])) rfl rfl (hb hby d10_12)
  obtain ⟨cl4, Ar4, qk4, Sz4, Nz4, Hh4, Gf4⟩ := id V_w_tree_a10_0
  obtain ⟨x5, hx5⟩ : ∃ z : Int64, z = (((0 : Int64) + t_w_tree_a10_0_2) + t_w_tree_a10_0_1) := ⟨_, rfl⟩
  obtain ⟨fs, hr, hrun, hended, hW, hsame⟩ := X3.leave (v := some (.long x5)) (fun h => by rw [Bd.returns] at h; cases h)
  refine ⟨_, _, pre0 _ ?_, hrun, hended, _, _, rfl, ?_, ⟨_, rfl⟩, hW, hsame.mono (by decide) (by decide)⟩
  · show Steps p.tables e below (s₁.setTop (mkF m 0 #[.val (.ref a10_0), .val (.int (3 : Int32)), .unset, .unset, .unset] [])) _
    refine XS.lconst X0.here hx rfl (hb hby d10_0) ?_
    refine XS.lstoreN X0.here hx rfl (hb hby d10_1) rfl (l' := #[.val (.ref a10_0), .val (.int (3 : Int32)), .val (.long (0 : Int64)), .second, .unset]) rfl ?_
    refine XS.iloadN X0.here hx rfl (hb hby d10_2) rfl ?_
    show Steps p.tables e below (s₁.setTop (mkF m 3 #[.val (.ref a10_0), .val (.int (3 : Int32)), .val (.long (0 : Int64)), .second, .unset] [(.int (3 : Int32))])) _
    refine XS.istore X0.here hx rfl (hb hby d10_3) rfl (l' := #[.val (.ref a10_0), .val (.int (3 : Int32)), .val (.long (0 : Int64)), .second, .val (.int (3 : Int32))]) rfl ?_
    refine XS.iload X0.here hx rfl (hb hby d10_5) rfl ?_
    show Steps p.tables e below (s₁.setTop (mkF m 7 #[.val (.ref a10_0), .val (.int (3 : Int32)), .val (.long (0 : Int64)), .second, .val (.int (3 : Int32))] [(.int (3 : Int32))])) _
    refine XS.ifNo X0.here hx rfl (hb hby d10_7) rfl ((if0 _ _).trans (tlt (by decide : (0 : Int32) < (3 : Int32))).2.2.2) ?_
    refine XS.lloadN X0.here hx rfl (hb hby d10_10) rfl ?_
    refine XS.aloadN X0.here hx rfl (hb hby d10_11) rfl rfl ?_
    show Steps p.tables e below (s₁.setTop (mkF m 12 #[.val (.ref a10_0), .val (.int (3 : Int32)), .val (.long (0 : Int64)), .second, .val (.int (3 : Int32))] [(.ref a10_0), (.long (0 : Int64))])) _
    refine st1 _ ?_
    refine XS.iload X1.here hx rfl (hb hby d10_15) rfl ?_
    refine XS.iconst X1.here hx rfl (hb hby d10_17) ?_
    show Steps p.tables e below (T1.setTop (mkF m 18 #[.val (.ref a10_0), .val (.int (3 : Int32)), .val (.long (0 : Int64)), .second, .val (.int (3 : Int32))] [(.int (1 : Int32)), (.int (3 : Int32)), (.ref w_tree_a10_0), (.long (0 : Int64))])) _
    refine XS.isub X1.here hx rfl (hb hby d10_18) rfl ?_
    refine X1.laload hx (j := (2 : Int32)) (v := (.long t_w_tree_a10_0_2)) (by rw [e1]; exact Ar2.1) (State.isArrayOf_alike hZ.alike Ar2.2.1) Ar2.2.2 (inb_of Sz2 ⟨by decide, by decide⟩) (Hh2.at (inb_of Sz2 ⟨by decide, by decide⟩) rfl) (g := (mkF m 19 #[.val (.ref a10_0), .val (.int (3 : Int32)), .val (.long (0 : Int64)), .second, .val (.int (3 : Int32))] [(.int (2 : Int32)), (.ref w_tree_a10_0), (.long (0 : Int64))])) rfl rfl (hb hby d10_19) _ ?_
    refine XS.ladd X1.here hx rfl (hb hby d10_20) rfl ?_
    show Steps p.tables e below (T1.setTop (mkF m 21 #[.val (.ref a10_0), .val (.int (3 : Int32)), .val (.long (0 : Int64)), .second, .val (.int (3 : Int32))] [(.long ((0 : Int64) + t_w_tree_a10_0_2))])) _
    refine XS.lstoreN X1.here hx rfl (hb hby d10_21) rfl (l' := #[.val (.ref a10_0), .val (.int (3 : Int32)), .val (.long ((0 : Int64) + t_w_tree_a10_0_2)), .second, .val (.int (3 : Int32))]) rfl ?_
    refine XS.iload X1.here hx rfl (hb hby d10_22) rfl ?_
    refine XS.iload X1.here hx rfl (hb hby d10_24) rfl ?_
    show Steps p.tables e below (T1.setTop (mkF m 26 #[.val (.ref a10_0), .val (.int (3 : Int32)), .val (.long ((0 : Int64) + t_w_tree_a10_0_2)), .second, .val (.int (3 : Int32))] [(.int (3 : Int32)), (.int (3 : Int32))])) _
    refine XS.iload X1.here hx rfl (hb hby d10_26) rfl ?_
    refine XS.ineg X1.here hx rfl (hb hby d10_28) rfl ?_
    refine XS.iand X1.here hx rfl (hb hby d10_29) rfl ?_
    show Steps p.tables e below (T1.setTop (mkF m 30 #[.val (.ref a10_0), .val (.int (3 : Int32)), .val (.long ((0 : Int64) + t_w_tree_a10_0_2)), .second, .val (.int (3 : Int32))] [(.int (1 : Int32)), (.int (3 : Int32))])) _
    refine XS.isub X1.here hx rfl (hb hby d10_30) rfl ?_
    refine XS.istore X1.here hx rfl (hb hby d10_31) rfl (l' := #[.val (.ref a10_0), .val (.int (3 : Int32)), .val (.long ((0 : Int64) + t_w_tree_a10_0_2)), .second, .val (.int (2 : Int32))]) rfl ?_
    refine XS.goto X1.here hx rfl (pc0 := 33) (pc' := 5) rfl (hb hby d10_33) (by decide) (by decide) ?_
    show Steps p.tables e below (T1.setTop (mkF m 5 #[.val (.ref a10_0), .val (.int (3 : Int32)), .val (.long ((0 : Int64) + t_w_tree_a10_0_2)), .second, .val (.int (2 : Int32))] [])) _
    refine XS.iload X1.here hx rfl (hb hby d10_5) rfl ?_
    show Steps p.tables e below (T1.setTop (mkF m 7 #[.val (.ref a10_0), .val (.int (3 : Int32)), .val (.long ((0 : Int64) + t_w_tree_a10_0_2)), .second, .val (.int (2 : Int32))] [(.int (2 : Int32))])) _
    refine XS.ifNo X1.here hx rfl (hb hby d10_7) rfl ((if0 _ _).trans (tlt (by decide : (0 : Int32) < (2 : Int32))).2.2.2) ?_
    refine XS.lloadN X1.here hx rfl (hb hby d10_10) rfl ?_
    refine XS.aloadN X1.here hx rfl (hb hby d10_11) rfl rfl ?_
    show Steps p.tables e below (T1.setTop (mkF m 12 #[.val (.ref a10_0), .val (.int (3 : Int32)), .val (.long ((0 : Int64) + t_w_tree_a10_0_2)), .second, .val (.int (2 : Int32))] [(.ref a10_0), (.long ((0 : Int64) + t_w_tree_a10_0_2))])) _
    refine st3 _ ?_
    refine XS.iload X3.here hx rfl (hb hby d10_15) rfl ?_
    refine XS.iconst X3.here hx rfl (hb hby d10_17) ?_
    show Steps p.tables e below (T3.setTop (mkF m 18 #[.val (.ref a10_0), .val (.int (3 : Int32)), .val (.long ((0 : Int64) + t_w_tree_a10_0_2)), .second, .val (.int (2 : Int32))] [(.int (1 : Int32)), (.int (2 : Int32)), (.ref w_tree_a10_0), (.long ((0 : Int64) + t_w_tree_a10_0_2))])) _
    refine XS.isub X3.here hx rfl (hb hby d10_18) rfl ?_
    refine X3.laload hx (j := (1 : Int32)) (v := (.long t_w_tree_a10_0_1)) (by rw [e3]; exact Ar4.1) (State.isArrayOf_alike hZ.alike Ar4.2.1) Ar4.2.2 (inb_of Sz4 ⟨by decide, by decide⟩) (Hh4.at (inb_of Sz4 ⟨by decide, by decide⟩) rfl) (g := (mkF m 19 #[.val (.ref a10_0), .val (.int (3 : Int32)), .val (.long ((0 : Int64) + t_w_tree_a10_0_2)), .second, .val (.int (2 : Int32))] [(.int (1 : Int32)), (.ref w_tree_a10_0), (.long ((0 : Int64) + t_w_tree_a10_0_2))])) rfl rfl (hb hby d10_19) _ ?_
    refine XS.ladd X3.here hx rfl (hb hby d10_20) rfl ?_
    show Steps p.tables e below (T3.setTop (mkF m 21 #[.val (.ref a10_0), .val (.int (3 : Int32)), .val (.long ((0 : Int64) + t_w_tree_a10_0_2)), .second, .val (.int (2 : Int32))] [(.long (((0 : Int64) + t_w_tree_a10_0_2) + t_w_tree_a10_0_1))])) _
    refine XS.lstoreN X3.here hx rfl (hb hby d10_21) rfl (l' := #[.val (.ref a10_0), .val (.int (3 : Int32)), .val (.long (((0 : Int64) + t_w_tree_a10_0_2) + t_w_tree_a10_0_1)), .second, .val (.int (2 : Int32))]) rfl ?_
    show Steps p.tables e below (T3.setTop (mkF m 22 #[.val (.ref a10_0), .val (.int (3 : Int32)), .val (.long (((0 : Int64) + t_w_tree_a10_0_2) + t_w_tree_a10_0_1)), .second, .val (.int (2 : Int32))] [])) _
    rw [← hx5]
    refine XS.iload X3.here hx rfl (hb hby d10_22) rfl ?_
    refine XS.iload X3.here hx rfl (hb hby d10_24) rfl ?_
    show Steps p.tables e below (T3.setTop (mkF m 26 #[.val (.ref a10_0), .val (.int (3 : Int32)), .val (.long x5), .second, .val (.int (2 : Int32))] [(.int (2 : Int32)), (.int (2 : Int32))])) _
    refine XS.iload X3.here hx rfl (hb hby d10_26) rfl ?_
    refine XS.ineg X3.here hx rfl (hb hby d10_28) rfl ?_
    refine XS.iand X3.here hx rfl (hb hby d10_29) rfl ?_
    show Steps p.tables e below (T3.setTop (mkF m 30 #[.val (.ref a10_0), .val (.int (3 : Int32)), .val (.long x5), .second, .val (.int (2 : Int32))] [(.int (2 : Int32)), (.int (2 : Int32))])) _
    refine XS.isub X3.here hx rfl (hb hby d10_30) rfl ?_
    refine XS.istore X3.here hx rfl (hb hby d10_31) rfl (l' := #[.val (.ref a10_0), .val (.int (3 : Int32)), .val (.long x5), .second, .val (.int (0 : Int32))]) rfl ?_
    refine XS.goto X3.here hx rfl (pc0 := 33) (pc' := 5) rfl (hb hby d10_33) (by decide) (by decide) ?_
    show Steps p.tables e below (T3.setTop (mkF m 5 #[.val (.ref a10_0), .val (.int (3 : Int32)), .val (.long x5), .second, .val (.int (0 : Int32))] [])) _
    refine XS.iload X3.here hx rfl (hb hby d10_5) rfl ?_
    show Steps p.tables e below (T3.setTop (mkF m 7 #[.val (.ref a10_0), .val (.int (3 : Int32)), .val (.long x5), .second, .val (.int (0 : Int32))] [(.int (0 : Int32))])) _
    refine XS.ifYes X3.here hx rfl (pc0 := 7) (pc' := 36) rfl (hb hby d10_7) rfl ((if0 _ _).trans (flt (by decide : ¬ ((0 : Int32) < (0 : Int32)))).2.2.2) (by decide) (by decide) ?_
    refine XS.lloadN X3.here hx rfl (hb hby d10_36) rfl ?_
    show Steps p.tables e below (T3.setTop (mkF m 37 #[.val (.ref a10_0), .val (.int (3 : Int32)), .val (.long x5), .second, .val (.int (0 : Int32))] [(.long x5)])) _
    exact own_retJ X3 hx Bd.returns (hb hby d10_37) hr
  · show Q_rm10_7 Z a10_0 w_tree_a10_0 w_total_a10_0 kc_w_tree_a10_0 t_w_tree_a10_0_0 t_w_tree_a10_0_1 t_w_tree_a10_0_2 t_w_tree_a10_0_3 t_w_tree_a10_0_4 t_w_tree_a10_0_5 t_w_tree_a10_0_6 t_w_tree_a10_0_7 h0 n0 _ T3.heap _
    rw [e3]
    subst hx5
    exact ⟨rfl, N0, rfl⟩
theorem ef_rm10_8 (m : MethodId) (y0 : Addr) : entryFrame m #[(.ref y0), (.int (4 : Int32))] 5 = mkF m 0 #[.val (.ref y0), .val (.int (4 : Int32)), .unset, .unset, .unset] [] := by first | (simp [entryFrame, mkF, argsToLocals, Value.category]; done) | rfl
def Q_rm10_8 (Z : State) (a10_0 : Addr) (w_tree_a10_0 : Addr) (w_total_a10_0 : Int64) (kc_w_tree_a10_0 : ClassId) (t_w_tree_a10_0_0 : Int64) (t_w_tree_a10_0_1 : Int64) (t_w_tree_a10_0_2 : Int64) (t_w_tree_a10_0_3 : Int64) (t_w_tree_a10_0_4 : Int64) (t_w_tree_a10_0_5 : Int64) (t_w_tree_a10_0_6 : Int64) (t_w_tree_a10_0_7 : Int64) (h0 : Heap) (n0 : Nat) (v : Option Value) (h : Heap) (L : List Loc) : Prop := v = some (.long ((0 : Int64) + t_w_tree_a10_0_3)) ∧ Fr n0 L ∧ h = h0
set_option maxRecDepth 65536 in
set_option maxHeartbeats 40000000 in
theorem rm10_8 (l : Launch) (Z : State) (a0 : Array Value) (hw : ∀ d ∈ tables_1, d.before a0 Z = true) (ws : List Jvm.Cond) (a10_0 : Addr) (w_tree_a10_0 : Addr) (w_total_a10_0 : Int64) (kc_w_tree_a10_0 : ClassId) (t_w_tree_a10_0_0 : Int64) (t_w_tree_a10_0_1 : Int64) (t_w_tree_a10_0_2 : Int64) (t_w_tree_a10_0_3 : Int64) (t_w_tree_a10_0_4 : Int64) (t_w_tree_a10_0_5 : Int64) (t_w_tree_a10_0_6 : Int64) (t_w_tree_a10_0_7 : Int64) (h0 : Heap) (n0 : Nat) (Z0 : n0 ≤ h0.size) (E_a10_0 : Exa Z h0 a10_0 "com/example/motley/motley/CountTree") (F_tree_a10_0 : Fld Z h0 a10_0 "com/example/motley/motley/CountTree" "tree" "[J" (.ref w_tree_a10_0)) (F_size_a10_0 : Fld Z h0 a10_0 "com/example/motley/motley/CountTree" "size" "I" (.int (5 : Int32))) (F_total_a10_0 : Fld Z h0 a10_0 "com/example/motley/motley/CountTree" "total" "J" (.long w_total_a10_0)) (V_w_tree_a10_0 : Arv Z h0 w_tree_a10_0 kc_w_tree_a10_0 .long (8 : Int32) [(.long t_w_tree_a10_0_0), (.long t_w_tree_a10_0_1), (.long t_w_tree_a10_0_2), (.long t_w_tree_a10_0_3), (.long t_w_tree_a10_0_4), (.long t_w_tree_a10_0_5), (.long t_w_tree_a10_0_6), (.long t_w_tree_a10_0_7)] (.long (0 : Int64))) :
    MetFree l (⟨"com/example/motley/motley/CountTree", "sumBefore", "(I)J"⟩ : MethodName) (head1 (Jvm.Cond.code (⟨"com/example/motley/motley/CountTree", "sumBefore", "(I)J"⟩ : MethodName) prog_14_method_8_code 5 (some .long) :: ws) ({ frames := 0, cells := 0, slots := 0, locals := 0 } : Room)) (fun a U => a = #[(.ref a10_0), (.int (4 : Int32))] ∧ Z.Warmed39 U.vm ∧ U.heap = h0) (fun _ _ _ _ _ => True) (fun _ U o U' => ∃ v L, o = .returned v ∧ Q_rm10_8 Z a10_0 w_tree_a10_0 w_total_a10_0 kc_w_tree_a10_0 t_w_tree_a10_0_0 t_w_tree_a10_0_1 t_w_tree_a10_0_2 t_w_tree_a10_0_3 t_w_tree_a10_0_4 t_w_tree_a10_0_5 t_w_tree_a10_0_6 t_w_tree_a10_0_7 h0 n0 v U'.heap L ∧ FrameEnd U o U' L ({ frames := 0, cells := 0, slots := 0, locals := 0 } : Room).cells ({ frames := 0, cells := 0, slots := 0, locals := 0 } : Room).slots) := by
  refine MetFree.of_bodySF (plainFor_of_name pn_10) hisR ?_
  intro p e s m args below meth c s₁ Bd hml0 hP hK
  obtain ⟨rfl, hZ, hh⟩ := hP
  have hx := Bd.exec
  have hby := Bd.bytes
  have hml : c.maxLocals = 5 := hml0
  have hown : s.vm.findClass "com/example/motley/motley/CountTree" = some m.cls := findClass_of_methodNamed Bd.named
  have hnm := (name_of_methodNamed Bd.named Bd.method).1
  have X0 : Stand p l e ({ frames := 0, cells := 0, slots := 0, locals := 0 } : Room) s m #[(.ref a10_0), (.int (4 : Int32))] below meth c s₁ [] 0 0 := Stand.of_body Bd
  have e0 : s₁.heap = h0 := by rw [← hh, Bd.state]; rfl
  have N0 := Fr.nil n0
  have pre0 : ∀ t, Steps p.tables e below (s₁.setTop (mkF m 0 #[.val (.ref a10_0), .val (.int (4 : Int32)), .unset, .unset, .unset] [])) t → Steps p.tables e below (s₁.setTop (entryFrame m #[(.ref a10_0), (.int (4 : Int32))] 5)) t := fun t k => castTop (ef_rm10_8 m a10_0) k
  obtain ⟨T1, X1, e1, st1⟩ := getF X0 hx hZ hown (host := "") (Or.inl (ow16 hw)) Via.refl e0 F_tree_a10_0 (g := (mkF m 12 #[.val (.ref a10_0), .val (.int (4 : Int32)), .val (.long (0 : Int64)), .second, .val (.int (4 : Int32))] [(.ref a10_0), (.long (0 : Int64))])) rfl rfl (hb hby d10_12)
  obtain ⟨cl2, Ar2, qk2, Sz2, Nz2, Hh2, Gf2⟩ := id V_w_tree_a10_0
  obtain ⟨fs, hr, hrun, hended, hW, hsame⟩ := X1.leave (v := some (.long ((0 : Int64) + t_w_tree_a10_0_3))) (fun h => by rw [Bd.returns] at h; cases h)
  refine ⟨_, _, pre0 _ ?_, hrun, hended, _, _, rfl, ?_, ⟨_, rfl⟩, hW, hsame.mono (by decide) (by decide)⟩
  · show Steps p.tables e below (s₁.setTop (mkF m 0 #[.val (.ref a10_0), .val (.int (4 : Int32)), .unset, .unset, .unset] [])) _
    refine XS.lconst X0.here hx rfl (hb hby d10_0) ?_
    refine XS.lstoreN X0.here hx rfl (hb hby d10_1) rfl (l' := #[.val (.ref a10_0), .val (.int (4 : Int32)), .val (.long (0 : Int64)), .second, .unset]) rfl ?_
    refine XS.iloadN X0.here hx rfl (hb hby d10_2) rfl ?_
    show Steps p.tables e below (s₁.setTop (mkF m 3 #[.val (.ref a10_0), .val (.int (4 : Int32)), .val (.long (0 : Int64)), .second, .unset] [(.int (4 : Int32))])) _
    refine XS.istore X0.here hx rfl (hb hby d10_3) rfl (l' := #[.val (.ref a10_0), .val (.int (4 : Int32)), .val (.long (0 : Int64)), .second, .val (.int (4 : Int32))]) rfl ?_
    refine XS.iload X0.here hx rfl (hb hby d10_5) rfl ?_
    show Steps p.tables e below (s₁.setTop (mkF m 7 #[.val (.ref a10_0), .val (.int (4 : Int32)), .val (.long (0 : Int64)), .second, .val (.int (4 : Int32))] [(.int (4 : Int32))])) _
    refine XS.ifNo X0.here hx rfl (hb hby d10_7) rfl ((if0 _ _).trans (tlt (by decide : (0 : Int32) < (4 : Int32))).2.2.2) ?_
    refine XS.lloadN X0.here hx rfl (hb hby d10_10) rfl ?_
    refine XS.aloadN X0.here hx rfl (hb hby d10_11) rfl rfl ?_
    show Steps p.tables e below (s₁.setTop (mkF m 12 #[.val (.ref a10_0), .val (.int (4 : Int32)), .val (.long (0 : Int64)), .second, .val (.int (4 : Int32))] [(.ref a10_0), (.long (0 : Int64))])) _
    refine st1 _ ?_
    refine XS.iload X1.here hx rfl (hb hby d10_15) rfl ?_
    refine XS.iconst X1.here hx rfl (hb hby d10_17) ?_
    show Steps p.tables e below (T1.setTop (mkF m 18 #[.val (.ref a10_0), .val (.int (4 : Int32)), .val (.long (0 : Int64)), .second, .val (.int (4 : Int32))] [(.int (1 : Int32)), (.int (4 : Int32)), (.ref w_tree_a10_0), (.long (0 : Int64))])) _
    refine XS.isub X1.here hx rfl (hb hby d10_18) rfl ?_
    refine X1.laload hx (j := (3 : Int32)) (v := (.long t_w_tree_a10_0_3)) (by rw [e1]; exact Ar2.1) (State.isArrayOf_alike hZ.alike Ar2.2.1) Ar2.2.2 (inb_of Sz2 ⟨by decide, by decide⟩) (Hh2.at (inb_of Sz2 ⟨by decide, by decide⟩) rfl) (g := (mkF m 19 #[.val (.ref a10_0), .val (.int (4 : Int32)), .val (.long (0 : Int64)), .second, .val (.int (4 : Int32))] [(.int (3 : Int32)), (.ref w_tree_a10_0), (.long (0 : Int64))])) rfl rfl (hb hby d10_19) _ ?_
    refine XS.ladd X1.here hx rfl (hb hby d10_20) rfl ?_
    show Steps p.tables e below (T1.setTop (mkF m 21 #[.val (.ref a10_0), .val (.int (4 : Int32)), .val (.long (0 : Int64)), .second, .val (.int (4 : Int32))] [(.long ((0 : Int64) + t_w_tree_a10_0_3))])) _
    refine XS.lstoreN X1.here hx rfl (hb hby d10_21) rfl (l' := #[.val (.ref a10_0), .val (.int (4 : Int32)), .val (.long ((0 : Int64) + t_w_tree_a10_0_3)), .second, .val (.int (4 : Int32))]) rfl ?_
    refine XS.iload X1.here hx rfl (hb hby d10_22) rfl ?_
    refine XS.iload X1.here hx rfl (hb hby d10_24) rfl ?_
    show Steps p.tables e below (T1.setTop (mkF m 26 #[.val (.ref a10_0), .val (.int (4 : Int32)), .val (.long ((0 : Int64) + t_w_tree_a10_0_3)), .second, .val (.int (4 : Int32))] [(.int (4 : Int32)), (.int (4 : Int32))])) _
    refine XS.iload X1.here hx rfl (hb hby d10_26) rfl ?_
    refine XS.ineg X1.here hx rfl (hb hby d10_28) rfl ?_
    refine XS.iand X1.here hx rfl (hb hby d10_29) rfl ?_
    show Steps p.tables e below (T1.setTop (mkF m 30 #[.val (.ref a10_0), .val (.int (4 : Int32)), .val (.long ((0 : Int64) + t_w_tree_a10_0_3)), .second, .val (.int (4 : Int32))] [(.int (4 : Int32)), (.int (4 : Int32))])) _
    refine XS.isub X1.here hx rfl (hb hby d10_30) rfl ?_
    refine XS.istore X1.here hx rfl (hb hby d10_31) rfl (l' := #[.val (.ref a10_0), .val (.int (4 : Int32)), .val (.long ((0 : Int64) + t_w_tree_a10_0_3)), .second, .val (.int (0 : Int32))]) rfl ?_
    refine XS.goto X1.here hx rfl (pc0 := 33) (pc' := 5) rfl (hb hby d10_33) (by decide) (by decide) ?_
    show Steps p.tables e below (T1.setTop (mkF m 5 #[.val (.ref a10_0), .val (.int (4 : Int32)), .val (.long ((0 : Int64) + t_w_tree_a10_0_3)), .second, .val (.int (0 : Int32))] [])) _
    refine XS.iload X1.here hx rfl (hb hby d10_5) rfl ?_
    show Steps p.tables e below (T1.setTop (mkF m 7 #[.val (.ref a10_0), .val (.int (4 : Int32)), .val (.long ((0 : Int64) + t_w_tree_a10_0_3)), .second, .val (.int (0 : Int32))] [(.int (0 : Int32))])) _
    refine XS.ifYes X1.here hx rfl (pc0 := 7) (pc' := 36) rfl (hb hby d10_7) rfl ((if0 _ _).trans (flt (by decide : ¬ ((0 : Int32) < (0 : Int32)))).2.2.2) (by decide) (by decide) ?_
    refine XS.lloadN X1.here hx rfl (hb hby d10_36) rfl ?_
    show Steps p.tables e below (T1.setTop (mkF m 37 #[.val (.ref a10_0), .val (.int (4 : Int32)), .val (.long ((0 : Int64) + t_w_tree_a10_0_3)), .second, .val (.int (0 : Int32))] [(.long ((0 : Int64) + t_w_tree_a10_0_3))])) _
    exact own_retJ X1 hx Bd.returns (hb hby d10_37) hr
  · show Q_rm10_8 Z a10_0 w_tree_a10_0 w_total_a10_0 kc_w_tree_a10_0 t_w_tree_a10_0_0 t_w_tree_a10_0_1 t_w_tree_a10_0_2 t_w_tree_a10_0_3 t_w_tree_a10_0_4 t_w_tree_a10_0_5 t_w_tree_a10_0_6 t_w_tree_a10_0_7 h0 n0 _ T1.heap _
    rw [e1]
    exact ⟨rfl, N0, rfl⟩
theorem ef_rm10_9 (m : MethodId) (y0 : Addr) : entryFrame m #[(.ref y0), (.int (5 : Int32))] 5 = mkF m 0 #[.val (.ref y0), .val (.int (5 : Int32)), .unset, .unset, .unset] [] := by first | (simp [entryFrame, mkF, argsToLocals, Value.category]; done) | rfl
def Q_rm10_9 (Z : State) (a10_0 : Addr) (w_tree_a10_0 : Addr) (w_total_a10_0 : Int64) (kc_w_tree_a10_0 : ClassId) (t_w_tree_a10_0_0 : Int64) (t_w_tree_a10_0_1 : Int64) (t_w_tree_a10_0_2 : Int64) (t_w_tree_a10_0_3 : Int64) (t_w_tree_a10_0_4 : Int64) (t_w_tree_a10_0_5 : Int64) (t_w_tree_a10_0_6 : Int64) (t_w_tree_a10_0_7 : Int64) (h0 : Heap) (n0 : Nat) (v : Option Value) (h : Heap) (L : List Loc) : Prop := v = some (.long (((0 : Int64) + t_w_tree_a10_0_4) + t_w_tree_a10_0_3)) ∧ Fr n0 L ∧ h = h0
set_option maxRecDepth 65536 in
set_option maxHeartbeats 40000000 in
theorem rm10_9 (l : Launch) (Z : State) (a0 : Array Value) (hw : ∀ d ∈ tables_1, d.before a0 Z = true) (ws : List Jvm.Cond) (a10_0 : Addr) (w_tree_a10_0 : Addr) (w_total_a10_0 : Int64) (kc_w_tree_a10_0 : ClassId) (t_w_tree_a10_0_0 : Int64) (t_w_tree_a10_0_1 : Int64) (t_w_tree_a10_0_2 : Int64) (t_w_tree_a10_0_3 : Int64) (t_w_tree_a10_0_4 : Int64) (t_w_tree_a10_0_5 : Int64) (t_w_tree_a10_0_6 : Int64) (t_w_tree_a10_0_7 : Int64) (h0 : Heap) (n0 : Nat) (Z0 : n0 ≤ h0.size) (E_a10_0 : Exa Z h0 a10_0 "com/example/motley/motley/CountTree") (F_tree_a10_0 : Fld Z h0 a10_0 "com/example/motley/motley/CountTree" "tree" "[J" (.ref w_tree_a10_0)) (F_size_a10_0 : Fld Z h0 a10_0 "com/example/motley/motley/CountTree" "size" "I" (.int (5 : Int32))) (F_total_a10_0 : Fld Z h0 a10_0 "com/example/motley/motley/CountTree" "total" "J" (.long w_total_a10_0)) (V_w_tree_a10_0 : Arv Z h0 w_tree_a10_0 kc_w_tree_a10_0 .long (8 : Int32) [(.long t_w_tree_a10_0_0), (.long t_w_tree_a10_0_1), (.long t_w_tree_a10_0_2), (.long t_w_tree_a10_0_3), (.long t_w_tree_a10_0_4), (.long t_w_tree_a10_0_5), (.long t_w_tree_a10_0_6), (.long t_w_tree_a10_0_7)] (.long (0 : Int64))) :
    MetFree l (⟨"com/example/motley/motley/CountTree", "sumBefore", "(I)J"⟩ : MethodName) (head1 (Jvm.Cond.code (⟨"com/example/motley/motley/CountTree", "sumBefore", "(I)J"⟩ : MethodName) prog_14_method_8_code 5 (some .long) :: ws) ({ frames := 0, cells := 0, slots := 0, locals := 0 } : Room)) (fun a U => a = #[(.ref a10_0), (.int (5 : Int32))] ∧ Z.Warmed39 U.vm ∧ U.heap = h0) (fun _ _ _ _ _ => True) (fun _ U o U' => ∃ v L, o = .returned v ∧ Q_rm10_9 Z a10_0 w_tree_a10_0 w_total_a10_0 kc_w_tree_a10_0 t_w_tree_a10_0_0 t_w_tree_a10_0_1 t_w_tree_a10_0_2 t_w_tree_a10_0_3 t_w_tree_a10_0_4 t_w_tree_a10_0_5 t_w_tree_a10_0_6 t_w_tree_a10_0_7 h0 n0 v U'.heap L ∧ FrameEnd U o U' L ({ frames := 0, cells := 0, slots := 0, locals := 0 } : Room).cells ({ frames := 0, cells := 0, slots := 0, locals := 0 } : Room).slots) := by
  refine MetFree.of_bodySF (plainFor_of_name pn_10) hisR ?_
  intro p e s m args below meth c s₁ Bd hml0 hP hK
  obtain ⟨rfl, hZ, hh⟩ := hP
  have hx := Bd.exec
  have hby := Bd.bytes
  have hml : c.maxLocals = 5 := hml0
  have hown : s.vm.findClass "com/example/motley/motley/CountTree" = some m.cls := findClass_of_methodNamed Bd.named
  have hnm := (name_of_methodNamed Bd.named Bd.method).1
  have X0 : Stand p l e ({ frames := 0, cells := 0, slots := 0, locals := 0 } : Room) s m #[(.ref a10_0), (.int (5 : Int32))] below meth c s₁ [] 0 0 := Stand.of_body Bd
  have e0 : s₁.heap = h0 := by rw [← hh, Bd.state]; rfl
  have N0 := Fr.nil n0
  have pre0 : ∀ t, Steps p.tables e below (s₁.setTop (mkF m 0 #[.val (.ref a10_0), .val (.int (5 : Int32)), .unset, .unset, .unset] [])) t → Steps p.tables e below (s₁.setTop (entryFrame m #[(.ref a10_0), (.int (5 : Int32))] 5)) t := fun t k => castTop (ef_rm10_9 m a10_0) k
  obtain ⟨T1, X1, e1, st1⟩ := getF X0 hx hZ hown (host := "") (Or.inl (ow16 hw)) Via.refl e0 F_tree_a10_0 (g := (mkF m 12 #[.val (.ref a10_0), .val (.int (5 : Int32)), .val (.long (0 : Int64)), .second, .val (.int (5 : Int32))] [(.ref a10_0), (.long (0 : Int64))])) rfl rfl (hb hby d10_12)
  obtain ⟨cl2, Ar2, qk2, Sz2, Nz2, Hh2, Gf2⟩ := id V_w_tree_a10_0
  obtain ⟨T3, X3, e3, st3⟩ := getF X1 hx hZ hown (host := "") (Or.inl (ow16 hw)) Via.refl e1 F_tree_a10_0 (g := (mkF m 12 #[.val (.ref a10_0), .val (.int (5 : Int32)), .val (.long ((0 : Int64) + t_w_tree_a10_0_4)), .second, .val (.int (4 : Int32))] [(.ref a10_0), (.long ((0 : Int64) + t_w_tree_a10_0_4))])) rfl rfl (hb hby d10_12)
  obtain ⟨cl4, Ar4, qk4, Sz4, Nz4, Hh4, Gf4⟩ := id V_w_tree_a10_0
  obtain ⟨x5, hx5⟩ : ∃ z : Int64, z = (((0 : Int64) + t_w_tree_a10_0_4) + t_w_tree_a10_0_3) := ⟨_, rfl⟩
  obtain ⟨fs, hr, hrun, hended, hW, hsame⟩ := X3.leave (v := some (.long x5)) (fun h => by rw [Bd.returns] at h; cases h)
  refine ⟨_, _, pre0 _ ?_, hrun, hended, _, _, rfl, ?_, ⟨_, rfl⟩, hW, hsame.mono (by decide) (by decide)⟩
  · show Steps p.tables e below (s₁.setTop (mkF m 0 #[.val (.ref a10_0), .val (.int (5 : Int32)), .unset, .unset, .unset] [])) _
    refine XS.lconst X0.here hx rfl (hb hby d10_0) ?_
    refine XS.lstoreN X0.here hx rfl (hb hby d10_1) rfl (l' := #[.val (.ref a10_0), .val (.int (5 : Int32)), .val (.long (0 : Int64)), .second, .unset]) rfl ?_
    refine XS.iloadN X0.here hx rfl (hb hby d10_2) rfl ?_
    show Steps p.tables e below (s₁.setTop (mkF m 3 #[.val (.ref a10_0), .val (.int (5 : Int32)), .val (.long (0 : Int64)), .second, .unset] [(.int (5 : Int32))])) _
    refine XS.istore X0.here hx rfl (hb hby d10_3) rfl (l' := #[.val (.ref a10_0), .val (.int (5 : Int32)), .val (.long (0 : Int64)), .second, .val (.int (5 : Int32))]) rfl ?_
    refine XS.iload X0.here hx rfl (hb hby d10_5) rfl ?_
    show Steps p.tables e below (s₁.setTop (mkF m 7 #[.val (.ref a10_0), .val (.int (5 : Int32)), .val (.long (0 : Int64)), .second, .val (.int (5 : Int32))] [(.int (5 : Int32))])) _
    refine XS.ifNo X0.here hx rfl (hb hby d10_7) rfl ((if0 _ _).trans (tlt (by decide : (0 : Int32) < (5 : Int32))).2.2.2) ?_
    refine XS.lloadN X0.here hx rfl (hb hby d10_10) rfl ?_
    refine XS.aloadN X0.here hx rfl (hb hby d10_11) rfl rfl ?_
    show Steps p.tables e below (s₁.setTop (mkF m 12 #[.val (.ref a10_0), .val (.int (5 : Int32)), .val (.long (0 : Int64)), .second, .val (.int (5 : Int32))] [(.ref a10_0), (.long (0 : Int64))])) _
    refine st1 _ ?_
    refine XS.iload X1.here hx rfl (hb hby d10_15) rfl ?_
    refine XS.iconst X1.here hx rfl (hb hby d10_17) ?_
    show Steps p.tables e below (T1.setTop (mkF m 18 #[.val (.ref a10_0), .val (.int (5 : Int32)), .val (.long (0 : Int64)), .second, .val (.int (5 : Int32))] [(.int (1 : Int32)), (.int (5 : Int32)), (.ref w_tree_a10_0), (.long (0 : Int64))])) _
    refine XS.isub X1.here hx rfl (hb hby d10_18) rfl ?_
    refine X1.laload hx (j := (4 : Int32)) (v := (.long t_w_tree_a10_0_4)) (by rw [e1]; exact Ar2.1) (State.isArrayOf_alike hZ.alike Ar2.2.1) Ar2.2.2 (inb_of Sz2 ⟨by decide, by decide⟩) (Hh2.at (inb_of Sz2 ⟨by decide, by decide⟩) rfl) (g := (mkF m 19 #[.val (.ref a10_0), .val (.int (5 : Int32)), .val (.long (0 : Int64)), .second, .val (.int (5 : Int32))] [(.int (4 : Int32)), (.ref w_tree_a10_0), (.long (0 : Int64))])) rfl rfl (hb hby d10_19) _ ?_
    refine XS.ladd X1.here hx rfl (hb hby d10_20) rfl ?_
    show Steps p.tables e below (T1.setTop (mkF m 21 #[.val (.ref a10_0), .val (.int (5 : Int32)), .val (.long (0 : Int64)), .second, .val (.int (5 : Int32))] [(.long ((0 : Int64) + t_w_tree_a10_0_4))])) _
    refine XS.lstoreN X1.here hx rfl (hb hby d10_21) rfl (l' := #[.val (.ref a10_0), .val (.int (5 : Int32)), .val (.long ((0 : Int64) + t_w_tree_a10_0_4)), .second, .val (.int (5 : Int32))]) rfl ?_
    refine XS.iload X1.here hx rfl (hb hby d10_22) rfl ?_
    refine XS.iload X1.here hx rfl (hb hby d10_24) rfl ?_
    show Steps p.tables e below (T1.setTop (mkF m 26 #[.val (.ref a10_0), .val (.int (5 : Int32)), .val (.long ((0 : Int64) + t_w_tree_a10_0_4)), .second, .val (.int (5 : Int32))] [(.int (5 : Int32)), (.int (5 : Int32))])) _
    refine XS.iload X1.here hx rfl (hb hby d10_26) rfl ?_
    refine XS.ineg X1.here hx rfl (hb hby d10_28) rfl ?_
    refine XS.iand X1.here hx rfl (hb hby d10_29) rfl ?_
    show Steps p.tables e below (T1.setTop (mkF m 30 #[.val (.ref a10_0), .val (.int (5 : Int32)), .val (.long ((0 : Int64) + t_w_tree_a10_0_4)), .second, .val (.int (5 : Int32))] [(.int (1 : Int32)), (.int (5 : Int32))])) _
    refine XS.isub X1.here hx rfl (hb hby d10_30) rfl ?_
    refine XS.istore X1.here hx rfl (hb hby d10_31) rfl (l' := #[.val (.ref a10_0), .val (.int (5 : Int32)), .val (.long ((0 : Int64) + t_w_tree_a10_0_4)), .second, .val (.int (4 : Int32))]) rfl ?_
    refine XS.goto X1.here hx rfl (pc0 := 33) (pc' := 5) rfl (hb hby d10_33) (by decide) (by decide) ?_
    show Steps p.tables e below (T1.setTop (mkF m 5 #[.val (.ref a10_0), .val (.int (5 : Int32)), .val (.long ((0 : Int64) + t_w_tree_a10_0_4)), .second, .val (.int (4 : Int32))] [])) _
    refine XS.iload X1.here hx rfl (hb hby d10_5) rfl ?_
    show Steps p.tables e below (T1.setTop (mkF m 7 #[.val (.ref a10_0), .val (.int (5 : Int32)), .val (.long ((0 : Int64) + t_w_tree_a10_0_4)), .second, .val (.int (4 : Int32))] [(.int (4 : Int32))])) _
    refine XS.ifNo X1.here hx rfl (hb hby d10_7) rfl ((if0 _ _).trans (tlt (by decide : (0 : Int32) < (4 : Int32))).2.2.2) ?_
    refine XS.lloadN X1.here hx rfl (hb hby d10_10) rfl ?_
    refine XS.aloadN X1.here hx rfl (hb hby d10_11) rfl rfl ?_
    show Steps p.tables e below (T1.setTop (mkF m 12 #[.val (.ref a10_0), .val (.int (5 : Int32)), .val (.long ((0 : Int64) + t_w_tree_a10_0_4)), .second, .val (.int (4 : Int32))] [(.ref a10_0), (.long ((0 : Int64) + t_w_tree_a10_0_4))])) _
    refine st3 _ ?_
    refine XS.iload X3.here hx rfl (hb hby d10_15) rfl ?_
    refine XS.iconst X3.here hx rfl (hb hby d10_17) ?_
    show Steps p.tables e below (T3.setTop (mkF m 18 #[.val (.ref a10_0), .val (.int (5 : Int32)), .val (.long ((0 : Int64) + t_w_tree_a10_0_4)), .second, .val (.int (4 : Int32))] [(.int (1 : Int32)), (.int (4 : Int32)), (.ref w_tree_a10_0), (.long ((0 : Int64) + t_w_tree_a10_0_4))])) _
    refine XS.isub X3.here hx rfl (hb hby d10_18) rfl ?_
    refine X3.laload hx (j := (3 : Int32)) (v := (.long t_w_tree_a10_0_3)) (by rw [e3]; exact Ar4.1) (State.isArrayOf_alike hZ.alike Ar4.2.1) Ar4.2.2 (inb_of Sz4 ⟨by decide, by decide⟩) (Hh4.at (inb_of Sz4 ⟨by decide, by decide⟩) rfl) (g := (mkF m 19 #[.val (.ref a10_0), .val (.int (5 : Int32)), .val (.long ((0 : Int64) + t_w_tree_a10_0_4)), .second, .val (.int (4 : Int32))] [(.int (3 : Int32)), (.ref w_tree_a10_0), (.long ((0 : Int64) + t_w_tree_a10_0_4))])) rfl rfl (hb hby d10_19) _ ?_
    refine XS.ladd X3.here hx rfl (hb hby d10_20) rfl ?_
    show Steps p.tables e below (T3.setTop (mkF m 21 #[.val (.ref a10_0), .val (.int (5 : Int32)), .val (.long ((0 : Int64) + t_w_tree_a10_0_4)), .second, .val (.int (4 : Int32))] [(.long (((0 : Int64) + t_w_tree_a10_0_4) + t_w_tree_a10_0_3))])) _
    refine XS.lstoreN X3.here hx rfl (hb hby d10_21) rfl (l' := #[.val (.ref a10_0), .val (.int (5 : Int32)), .val (.long (((0 : Int64) + t_w_tree_a10_0_4) + t_w_tree_a10_0_3)), .second, .val (.int (4 : Int32))]) rfl ?_
    show Steps p.tables e below (T3.setTop (mkF m 22 #[.val (.ref a10_0), .val (.int (5 : Int32)), .val (.long (((0 : Int64) + t_w_tree_a10_0_4) + t_w_tree_a10_0_3)), .second, .val (.int (4 : Int32))] [])) _
    rw [← hx5]
    refine XS.iload X3.here hx rfl (hb hby d10_22) rfl ?_
    refine XS.iload X3.here hx rfl (hb hby d10_24) rfl ?_
    show Steps p.tables e below (T3.setTop (mkF m 26 #[.val (.ref a10_0), .val (.int (5 : Int32)), .val (.long x5), .second, .val (.int (4 : Int32))] [(.int (4 : Int32)), (.int (4 : Int32))])) _
    refine XS.iload X3.here hx rfl (hb hby d10_26) rfl ?_
    refine XS.ineg X3.here hx rfl (hb hby d10_28) rfl ?_
    refine XS.iand X3.here hx rfl (hb hby d10_29) rfl ?_
    show Steps p.tables e below (T3.setTop (mkF m 30 #[.val (.ref a10_0), .val (.int (5 : Int32)), .val (.long x5), .second, .val (.int (4 : Int32))] [(.int (4 : Int32)), (.int (4 : Int32))])) _
    refine XS.isub X3.here hx rfl (hb hby d10_30) rfl ?_
    refine XS.istore X3.here hx rfl (hb hby d10_31) rfl (l' := #[.val (.ref a10_0), .val (.int (5 : Int32)), .val (.long x5), .second, .val (.int (0 : Int32))]) rfl ?_
    refine XS.goto X3.here hx rfl (pc0 := 33) (pc' := 5) rfl (hb hby d10_33) (by decide) (by decide) ?_
    show Steps p.tables e below (T3.setTop (mkF m 5 #[.val (.ref a10_0), .val (.int (5 : Int32)), .val (.long x5), .second, .val (.int (0 : Int32))] [])) _
    refine XS.iload X3.here hx rfl (hb hby d10_5) rfl ?_
    show Steps p.tables e below (T3.setTop (mkF m 7 #[.val (.ref a10_0), .val (.int (5 : Int32)), .val (.long x5), .second, .val (.int (0 : Int32))] [(.int (0 : Int32))])) _
    refine XS.ifYes X3.here hx rfl (pc0 := 7) (pc' := 36) rfl (hb hby d10_7) rfl ((if0 _ _).trans (flt (by decide : ¬ ((0 : Int32) < (0 : Int32)))).2.2.2) (by decide) (by decide) ?_
    refine XS.lloadN X3.here hx rfl (hb hby d10_36) rfl ?_
    show Steps p.tables e below (T3.setTop (mkF m 37 #[.val (.ref a10_0), .val (.int (5 : Int32)), .val (.long x5), .second, .val (.int (0 : Int32))] [(.long x5)])) _
    exact own_retJ X3 hx Bd.returns (hb hby d10_37) hr
  · show Q_rm10_9 Z a10_0 w_tree_a10_0 w_total_a10_0 kc_w_tree_a10_0 t_w_tree_a10_0_0 t_w_tree_a10_0_1 t_w_tree_a10_0_2 t_w_tree_a10_0_3 t_w_tree_a10_0_4 t_w_tree_a10_0_5 t_w_tree_a10_0_6 t_w_tree_a10_0_7 h0 n0 _ T3.heap _
    rw [e3]
    subst hx5
    exact ⟨rfl, N0, rfl⟩
theorem d12_0 : decode prog_14_method_6_code 0 = .ok (.aload_n 0, 1) := by decide +kernel
theorem d12_1 : decode prog_14_method_6_code 1 = .ok (.iload_n 1, 1) := by decide +kernel
theorem d12_2 : decode prog_14_method_6_code 2 = .ok (.iconst 1, 1) := by decide +kernel
theorem d12_3 : decode prog_14_method_6_code 3 = .ok (.iadd, 1) := by decide +kernel
theorem d12_4 : decode prog_14_method_6_code 4 = .ok (.invokevirtual 33, 3) := by decide +kernel
theorem d12_7 : decode prog_14_method_6_code 7 = .ok (.aload_n 0, 1) := by decide +kernel
theorem d12_8 : decode prog_14_method_6_code 8 = .ok (.iload_n 1, 1) := by decide +kernel
theorem d12_9 : decode prog_14_method_6_code 9 = .ok (.invokevirtual 33, 3) := by decide +kernel
theorem d12_12 : decode prog_14_method_6_code 12 = .ok (.lsub, 1) := by decide +kernel
theorem d12_13 : decode prog_14_method_6_code 13 = .ok (.lreturn, 1) := by decide +kernel
theorem pn_12 : plainName "com/example/motley/motley/CountTree" = true := by first | (simp [plainName, overriddenIn]; done) | decide +kernel
theorem ef_rm12_1 (m : MethodId) (y0 : Addr) (y1 : Int32) : entryFrame m #[(.ref y0), (.int y1)] 2 = mkF m 0 #[.val (.ref y0), .val (.int y1)] [] := by first | (simp [entryFrame, mkF, argsToLocals, Value.category]; done) | rfl
def Q_rm12_1 (Z : State) (a12_0 : Addr) (p12_1 : Int32) (w_tree_a12_0 : Addr) (w_total_a12_0 : Int64) (kc_w_tree_a12_0 : ClassId) (t_w_tree_a12_0_0 : Int64) (t_w_tree_a12_0_1 : Int64) (t_w_tree_a12_0_2 : Int64) (t_w_tree_a12_0_3 : Int64) (t_w_tree_a12_0_4 : Int64) (t_w_tree_a12_0_5 : Int64) (t_w_tree_a12_0_6 : Int64) (t_w_tree_a12_0_7 : Int64) (h0 : Heap) (n0 : Nat) (v : Option Value) (h : Heap) (L : List Loc) : Prop := v = some (.long (if p12_1 = (0 : Int32) then (((0 : Int64) + t_w_tree_a12_0_0) - (0 : Int64)) else (if p12_1 = (1 : Int32) then (((0 : Int64) + t_w_tree_a12_0_1) - ((0 : Int64) + t_w_tree_a12_0_0)) else (if p12_1 = (2 : Int32) then ((((0 : Int64) + t_w_tree_a12_0_2) + t_w_tree_a12_0_1) - ((0 : Int64) + t_w_tree_a12_0_1)) else (if p12_1 = (3 : Int32) then (((0 : Int64) + t_w_tree_a12_0_3) - (((0 : Int64) + t_w_tree_a12_0_2) + t_w_tree_a12_0_1)) else ((((0 : Int64) + t_w_tree_a12_0_4) + t_w_tree_a12_0_3) - ((0 : Int64) + t_w_tree_a12_0_3))))))) ∧ Fr n0 L ∧ h = h0
set_option maxRecDepth 65536 in
set_option maxHeartbeats 40000000 in
theorem rm12_1 (l : Launch) (Z : State) (a0 : Array Value) (hw : ∀ d ∈ tables_1, d.before a0 Z = true) (ws : List Jvm.Cond) (a12_0 : Addr) (p12_1 : Int32) (w_tree_a12_0 : Addr) (w_total_a12_0 : Int64) (kc_w_tree_a12_0 : ClassId) (t_w_tree_a12_0_0 : Int64) (t_w_tree_a12_0_1 : Int64) (t_w_tree_a12_0_2 : Int64) (t_w_tree_a12_0_3 : Int64) (t_w_tree_a12_0_4 : Int64) (t_w_tree_a12_0_5 : Int64) (t_w_tree_a12_0_6 : Int64) (t_w_tree_a12_0_7 : Int64) (h0 : Heap) (n0 : Nat) (Z0 : n0 ≤ h0.size) (hp : p12_1 = (0 : Int32) ∨ p12_1 = (1 : Int32) ∨ p12_1 = (2 : Int32) ∨ p12_1 = (3 : Int32) ∨ p12_1 = (4 : Int32)) (E_a12_0 : Exa Z h0 a12_0 "com/example/motley/motley/CountTree") (F_tree_a12_0 : Fld Z h0 a12_0 "com/example/motley/motley/CountTree" "tree" "[J" (.ref w_tree_a12_0)) (F_size_a12_0 : Fld Z h0 a12_0 "com/example/motley/motley/CountTree" "size" "I" (.int (5 : Int32))) (F_total_a12_0 : Fld Z h0 a12_0 "com/example/motley/motley/CountTree" "total" "J" (.long w_total_a12_0)) (V_w_tree_a12_0 : Arv Z h0 w_tree_a12_0 kc_w_tree_a12_0 .long (8 : Int32) [(.long t_w_tree_a12_0_0), (.long t_w_tree_a12_0_1), (.long t_w_tree_a12_0_2), (.long t_w_tree_a12_0_3), (.long t_w_tree_a12_0_4), (.long t_w_tree_a12_0_5), (.long t_w_tree_a12_0_6), (.long t_w_tree_a12_0_7)] (.long (0 : Int64))) :
    MetFree l (⟨"com/example/motley/motley/CountTree", "get", "(I)J"⟩ : MethodName) (head1 (Jvm.Cond.code (⟨"com/example/motley/motley/CountTree", "get", "(I)J"⟩ : MethodName) prog_14_method_6_code 2 (some .long) :: ws) ({ frames := 1, cells := 0, slots := 0, locals := 18 } : Room)) (fun a U => a = #[(.ref a12_0), (.int p12_1)] ∧ Z.Warmed39 U.vm ∧ U.heap = h0) (fun _ _ _ _ _ => True) (fun _ U o U' => ∃ v L, o = .returned v ∧ Q_rm12_1 Z a12_0 p12_1 w_tree_a12_0 w_total_a12_0 kc_w_tree_a12_0 t_w_tree_a12_0_0 t_w_tree_a12_0_1 t_w_tree_a12_0_2 t_w_tree_a12_0_3 t_w_tree_a12_0_4 t_w_tree_a12_0_5 t_w_tree_a12_0_6 t_w_tree_a12_0_7 h0 n0 v U'.heap L ∧ FrameEnd U o U' L ({ frames := 1, cells := 0, slots := 0, locals := 18 } : Room).cells ({ frames := 1, cells := 0, slots := 0, locals := 18 } : Room).slots) := by
  refine MetFree.of_bodySF (plainFor_of_name pn_12) hisR ?_
  intro p e s m args below meth c s₁ Bd hml0 hP hK
  obtain ⟨rfl, hZ, hh⟩ := hP
  have hx := Bd.exec
  have hby := Bd.bytes
  have hml : c.maxLocals = 2 := hml0
  have hown : s.vm.findClass "com/example/motley/motley/CountTree" = some m.cls := findClass_of_methodNamed Bd.named
  have hnm := (name_of_methodNamed Bd.named Bd.method).1
  have X0 : Stand p l e ({ frames := 1, cells := 0, slots := 0, locals := 18 } : Room) s m #[(.ref a12_0), (.int p12_1)] below meth c s₁ [] 0 0 := Stand.of_body Bd
  have e0 : s₁.heap = h0 := by rw [← hh, Bd.state]; rfl
  have N0 := Fr.nil n0
  have pre0 : ∀ t, Steps p.tables e below (s₁.setTop (mkF m 0 #[.val (.ref a12_0), .val (.int p12_1)] [])) t → Steps p.tables e below (s₁.setTop (entryFrame m #[(.ref a12_0), (.int p12_1)] 2)) t := fun t k => castTop (ef_rm12_1 m a12_0 p12_1) k
  by_cases hb1 : p12_1 = (0 : Int32)
  · have own_t1 : True := trivial
    obtain ⟨cq2, kq2, q2a, q2b, q2c⟩ := isOf hZ e0 E_a12_0
    obtain ⟨_, _, ⟨T2, L2, k2, n2⟩, -, X2, ⟨Lc2, hQ2, l2, y2, z2⟩, st2⟩ := X0.virtualBack hx (y := (⟨"com/example/motley/motley/CountTree", "sumBefore", "(I)J"⟩ : MethodName)) (z := (⟨"com/example/motley/motley/CountTree", "sumBefore", "(I)J"⟩ : MethodName)) hown (mvT hZ (ow52 hw)) (mvT hZ (ow53 hw)) (notFace_of_selects (args := #[]) (mvT hZ (ow55 hw))) (mvT hZ (ow55 hw)) (mvT hZ (ow54 hw)) (by decide) (backOf (W := 0) (rm10_4 l Z a0 hw [] a12_0 w_tree_a12_0 w_total_a12_0 kc_w_tree_a12_0 t_w_tree_a12_0_0 t_w_tree_a12_0_1 t_w_tree_a12_0_2 t_w_tree_a12_0_3 t_w_tree_a12_0_4 t_w_tree_a12_0_5 t_w_tree_a12_0_6 t_w_tree_a12_0_7 h0 n0 Z0 E_a12_0 F_tree_a12_0 F_size_a12_0 F_total_a12_0 V_w_tree_a12_0) hZ (ow56 hw) (ow8 hw) (by decide) (by decide)) q2a q2c (g := (mkF m 4 #[.val (.ref a12_0), .val (.int (0 : Int32))] [(.int (1 : Int32)), (.ref a12_0)])) rfl (by rw [hml]; rfl) (Steps.refl _) (argsL := [(.int (1 : Int32))]) (rest := []) (lenOf pd__I_J rfl) rfl (by show 2 * 0 + _ ≤ _; exact Nat.le_of_eq rfl) (hb hby d12_4) (fun _ _ => ⟨rfl, e0, (by decide : 0 + 0 ≤ _), (by decide : 0 + 0 ≤ _)⟩)
    dsimp only [Pt.U, Pt.locs, Pt.cells, Pt.slots] at X2 l2 y2 z2 st2 hQ2
    subst l2 y2 z2
    obtain ⟨rfl, Nq2, e2⟩ := hQ2
    have N2 := Fr.app N0 Nq2
    obtain ⟨x3, hx3⟩ : ∃ z : Int64, z = ((0 : Int64) + t_w_tree_a12_0_0) := ⟨_, rfl⟩
    obtain ⟨cq4, kq4, q4a, q4b, q4c⟩ := isOf hZ e2 E_a12_0
    obtain ⟨_, _, ⟨T4, L4, k4, n4⟩, -, X4, ⟨Lc4, hQ4, l4, y4, z4⟩, st4⟩ := X2.virtualBack hx (y := (⟨"com/example/motley/motley/CountTree", "sumBefore", "(I)J"⟩ : MethodName)) (z := (⟨"com/example/motley/motley/CountTree", "sumBefore", "(I)J"⟩ : MethodName)) hown (mvT hZ (ow52 hw)) (mvT hZ (ow53 hw)) (notFace_of_selects (args := #[]) (mvT hZ (ow55 hw))) (mvT hZ (ow55 hw)) (mvT hZ (ow54 hw)) (by decide) (backOf (W := 2) (rm10_5 l Z a0 hw [] a12_0 w_tree_a12_0 w_total_a12_0 kc_w_tree_a12_0 t_w_tree_a12_0_0 t_w_tree_a12_0_1 t_w_tree_a12_0_2 t_w_tree_a12_0_3 t_w_tree_a12_0_4 t_w_tree_a12_0_5 t_w_tree_a12_0_6 t_w_tree_a12_0_7 h0 n0 Z0 E_a12_0 F_tree_a12_0 F_size_a12_0 F_total_a12_0 V_w_tree_a12_0) hZ (ow56 hw) (ow8 hw) (by decide) (by decide)) q4a q4c (g := (mkF m 9 #[.val (.ref a12_0), .val (.int (0 : Int32))] [(.int (0 : Int32)), (.ref a12_0), (.long x3)])) rfl (by rw [hml]; rfl) (Steps.refl _) (argsL := [(.int (0 : Int32))]) (rest := [(.long x3)]) (lenOf pd__I_J rfl) rfl (by show 2 * 0 + _ ≤ _; exact Nat.le_of_eq rfl) (hb hby d12_9) (fun _ _ => ⟨rfl, e2, (by decide : 0 + 0 ≤ _), (by decide : 0 + 0 ≤ _)⟩)
    dsimp only [Pt.U, Pt.locs, Pt.cells, Pt.slots] at X4 l4 y4 z4 st4 hQ4
    subst l4 y4 z4
    obtain ⟨rfl, Nq4, e4⟩ := hQ4
    have N4 := Fr.app N2 Nq4
    obtain ⟨fs, hr, hrun, hended, hW, hsame⟩ := X4.leave (v := some (.long (x3 - (0 : Int64)))) (fun h => by rw [Bd.returns] at h; cases h)
    refine ⟨_, _, pre0 _ ?_, hrun, hended, _, _, rfl, ?_, ⟨_, rfl⟩, hW, hsame.mono (by decide) (by decide)⟩
    · show Steps p.tables e below (s₁.setTop (mkF m 0 #[.val (.ref a12_0), .val (.int p12_1)] [])) _
      rw [hb1]
      show Steps p.tables e below (s₁.setTop (mkF m 0 #[.val (.ref a12_0), .val (.int (0 : Int32))] [])) _
      refine XS.aloadN X0.here hx rfl (hb hby d12_0) rfl rfl ?_
      refine XS.iloadN X0.here hx rfl (hb hby d12_1) rfl ?_
      refine XS.iconst X0.here hx rfl (hb hby d12_2) ?_
      show Steps p.tables e below (s₁.setTop (mkF m 3 #[.val (.ref a12_0), .val (.int (0 : Int32))] [(.int (1 : Int32)), (.int (0 : Int32)), (.ref a12_0)])) _
      refine XS.iadd X0.here hx rfl (hb hby d12_3) rfl ?_
      refine st2.trans ?_
      show Steps p.tables e below (T2.setTop (mkF m 7 #[.val (.ref a12_0), .val (.int (0 : Int32))] [(.long ((0 : Int64) + t_w_tree_a12_0_0))])) _
      rw [← hx3]
      refine XS.aloadN X2.here hx rfl (hb hby d12_7) rfl rfl ?_
      refine XS.iloadN X2.here hx rfl (hb hby d12_8) rfl ?_
      show Steps p.tables e below (T2.setTop (mkF m 9 #[.val (.ref a12_0), .val (.int (0 : Int32))] [(.int (0 : Int32)), (.ref a12_0), (.long x3)])) _
      refine st4.trans ?_
      refine XS.lsub X4.here hx rfl (hb hby d12_12) rfl ?_
      show Steps p.tables e below (T4.setTop (mkF m 13 #[.val (.ref a12_0), .val (.int (0 : Int32))] [(.long (x3 - (0 : Int64)))])) _
      exact own_retJ X4 hx Bd.returns (hb hby d12_13) hr
    · show Q_rm12_1 Z a12_0 p12_1 w_tree_a12_0 w_total_a12_0 kc_w_tree_a12_0 t_w_tree_a12_0_0 t_w_tree_a12_0_1 t_w_tree_a12_0_2 t_w_tree_a12_0_3 t_w_tree_a12_0_4 t_w_tree_a12_0_5 t_w_tree_a12_0_6 t_w_tree_a12_0_7 h0 n0 _ T4.heap _
      rw [e4]
      subst hx3
      exact ⟨(congrArg (fun z => some (Value.long z)) (if_pos hb1).symm), N4, rfl⟩
  · have own_u1 : True := trivial
    by_cases hb5 : p12_1 = (1 : Int32)
    · have own_t5 : True := trivial
      obtain ⟨cq6, kq6, q6a, q6b, q6c⟩ := isOf hZ e0 E_a12_0
      obtain ⟨_, _, ⟨T6, L6, k6, n6⟩, -, X6, ⟨Lc6, hQ6, l6, y6, z6⟩, st6⟩ := X0.virtualBack hx (y := (⟨"com/example/motley/motley/CountTree", "sumBefore", "(I)J"⟩ : MethodName)) (z := (⟨"com/example/motley/motley/CountTree", "sumBefore", "(I)J"⟩ : MethodName)) hown (mvT hZ (ow52 hw)) (mvT hZ (ow53 hw)) (notFace_of_selects (args := #[]) (mvT hZ (ow55 hw))) (mvT hZ (ow55 hw)) (mvT hZ (ow54 hw)) (by decide) (backOf (W := 0) (rm10_6 l Z a0 hw [] a12_0 w_tree_a12_0 w_total_a12_0 kc_w_tree_a12_0 t_w_tree_a12_0_0 t_w_tree_a12_0_1 t_w_tree_a12_0_2 t_w_tree_a12_0_3 t_w_tree_a12_0_4 t_w_tree_a12_0_5 t_w_tree_a12_0_6 t_w_tree_a12_0_7 h0 n0 Z0 E_a12_0 F_tree_a12_0 F_size_a12_0 F_total_a12_0 V_w_tree_a12_0) hZ (ow56 hw) (ow8 hw) (by decide) (by decide)) q6a q6c (g := (mkF m 4 #[.val (.ref a12_0), .val (.int (1 : Int32))] [(.int (2 : Int32)), (.ref a12_0)])) rfl (by rw [hml]; rfl) (Steps.refl _) (argsL := [(.int (2 : Int32))]) (rest := []) (lenOf pd__I_J rfl) rfl (by show 2 * 0 + _ ≤ _; exact Nat.le_of_eq rfl) (hb hby d12_4) (fun _ _ => ⟨rfl, e0, (by decide : 0 + 0 ≤ _), (by decide : 0 + 0 ≤ _)⟩)
      dsimp only [Pt.U, Pt.locs, Pt.cells, Pt.slots] at X6 l6 y6 z6 st6 hQ6
      subst l6 y6 z6
      obtain ⟨rfl, Nq6, e6⟩ := hQ6
      have N6 := Fr.app N0 Nq6
      obtain ⟨x7, hx7⟩ : ∃ z : Int64, z = ((0 : Int64) + t_w_tree_a12_0_1) := ⟨_, rfl⟩
      obtain ⟨cq8, kq8, q8a, q8b, q8c⟩ := isOf hZ e6 E_a12_0
      obtain ⟨_, _, ⟨T8, L8, k8, n8⟩, -, X8, ⟨Lc8, hQ8, l8, y8, z8⟩, st8⟩ := X6.virtualBack hx (y := (⟨"com/example/motley/motley/CountTree", "sumBefore", "(I)J"⟩ : MethodName)) (z := (⟨"com/example/motley/motley/CountTree", "sumBefore", "(I)J"⟩ : MethodName)) hown (mvT hZ (ow52 hw)) (mvT hZ (ow53 hw)) (notFace_of_selects (args := #[]) (mvT hZ (ow55 hw))) (mvT hZ (ow55 hw)) (mvT hZ (ow54 hw)) (by decide) (backOf (W := 2) (rm10_4 l Z a0 hw [] a12_0 w_tree_a12_0 w_total_a12_0 kc_w_tree_a12_0 t_w_tree_a12_0_0 t_w_tree_a12_0_1 t_w_tree_a12_0_2 t_w_tree_a12_0_3 t_w_tree_a12_0_4 t_w_tree_a12_0_5 t_w_tree_a12_0_6 t_w_tree_a12_0_7 h0 n0 Z0 E_a12_0 F_tree_a12_0 F_size_a12_0 F_total_a12_0 V_w_tree_a12_0) hZ (ow56 hw) (ow8 hw) (by decide) (by decide)) q8a q8c (g := (mkF m 9 #[.val (.ref a12_0), .val (.int (1 : Int32))] [(.int (1 : Int32)), (.ref a12_0), (.long x7)])) rfl (by rw [hml]; rfl) (Steps.refl _) (argsL := [(.int (1 : Int32))]) (rest := [(.long x7)]) (lenOf pd__I_J rfl) rfl (by show 2 * 0 + _ ≤ _; exact Nat.le_of_eq rfl) (hb hby d12_9) (fun _ _ => ⟨rfl, e6, (by decide : 0 + 0 ≤ _), (by decide : 0 + 0 ≤ _)⟩)
      dsimp only [Pt.U, Pt.locs, Pt.cells, Pt.slots] at X8 l8 y8 z8 st8 hQ8
      subst l8 y8 z8
      obtain ⟨rfl, Nq8, e8⟩ := hQ8
      have N8 := Fr.app N6 Nq8
      obtain ⟨x9, hx9⟩ : ∃ z : Int64, z = ((0 : Int64) + t_w_tree_a12_0_0) := ⟨_, rfl⟩
      obtain ⟨fs, hr, hrun, hended, hW, hsame⟩ := X8.leave (v := some (.long (x7 - x9))) (fun h => by rw [Bd.returns] at h; cases h)
      refine ⟨_, _, pre0 _ ?_, hrun, hended, _, _, rfl, ?_, ⟨_, rfl⟩, hW, hsame.mono (by decide) (by decide)⟩
      · show Steps p.tables e below (s₁.setTop (mkF m 0 #[.val (.ref a12_0), .val (.int p12_1)] [])) _
        rw [hb5]
        show Steps p.tables e below (s₁.setTop (mkF m 0 #[.val (.ref a12_0), .val (.int (1 : Int32))] [])) _
        refine XS.aloadN X0.here hx rfl (hb hby d12_0) rfl rfl ?_
        refine XS.iloadN X0.here hx rfl (hb hby d12_1) rfl ?_
        refine XS.iconst X0.here hx rfl (hb hby d12_2) ?_
        show Steps p.tables e below (s₁.setTop (mkF m 3 #[.val (.ref a12_0), .val (.int (1 : Int32))] [(.int (1 : Int32)), (.int (1 : Int32)), (.ref a12_0)])) _
        refine XS.iadd X0.here hx rfl (hb hby d12_3) rfl ?_
        refine st6.trans ?_
        show Steps p.tables e below (T6.setTop (mkF m 7 #[.val (.ref a12_0), .val (.int (1 : Int32))] [(.long ((0 : Int64) + t_w_tree_a12_0_1))])) _
        rw [← hx7]
        refine XS.aloadN X6.here hx rfl (hb hby d12_7) rfl rfl ?_
        refine XS.iloadN X6.here hx rfl (hb hby d12_8) rfl ?_
        show Steps p.tables e below (T6.setTop (mkF m 9 #[.val (.ref a12_0), .val (.int (1 : Int32))] [(.int (1 : Int32)), (.ref a12_0), (.long x7)])) _
        refine st8.trans ?_
        show Steps p.tables e below (T8.setTop (mkF m 12 #[.val (.ref a12_0), .val (.int (1 : Int32))] [(.long ((0 : Int64) + t_w_tree_a12_0_0)), (.long x7)])) _
        rw [← hx9]
        refine XS.lsub X8.here hx rfl (hb hby d12_12) rfl ?_
        show Steps p.tables e below (T8.setTop (mkF m 13 #[.val (.ref a12_0), .val (.int (1 : Int32))] [(.long (x7 - x9))])) _
        exact own_retJ X8 hx Bd.returns (hb hby d12_13) hr
      · show Q_rm12_1 Z a12_0 p12_1 w_tree_a12_0 w_total_a12_0 kc_w_tree_a12_0 t_w_tree_a12_0_0 t_w_tree_a12_0_1 t_w_tree_a12_0_2 t_w_tree_a12_0_3 t_w_tree_a12_0_4 t_w_tree_a12_0_5 t_w_tree_a12_0_6 t_w_tree_a12_0_7 h0 n0 _ T8.heap _
        rw [e8]
        subst hx9
        subst hx7
        exact ⟨(congrArg (fun z => some (Value.long z)) ((if_neg hb1).trans (if_pos hb5)).symm), N8, rfl⟩
    · have own_u5 : True := trivial
      by_cases hb10 : p12_1 = (2 : Int32)
      · have own_t10 : True := trivial
        obtain ⟨cq11, kq11, q11a, q11b, q11c⟩ := isOf hZ e0 E_a12_0
        obtain ⟨_, _, ⟨T11, L11, k11, n11⟩, -, X11, ⟨Lc11, hQ11, l11, y11, z11⟩, st11⟩ := X0.virtualBack hx (y := (⟨"com/example/motley/motley/CountTree", "sumBefore", "(I)J"⟩ : MethodName)) (z := (⟨"com/example/motley/motley/CountTree", "sumBefore", "(I)J"⟩ : MethodName)) hown (mvT hZ (ow52 hw)) (mvT hZ (ow53 hw)) (notFace_of_selects (args := #[]) (mvT hZ (ow55 hw))) (mvT hZ (ow55 hw)) (mvT hZ (ow54 hw)) (by decide) (backOf (W := 0) (rm10_7 l Z a0 hw [] a12_0 w_tree_a12_0 w_total_a12_0 kc_w_tree_a12_0 t_w_tree_a12_0_0 t_w_tree_a12_0_1 t_w_tree_a12_0_2 t_w_tree_a12_0_3 t_w_tree_a12_0_4 t_w_tree_a12_0_5 t_w_tree_a12_0_6 t_w_tree_a12_0_7 h0 n0 Z0 E_a12_0 F_tree_a12_0 F_size_a12_0 F_total_a12_0 V_w_tree_a12_0) hZ (ow56 hw) (ow8 hw) (by decide) (by decide)) q11a q11c (g := (mkF m 4 #[.val (.ref a12_0), .val (.int (2 : Int32))] [(.int (3 : Int32)), (.ref a12_0)])) rfl (by rw [hml]; rfl) (Steps.refl _) (argsL := [(.int (3 : Int32))]) (rest := []) (lenOf pd__I_J rfl) rfl (by show 2 * 0 + _ ≤ _; exact Nat.le_of_eq rfl) (hb hby d12_4) (fun _ _ => ⟨rfl, e0, (by decide : 0 + 0 ≤ _), (by decide : 0 + 0 ≤ _)⟩)
        dsimp only [Pt.U, Pt.locs, Pt.cells, Pt.slots] at X11 l11 y11 z11 st11 hQ11
        subst l11 y11 z11
        obtain ⟨rfl, Nq11, e11⟩ := hQ11
        have N11 := Fr.app N0 Nq11
        obtain ⟨x12, hx12⟩ : ∃ z : Int64, z = (((0 : Int64) + t_w_tree_a12_0_2) + t_w_tree_a12_0_1) := ⟨_, rfl⟩
        obtain ⟨cq13, kq13, q13a, q13b, q13c⟩ := isOf hZ e11 E_a12_0
        obtain ⟨_, _, ⟨T13, L13, k13, n13⟩, -, X13, ⟨Lc13, hQ13, l13, y13, z13⟩, st13⟩ := X11.virtualBack hx (y := (⟨"com/example/motley/motley/CountTree", "sumBefore", "(I)J"⟩ : MethodName)) (z := (⟨"com/example/motley/motley/CountTree", "sumBefore", "(I)J"⟩ : MethodName)) hown (mvT hZ (ow52 hw)) (mvT hZ (ow53 hw)) (notFace_of_selects (args := #[]) (mvT hZ (ow55 hw))) (mvT hZ (ow55 hw)) (mvT hZ (ow54 hw)) (by decide) (backOf (W := 2) (rm10_6 l Z a0 hw [] a12_0 w_tree_a12_0 w_total_a12_0 kc_w_tree_a12_0 t_w_tree_a12_0_0 t_w_tree_a12_0_1 t_w_tree_a12_0_2 t_w_tree_a12_0_3 t_w_tree_a12_0_4 t_w_tree_a12_0_5 t_w_tree_a12_0_6 t_w_tree_a12_0_7 h0 n0 Z0 E_a12_0 F_tree_a12_0 F_size_a12_0 F_total_a12_0 V_w_tree_a12_0) hZ (ow56 hw) (ow8 hw) (by decide) (by decide)) q13a q13c (g := (mkF m 9 #[.val (.ref a12_0), .val (.int (2 : Int32))] [(.int (2 : Int32)), (.ref a12_0), (.long x12)])) rfl (by rw [hml]; rfl) (Steps.refl _) (argsL := [(.int (2 : Int32))]) (rest := [(.long x12)]) (lenOf pd__I_J rfl) rfl (by show 2 * 0 + _ ≤ _; exact Nat.le_of_eq rfl) (hb hby d12_9) (fun _ _ => ⟨rfl, e11, (by decide : 0 + 0 ≤ _), (by decide : 0 + 0 ≤ _)⟩)
        dsimp only [Pt.U, Pt.locs, Pt.cells, Pt.slots] at X13 l13 y13 z13 st13 hQ13
        subst l13 y13 z13
        obtain ⟨rfl, Nq13, e13⟩ := hQ13
        have N13 := Fr.app N11 Nq13
        obtain ⟨x14, hx14⟩ : ∃ z : Int64, z = ((0 : Int64) + t_w_tree_a12_0_1) := ⟨_, rfl⟩
        obtain ⟨fs, hr, hrun, hended, hW, hsame⟩ := X13.leave (v := some (.long (x12 - x14))) (fun h => by rw [Bd.returns] at h; cases h)
        refine ⟨_, _, pre0 _ ?_, hrun, hended, _, _, rfl, ?_, ⟨_, rfl⟩, hW, hsame.mono (by decide) (by decide)⟩
        · show Steps p.tables e below (s₁.setTop (mkF m 0 #[.val (.ref a12_0), .val (.int p12_1)] [])) _
          rw [hb10]
          show Steps p.tables e below (s₁.setTop (mkF m 0 #[.val (.ref a12_0), .val (.int (2 : Int32))] [])) _
          refine XS.aloadN X0.here hx rfl (hb hby d12_0) rfl rfl ?_
          refine XS.iloadN X0.here hx rfl (hb hby d12_1) rfl ?_
          refine XS.iconst X0.here hx rfl (hb hby d12_2) ?_
          show Steps p.tables e below (s₁.setTop (mkF m 3 #[.val (.ref a12_0), .val (.int (2 : Int32))] [(.int (1 : Int32)), (.int (2 : Int32)), (.ref a12_0)])) _
          refine XS.iadd X0.here hx rfl (hb hby d12_3) rfl ?_
          refine st11.trans ?_
          show Steps p.tables e below (T11.setTop (mkF m 7 #[.val (.ref a12_0), .val (.int (2 : Int32))] [(.long (((0 : Int64) + t_w_tree_a12_0_2) + t_w_tree_a12_0_1))])) _
          rw [← hx12]
          refine XS.aloadN X11.here hx rfl (hb hby d12_7) rfl rfl ?_
          refine XS.iloadN X11.here hx rfl (hb hby d12_8) rfl ?_
          show Steps p.tables e below (T11.setTop (mkF m 9 #[.val (.ref a12_0), .val (.int (2 : Int32))] [(.int (2 : Int32)), (.ref a12_0), (.long x12)])) _
          refine st13.trans ?_
          show Steps p.tables e below (T13.setTop (mkF m 12 #[.val (.ref a12_0), .val (.int (2 : Int32))] [(.long ((0 : Int64) + t_w_tree_a12_0_1)), (.long x12)])) _
          rw [← hx14]
          refine XS.lsub X13.here hx rfl (hb hby d12_12) rfl ?_
          show Steps p.tables e below (T13.setTop (mkF m 13 #[.val (.ref a12_0), .val (.int (2 : Int32))] [(.long (x12 - x14))])) _
          exact own_retJ X13 hx Bd.returns (hb hby d12_13) hr
        · show Q_rm12_1 Z a12_0 p12_1 w_tree_a12_0 w_total_a12_0 kc_w_tree_a12_0 t_w_tree_a12_0_0 t_w_tree_a12_0_1 t_w_tree_a12_0_2 t_w_tree_a12_0_3 t_w_tree_a12_0_4 t_w_tree_a12_0_5 t_w_tree_a12_0_6 t_w_tree_a12_0_7 h0 n0 _ T13.heap _
          rw [e13]
          subst hx14
          subst hx12
          exact ⟨(congrArg (fun z => some (Value.long z)) ((if_neg hb1).trans ((if_neg hb5).trans (if_pos hb10))).symm), N13, rfl⟩
      · have own_u10 : True := trivial
        by_cases hb15 : p12_1 = (3 : Int32)
        · have own_t15 : True := trivial
          obtain ⟨cq16, kq16, q16a, q16b, q16c⟩ := isOf hZ e0 E_a12_0
          obtain ⟨_, _, ⟨T16, L16, k16, n16⟩, -, X16, ⟨Lc16, hQ16, l16, y16, z16⟩, st16⟩ := X0.virtualBack hx (y := (⟨"com/example/motley/motley/CountTree", "sumBefore", "(I)J"⟩ : MethodName)) (z := (⟨"com/example/motley/motley/CountTree", "sumBefore", "(I)J"⟩ : MethodName)) hown (mvT hZ (ow52 hw)) (mvT hZ (ow53 hw)) (notFace_of_selects (args := #[]) (mvT hZ (ow55 hw))) (mvT hZ (ow55 hw)) (mvT hZ (ow54 hw)) (by decide) (backOf (W := 0) (rm10_8 l Z a0 hw [] a12_0 w_tree_a12_0 w_total_a12_0 kc_w_tree_a12_0 t_w_tree_a12_0_0 t_w_tree_a12_0_1 t_w_tree_a12_0_2 t_w_tree_a12_0_3 t_w_tree_a12_0_4 t_w_tree_a12_0_5 t_w_tree_a12_0_6 t_w_tree_a12_0_7 h0 n0 Z0 E_a12_0 F_tree_a12_0 F_size_a12_0 F_total_a12_0 V_w_tree_a12_0) hZ (ow56 hw) (ow8 hw) (by decide) (by decide)) q16a q16c (g := (mkF m 4 #[.val (.ref a12_0), .val (.int (3 : Int32))] [(.int (4 : Int32)), (.ref a12_0)])) rfl (by rw [hml]; rfl) (Steps.refl _) (argsL := [(.int (4 : Int32))]) (rest := []) (lenOf pd__I_J rfl) rfl (by show 2 * 0 + _ ≤ _; exact Nat.le_of_eq rfl) (hb hby d12_4) (fun _ _ => ⟨rfl, e0, (by decide : 0 + 0 ≤ _), (by decide : 0 + 0 ≤ _)⟩)
          dsimp only [Pt.U, Pt.locs, Pt.cells, Pt.slots] at X16 l16 y16 z16 st16 hQ16
          subst l16 y16 z16
          obtain ⟨rfl, Nq16, e16⟩ := hQ16
          have N16 := Fr.app N0 Nq16
          obtain ⟨x17, hx17⟩ : ∃ z : Int64, z = ((0 : Int64) + t_w_tree_a12_0_3) := ⟨_, rfl⟩
          obtain ⟨cq18, kq18, q18a, q18b, q18c⟩ := isOf hZ e16 E_a12_0
          obtain ⟨_, _, ⟨T18, L18, k18, n18⟩, -, X18, ⟨Lc18, hQ18, l18, y18, z18⟩, st18⟩ := X16.virtualBack hx (y := (⟨"com/example/motley/motley/CountTree", "sumBefore", "(I)J"⟩ : MethodName)) (z := (⟨"com/example/motley/motley/CountTree", "sumBefore", "(I)J"⟩ : MethodName)) hown (mvT hZ (ow52 hw)) (mvT hZ (ow53 hw)) (notFace_of_selects (args := #[]) (mvT hZ (ow55 hw))) (mvT hZ (ow55 hw)) (mvT hZ (ow54 hw)) (by decide) (backOf (W := 2) (rm10_7 l Z a0 hw [] a12_0 w_tree_a12_0 w_total_a12_0 kc_w_tree_a12_0 t_w_tree_a12_0_0 t_w_tree_a12_0_1 t_w_tree_a12_0_2 t_w_tree_a12_0_3 t_w_tree_a12_0_4 t_w_tree_a12_0_5 t_w_tree_a12_0_6 t_w_tree_a12_0_7 h0 n0 Z0 E_a12_0 F_tree_a12_0 F_size_a12_0 F_total_a12_0 V_w_tree_a12_0) hZ (ow56 hw) (ow8 hw) (by decide) (by decide)) q18a q18c (g := (mkF m 9 #[.val (.ref a12_0), .val (.int (3 : Int32))] [(.int (3 : Int32)), (.ref a12_0), (.long x17)])) rfl (by rw [hml]; rfl) (Steps.refl _) (argsL := [(.int (3 : Int32))]) (rest := [(.long x17)]) (lenOf pd__I_J rfl) rfl (by show 2 * 0 + _ ≤ _; exact Nat.le_of_eq rfl) (hb hby d12_9) (fun _ _ => ⟨rfl, e16, (by decide : 0 + 0 ≤ _), (by decide : 0 + 0 ≤ _)⟩)
          dsimp only [Pt.U, Pt.locs, Pt.cells, Pt.slots] at X18 l18 y18 z18 st18 hQ18
          subst l18 y18 z18
          obtain ⟨rfl, Nq18, e18⟩ := hQ18
          have N18 := Fr.app N16 Nq18
          obtain ⟨x19, hx19⟩ : ∃ z : Int64, z = (((0 : Int64) + t_w_tree_a12_0_2) + t_w_tree_a12_0_1) := ⟨_, rfl⟩
          obtain ⟨fs, hr, hrun, hended, hW, hsame⟩ := X18.leave (v := some (.long (x17 - x19))) (fun h => by rw [Bd.returns] at h; cases h)
          refine ⟨_, _, pre0 _ ?_, hrun, hended, _, _, rfl, ?_, ⟨_, rfl⟩, hW, hsame.mono (by decide) (by decide)⟩
          · show Steps p.tables e below (s₁.setTop (mkF m 0 #[.val (.ref a12_0), .val (.int p12_1)] [])) _
            rw [hb15]
            show Steps p.tables e below (s₁.setTop (mkF m 0 #[.val (.ref a12_0), .val (.int (3 : Int32))] [])) _
            refine XS.aloadN X0.here hx rfl (hb hby d12_0) rfl rfl ?_
            refine XS.iloadN X0.here hx rfl (hb hby d12_1) rfl ?_
            refine XS.iconst X0.here hx rfl (hb hby d12_2) ?_
            show Steps p.tables e below (s₁.setTop (mkF m 3 #[.val (.ref a12_0), .val (.int (3 : Int32))] [(.int (1 : Int32)), (.int (3 : Int32)), (.ref a12_0)])) _
            refine XS.iadd X0.here hx rfl (hb hby d12_3) rfl ?_
            refine st16.trans ?_
            show Steps p.tables e below (T16.setTop (mkF m 7 #[.val (.ref a12_0), .val (.int (3 : Int32))] [(.long ((0 : Int64) + t_w_tree_a12_0_3))])) _
            rw [← hx17]
            refine XS.aloadN X16.here hx rfl (hb hby d12_7) rfl rfl ?_
            refine XS.iloadN X16.here hx rfl (hb hby d12_8) rfl ?_
            show Steps p.tables e below (T16.setTop (mkF m 9 #[.val (.ref a12_0), .val (.int (3 : Int32))] [(.int (3 : Int32)), (.ref a12_0), (.long x17)])) _
            refine st18.trans ?_
            show Steps p.tables e below (T18.setTop (mkF m 12 #[.val (.ref a12_0), .val (.int (3 : Int32))] [(.long (((0 : Int64) + t_w_tree_a12_0_2) + t_w_tree_a12_0_1)), (.long x17)])) _
            rw [← hx19]
            refine XS.lsub X18.here hx rfl (hb hby d12_12) rfl ?_
            show Steps p.tables e below (T18.setTop (mkF m 13 #[.val (.ref a12_0), .val (.int (3 : Int32))] [(.long (x17 - x19))])) _
            exact own_retJ X18 hx Bd.returns (hb hby d12_13) hr
          · show Q_rm12_1 Z a12_0 p12_1 w_tree_a12_0 w_total_a12_0 kc_w_tree_a12_0 t_w_tree_a12_0_0 t_w_tree_a12_0_1 t_w_tree_a12_0_2 t_w_tree_a12_0_3 t_w_tree_a12_0_4 t_w_tree_a12_0_5 t_w_tree_a12_0_6 t_w_tree_a12_0_7 h0 n0 _ T18.heap _
            rw [e18]
            subst hx19
            subst hx17
            exact ⟨(congrArg (fun z => some (Value.long z)) ((if_neg hb1).trans ((if_neg hb5).trans ((if_neg hb10).trans (if_pos hb15)))).symm), N18, rfl⟩
        · have own_u15 : True := trivial
          have hl20 : p12_1 = (4 : Int32) := ((((hp.resolve_left hb1).resolve_left hb5).resolve_left hb10).resolve_left hb15)
          obtain ⟨cq21, kq21, q21a, q21b, q21c⟩ := isOf hZ e0 E_a12_0
          obtain ⟨_, _, ⟨T21, L21, k21, n21⟩, -, X21, ⟨Lc21, hQ21, l21, y21, z21⟩, st21⟩ := X0.virtualBack hx (y := (⟨"com/example/motley/motley/CountTree", "sumBefore", "(I)J"⟩ : MethodName)) (z := (⟨"com/example/motley/motley/CountTree", "sumBefore", "(I)J"⟩ : MethodName)) hown (mvT hZ (ow52 hw)) (mvT hZ (ow53 hw)) (notFace_of_selects (args := #[]) (mvT hZ (ow55 hw))) (mvT hZ (ow55 hw)) (mvT hZ (ow54 hw)) (by decide) (backOf (W := 0) (rm10_9 l Z a0 hw [] a12_0 w_tree_a12_0 w_total_a12_0 kc_w_tree_a12_0 t_w_tree_a12_0_0 t_w_tree_a12_0_1 t_w_tree_a12_0_2 t_w_tree_a12_0_3 t_w_tree_a12_0_4 t_w_tree_a12_0_5 t_w_tree_a12_0_6 t_w_tree_a12_0_7 h0 n0 Z0 E_a12_0 F_tree_a12_0 F_size_a12_0 F_total_a12_0 V_w_tree_a12_0) hZ (ow56 hw) (ow8 hw) (by decide) (by decide)) q21a q21c (g := (mkF m 4 #[.val (.ref a12_0), .val (.int (4 : Int32))] [(.int (5 : Int32)), (.ref a12_0)])) rfl (by rw [hml]; rfl) (Steps.refl _) (argsL := [(.int (5 : Int32))]) (rest := []) (lenOf pd__I_J rfl) rfl (by show 2 * 0 + _ ≤ _; exact Nat.le_of_eq rfl) (hb hby d12_4) (fun _ _ => ⟨rfl, e0, (by decide : 0 + 0 ≤ _), (by decide : 0 + 0 ≤ _)⟩)
          dsimp only [Pt.U, Pt.locs, Pt.cells, Pt.slots] at X21 l21 y21 z21 st21 hQ21
          subst l21 y21 z21
          obtain ⟨rfl, Nq21, e21⟩ := hQ21
          have N21 := Fr.app N0 Nq21
          obtain ⟨x22, hx22⟩ : ∃ z : Int64, z = (((0 : Int64) + t_w_tree_a12_0_4) + t_w_tree_a12_0_3) := ⟨_, rfl⟩
          obtain ⟨cq23, kq23, q23a, q23b, q23c⟩ := isOf hZ e21 E_a12_0
          obtain ⟨_, _, ⟨T23, L23, k23, n23⟩, -, X23, ⟨Lc23, hQ23, l23, y23, z23⟩, st23⟩ := X21.virtualBack hx (y := (⟨"com/example/motley/motley/CountTree", "sumBefore", "(I)J"⟩ : MethodName)) (z := (⟨"com/example/motley/motley/CountTree", "sumBefore", "(I)J"⟩ : MethodName)) hown (mvT hZ (ow52 hw)) (mvT hZ (ow53 hw)) (notFace_of_selects (args := #[]) (mvT hZ (ow55 hw))) (mvT hZ (ow55 hw)) (mvT hZ (ow54 hw)) (by decide) (backOf (W := 2) (rm10_8 l Z a0 hw [] a12_0 w_tree_a12_0 w_total_a12_0 kc_w_tree_a12_0 t_w_tree_a12_0_0 t_w_tree_a12_0_1 t_w_tree_a12_0_2 t_w_tree_a12_0_3 t_w_tree_a12_0_4 t_w_tree_a12_0_5 t_w_tree_a12_0_6 t_w_tree_a12_0_7 h0 n0 Z0 E_a12_0 F_tree_a12_0 F_size_a12_0 F_total_a12_0 V_w_tree_a12_0) hZ (ow56 hw) (ow8 hw) (by decide) (by decide)) q23a q23c (g := (mkF m 9 #[.val (.ref a12_0), .val (.int (4 : Int32))] [(.int (4 : Int32)), (.ref a12_0), (.long x22)])) rfl (by rw [hml]; rfl) (Steps.refl _) (argsL := [(.int (4 : Int32))]) (rest := [(.long x22)]) (lenOf pd__I_J rfl) rfl (by show 2 * 0 + _ ≤ _; exact Nat.le_of_eq rfl) (hb hby d12_9) (fun _ _ => ⟨rfl, e21, (by decide : 0 + 0 ≤ _), (by decide : 0 + 0 ≤ _)⟩)
          dsimp only [Pt.U, Pt.locs, Pt.cells, Pt.slots] at X23 l23 y23 z23 st23 hQ23
          subst l23 y23 z23
          obtain ⟨rfl, Nq23, e23⟩ := hQ23
          have N23 := Fr.app N21 Nq23
          obtain ⟨x24, hx24⟩ : ∃ z : Int64, z = ((0 : Int64) + t_w_tree_a12_0_3) := ⟨_, rfl⟩
          obtain ⟨fs, hr, hrun, hended, hW, hsame⟩ := X23.leave (v := some (.long (x22 - x24))) (fun h => by rw [Bd.returns] at h; cases h)
          refine ⟨_, _, pre0 _ ?_, hrun, hended, _, _, rfl, ?_, ⟨_, rfl⟩, hW, hsame.mono (by decide) (by decide)⟩
          · show Steps p.tables e below (s₁.setTop (mkF m 0 #[.val (.ref a12_0), .val (.int p12_1)] [])) _
            rw [hl20]
            show Steps p.tables e below (s₁.setTop (mkF m 0 #[.val (.ref a12_0), .val (.int (4 : Int32))] [])) _
            refine XS.aloadN X0.here hx rfl (hb hby d12_0) rfl rfl ?_
            refine XS.iloadN X0.here hx rfl (hb hby d12_1) rfl ?_
            refine XS.iconst X0.here hx rfl (hb hby d12_2) ?_
            show Steps p.tables e below (s₁.setTop (mkF m 3 #[.val (.ref a12_0), .val (.int (4 : Int32))] [(.int (1 : Int32)), (.int (4 : Int32)), (.ref a12_0)])) _
            refine XS.iadd X0.here hx rfl (hb hby d12_3) rfl ?_
            refine st21.trans ?_
            show Steps p.tables e below (T21.setTop (mkF m 7 #[.val (.ref a12_0), .val (.int (4 : Int32))] [(.long (((0 : Int64) + t_w_tree_a12_0_4) + t_w_tree_a12_0_3))])) _
            rw [← hx22]
            refine XS.aloadN X21.here hx rfl (hb hby d12_7) rfl rfl ?_
            refine XS.iloadN X21.here hx rfl (hb hby d12_8) rfl ?_
            show Steps p.tables e below (T21.setTop (mkF m 9 #[.val (.ref a12_0), .val (.int (4 : Int32))] [(.int (4 : Int32)), (.ref a12_0), (.long x22)])) _
            refine st23.trans ?_
            show Steps p.tables e below (T23.setTop (mkF m 12 #[.val (.ref a12_0), .val (.int (4 : Int32))] [(.long ((0 : Int64) + t_w_tree_a12_0_3)), (.long x22)])) _
            rw [← hx24]
            refine XS.lsub X23.here hx rfl (hb hby d12_12) rfl ?_
            show Steps p.tables e below (T23.setTop (mkF m 13 #[.val (.ref a12_0), .val (.int (4 : Int32))] [(.long (x22 - x24))])) _
            exact own_retJ X23 hx Bd.returns (hb hby d12_13) hr
          · show Q_rm12_1 Z a12_0 p12_1 w_tree_a12_0 w_total_a12_0 kc_w_tree_a12_0 t_w_tree_a12_0_0 t_w_tree_a12_0_1 t_w_tree_a12_0_2 t_w_tree_a12_0_3 t_w_tree_a12_0_4 t_w_tree_a12_0_5 t_w_tree_a12_0_6 t_w_tree_a12_0_7 h0 n0 _ T23.heap _
            rw [e23]
            subst hx24
            subst hx22
            exact ⟨(congrArg (fun z => some (Value.long z)) ((if_neg hb1).trans ((if_neg hb5).trans ((if_neg hb10).trans (if_neg hb15)))).symm), N23, rfl⟩
theorem ef_rm10_10 (m : MethodId) (y0 : Addr) (y1 : Int32) : entryFrame m #[(.ref y0), (.int y1)] 5 = mkF m 0 #[.val (.ref y0), .val (.int y1), .unset, .unset, .unset] [] := by first | (simp [entryFrame, mkF, argsToLocals, Value.category]; done) | rfl
def Q_rm10_10 (Z : State) (a10_0 : Addr) (p10_1 : Int32) (w_tree_a10_0 : Addr) (w_total_a10_0 : Int64) (kc_w_tree_a10_0 : ClassId) (t_w_tree_a10_0_0 : Int64) (t_w_tree_a10_0_1 : Int64) (t_w_tree_a10_0_2 : Int64) (t_w_tree_a10_0_3 : Int64) (t_w_tree_a10_0_4 : Int64) (t_w_tree_a10_0_5 : Int64) (t_w_tree_a10_0_6 : Int64) (t_w_tree_a10_0_7 : Int64) (h0 : Heap) (n0 : Nat) (v : Option Value) (h : Heap) (L : List Loc) : Prop := v = some (.long (if p10_1 = (0 : Int32) then (0 : Int64) else (if p10_1 = (1 : Int32) then ((0 : Int64) + t_w_tree_a10_0_0) else (if p10_1 = (2 : Int32) then ((0 : Int64) + t_w_tree_a10_0_1) else (if p10_1 = (3 : Int32) then (((0 : Int64) + t_w_tree_a10_0_2) + t_w_tree_a10_0_1) else (if p10_1 = (4 : Int32) then ((0 : Int64) + t_w_tree_a10_0_3) else (if p10_1 = (5 : Int32) then (((0 : Int64) + t_w_tree_a10_0_4) + t_w_tree_a10_0_3) else (if p10_1 = (6 : Int32) then (((0 : Int64) + t_w_tree_a10_0_5) + t_w_tree_a10_0_3) else (if p10_1 = (7 : Int32) then ((((0 : Int64) + t_w_tree_a10_0_6) + t_w_tree_a10_0_5) + t_w_tree_a10_0_3) else ((0 : Int64) + t_w_tree_a10_0_7)))))))))) ∧ Fr n0 L ∧ h = h0
set_option maxRecDepth 65536 in
set_option maxHeartbeats 40000000 in
theorem rm10_10 (l : Launch) (Z : State) (a0 : Array Value) (hw : ∀ d ∈ tables_1, d.before a0 Z = true) (ws : List Jvm.Cond) (a10_0 : Addr) (p10_1 : Int32) (w_tree_a10_0 : Addr) (w_total_a10_0 : Int64) (kc_w_tree_a10_0 : ClassId) (t_w_tree_a10_0_0 : Int64) (t_w_tree_a10_0_1 : Int64) (t_w_tree_a10_0_2 : Int64) (t_w_tree_a10_0_3 : Int64) (t_w_tree_a10_0_4 : Int64) (t_w_tree_a10_0_5 : Int64) (t_w_tree_a10_0_6 : Int64) (t_w_tree_a10_0_7 : Int64) (h0 : Heap) (n0 : Nat) (Z0 : n0 ≤ h0.size) (hq : p10_1 = (0 : Int32) ∨ p10_1 = (1 : Int32) ∨ p10_1 = (2 : Int32) ∨ p10_1 = (3 : Int32) ∨ p10_1 = (4 : Int32) ∨ p10_1 = (5 : Int32) ∨ p10_1 = (6 : Int32) ∨ p10_1 = (7 : Int32) ∨ p10_1 = (8 : Int32)) (E_a10_0 : Exa Z h0 a10_0 "com/example/motley/motley/CountTree") (F_tree_a10_0 : Fld Z h0 a10_0 "com/example/motley/motley/CountTree" "tree" "[J" (.ref w_tree_a10_0)) (F_size_a10_0 : Fld Z h0 a10_0 "com/example/motley/motley/CountTree" "size" "I" (.int (5 : Int32))) (F_total_a10_0 : Fld Z h0 a10_0 "com/example/motley/motley/CountTree" "total" "J" (.long w_total_a10_0)) (V_w_tree_a10_0 : Arv Z h0 w_tree_a10_0 kc_w_tree_a10_0 .long (8 : Int32) [(.long t_w_tree_a10_0_0), (.long t_w_tree_a10_0_1), (.long t_w_tree_a10_0_2), (.long t_w_tree_a10_0_3), (.long t_w_tree_a10_0_4), (.long t_w_tree_a10_0_5), (.long t_w_tree_a10_0_6), (.long t_w_tree_a10_0_7)] (.long (0 : Int64))) :
    MetFree l (⟨"com/example/motley/motley/CountTree", "sumBefore", "(I)J"⟩ : MethodName) (head1 (Jvm.Cond.code (⟨"com/example/motley/motley/CountTree", "sumBefore", "(I)J"⟩ : MethodName) prog_14_method_8_code 5 (some .long) :: ws) ({ frames := 0, cells := 0, slots := 0, locals := 0 } : Room)) (fun a U => a = #[(.ref a10_0), (.int p10_1)] ∧ Z.Warmed39 U.vm ∧ U.heap = h0) (fun _ _ _ _ _ => True) (fun _ U o U' => ∃ v L, o = .returned v ∧ Q_rm10_10 Z a10_0 p10_1 w_tree_a10_0 w_total_a10_0 kc_w_tree_a10_0 t_w_tree_a10_0_0 t_w_tree_a10_0_1 t_w_tree_a10_0_2 t_w_tree_a10_0_3 t_w_tree_a10_0_4 t_w_tree_a10_0_5 t_w_tree_a10_0_6 t_w_tree_a10_0_7 h0 n0 v U'.heap L ∧ FrameEnd U o U' L ({ frames := 0, cells := 0, slots := 0, locals := 0 } : Room).cells ({ frames := 0, cells := 0, slots := 0, locals := 0 } : Room).slots) := by
  refine MetFree.of_bodySF (plainFor_of_name pn_10) hisR ?_
  intro p e s m args below meth c s₁ Bd hml0 hP hK
  obtain ⟨rfl, hZ, hh⟩ := hP
  have hx := Bd.exec
  have hby := Bd.bytes
  have hml : c.maxLocals = 5 := hml0
  have hown : s.vm.findClass "com/example/motley/motley/CountTree" = some m.cls := findClass_of_methodNamed Bd.named
  have hnm := (name_of_methodNamed Bd.named Bd.method).1
  have X0 : Stand p l e ({ frames := 0, cells := 0, slots := 0, locals := 0 } : Room) s m #[(.ref a10_0), (.int p10_1)] below meth c s₁ [] 0 0 := Stand.of_body Bd
  have e0 : s₁.heap = h0 := by rw [← hh, Bd.state]; rfl
  have N0 := Fr.nil n0
  have pre0 : ∀ t, Steps p.tables e below (s₁.setTop (mkF m 0 #[.val (.ref a10_0), .val (.int p10_1), .unset, .unset, .unset] [])) t → Steps p.tables e below (s₁.setTop (entryFrame m #[(.ref a10_0), (.int p10_1)] 5)) t := fun t k => castTop (ef_rm10_10 m a10_0 p10_1) k
  by_cases hb1 : p10_1 = (0 : Int32)
  · have own_t1 : True := trivial
    obtain ⟨fs, hr, hrun, hended, hW, hsame⟩ := X0.leave (v := some (.long (0 : Int64))) (fun h => by rw [Bd.returns] at h; cases h)
    refine ⟨_, _, pre0 _ ?_, hrun, hended, _, _, rfl, ?_, ⟨_, rfl⟩, hW, hsame.mono (by decide) (by decide)⟩
    · show Steps p.tables e below (s₁.setTop (mkF m 0 #[.val (.ref a10_0), .val (.int p10_1), .unset, .unset, .unset] [])) _
      rw [hb1]
      show Steps p.tables e below (s₁.setTop (mkF m 0 #[.val (.ref a10_0), .val (.int (0 : Int32)), .unset, .unset, .unset] [])) _
      refine XS.lconst X0.here hx rfl (hb hby d10_0) ?_
      refine XS.lstoreN X0.here hx rfl (hb hby d10_1) rfl (l' := #[.val (.ref a10_0), .val (.int (0 : Int32)), .val (.long (0 : Int64)), .second, .unset]) rfl ?_
      refine XS.iloadN X0.here hx rfl (hb hby d10_2) rfl ?_
      show Steps p.tables e below (s₁.setTop (mkF m 3 #[.val (.ref a10_0), .val (.int (0 : Int32)), .val (.long (0 : Int64)), .second, .unset] [(.int (0 : Int32))])) _
      refine XS.istore X0.here hx rfl (hb hby d10_3) rfl (l' := #[.val (.ref a10_0), .val (.int (0 : Int32)), .val (.long (0 : Int64)), .second, .val (.int (0 : Int32))]) rfl ?_
      refine XS.iload X0.here hx rfl (hb hby d10_5) rfl ?_
      show Steps p.tables e below (s₁.setTop (mkF m 7 #[.val (.ref a10_0), .val (.int (0 : Int32)), .val (.long (0 : Int64)), .second, .val (.int (0 : Int32))] [(.int (0 : Int32))])) _
      refine XS.ifYes X0.here hx rfl (pc0 := 7) (pc' := 36) rfl (hb hby d10_7) rfl ((if0 _ _).trans (flt (by decide : ¬ ((0 : Int32) < (0 : Int32)))).2.2.2) (by decide) (by decide) ?_
      refine XS.lloadN X0.here hx rfl (hb hby d10_36) rfl ?_
      show Steps p.tables e below (s₁.setTop (mkF m 37 #[.val (.ref a10_0), .val (.int (0 : Int32)), .val (.long (0 : Int64)), .second, .val (.int (0 : Int32))] [(.long (0 : Int64))])) _
      exact own_retJ X0 hx Bd.returns (hb hby d10_37) hr
    · show Q_rm10_10 Z a10_0 p10_1 w_tree_a10_0 w_total_a10_0 kc_w_tree_a10_0 t_w_tree_a10_0_0 t_w_tree_a10_0_1 t_w_tree_a10_0_2 t_w_tree_a10_0_3 t_w_tree_a10_0_4 t_w_tree_a10_0_5 t_w_tree_a10_0_6 t_w_tree_a10_0_7 h0 n0 _ s₁.heap _
      rw [e0]
      exact ⟨(congrArg (fun z => some (Value.long z)) (if_pos hb1).symm), N0, rfl⟩
  · have own_u1 : True := trivial
    by_cases hb2 : p10_1 = (1 : Int32)
    · have own_t2 : True := trivial
      obtain ⟨T3, X3, e3, st3⟩ := getF X0 hx hZ hown (host := "") (Or.inl (ow16 hw)) Via.refl e0 F_tree_a10_0 (g := (mkF m 12 #[.val (.ref a10_0), .val (.int (1 : Int32)), .val (.long (0 : Int64)), .second, .val (.int (1 : Int32))] [(.ref a10_0), (.long (0 : Int64))])) rfl rfl (hb hby d10_12)
      obtain ⟨cl4, Ar4, qk4, Sz4, Nz4, Hh4, Gf4⟩ := id V_w_tree_a10_0
      obtain ⟨fs, hr, hrun, hended, hW, hsame⟩ := X3.leave (v := some (.long ((0 : Int64) + t_w_tree_a10_0_0))) (fun h => by rw [Bd.returns] at h; cases h)
      refine ⟨_, _, pre0 _ ?_, hrun, hended, _, _, rfl, ?_, ⟨_, rfl⟩, hW, hsame.mono (by decide) (by decide)⟩
      · show Steps p.tables e below (s₁.setTop (mkF m 0 #[.val (.ref a10_0), .val (.int p10_1), .unset, .unset, .unset] [])) _
        rw [hb2]
        show Steps p.tables e below (s₁.setTop (mkF m 0 #[.val (.ref a10_0), .val (.int (1 : Int32)), .unset, .unset, .unset] [])) _
        refine XS.lconst X0.here hx rfl (hb hby d10_0) ?_
        refine XS.lstoreN X0.here hx rfl (hb hby d10_1) rfl (l' := #[.val (.ref a10_0), .val (.int (1 : Int32)), .val (.long (0 : Int64)), .second, .unset]) rfl ?_
        refine XS.iloadN X0.here hx rfl (hb hby d10_2) rfl ?_
        show Steps p.tables e below (s₁.setTop (mkF m 3 #[.val (.ref a10_0), .val (.int (1 : Int32)), .val (.long (0 : Int64)), .second, .unset] [(.int (1 : Int32))])) _
        refine XS.istore X0.here hx rfl (hb hby d10_3) rfl (l' := #[.val (.ref a10_0), .val (.int (1 : Int32)), .val (.long (0 : Int64)), .second, .val (.int (1 : Int32))]) rfl ?_
        refine XS.iload X0.here hx rfl (hb hby d10_5) rfl ?_
        show Steps p.tables e below (s₁.setTop (mkF m 7 #[.val (.ref a10_0), .val (.int (1 : Int32)), .val (.long (0 : Int64)), .second, .val (.int (1 : Int32))] [(.int (1 : Int32))])) _
        refine XS.ifNo X0.here hx rfl (hb hby d10_7) rfl ((if0 _ _).trans (tlt (by decide : (0 : Int32) < (1 : Int32))).2.2.2) ?_
        refine XS.lloadN X0.here hx rfl (hb hby d10_10) rfl ?_
        refine XS.aloadN X0.here hx rfl (hb hby d10_11) rfl rfl ?_
        show Steps p.tables e below (s₁.setTop (mkF m 12 #[.val (.ref a10_0), .val (.int (1 : Int32)), .val (.long (0 : Int64)), .second, .val (.int (1 : Int32))] [(.ref a10_0), (.long (0 : Int64))])) _
        refine st3 _ ?_
        refine XS.iload X3.here hx rfl (hb hby d10_15) rfl ?_
        refine XS.iconst X3.here hx rfl (hb hby d10_17) ?_
        show Steps p.tables e below (T3.setTop (mkF m 18 #[.val (.ref a10_0), .val (.int (1 : Int32)), .val (.long (0 : Int64)), .second, .val (.int (1 : Int32))] [(.int (1 : Int32)), (.int (1 : Int32)), (.ref w_tree_a10_0), (.long (0 : Int64))])) _
        refine XS.isub X3.here hx rfl (hb hby d10_18) rfl ?_
        refine X3.laload hx (j := (0 : Int32)) (v := (.long t_w_tree_a10_0_0)) (by rw [e3]; exact Ar4.1) (State.isArrayOf_alike hZ.alike Ar4.2.1) Ar4.2.2 (inb_of Sz4 ⟨by decide, by decide⟩) (Hh4.at (inb_of Sz4 ⟨by decide, by decide⟩) rfl) (g := (mkF m 19 #[.val (.ref a10_0), .val (.int (1 : Int32)), .val (.long (0 : Int64)), .second, .val (.int (1 : Int32))] [(.int (0 : Int32)), (.ref w_tree_a10_0), (.long (0 : Int64))])) rfl rfl (hb hby d10_19) _ ?_
        refine XS.ladd X3.here hx rfl (hb hby d10_20) rfl ?_
        show Steps p.tables e below (T3.setTop (mkF m 21 #[.val (.ref a10_0), .val (.int (1 : Int32)), .val (.long (0 : Int64)), .second, .val (.int (1 : Int32))] [(.long ((0 : Int64) + t_w_tree_a10_0_0))])) _
        refine XS.lstoreN X3.here hx rfl (hb hby d10_21) rfl (l' := #[.val (.ref a10_0), .val (.int (1 : Int32)), .val (.long ((0 : Int64) + t_w_tree_a10_0_0)), .second, .val (.int (1 : Int32))]) rfl ?_
        refine XS.iload X3.here hx rfl (hb hby d10_22) rfl ?_
        refine XS.iload X3.here hx rfl (hb hby d10_24) rfl ?_
        show Steps p.tables e below (T3.setTop (mkF m 26 #[.val (.ref a10_0), .val (.int (1 : Int32)), .val (.long ((0 : Int64) + t_w_tree_a10_0_0)), .second, .val (.int (1 : Int32))] [(.int (1 : Int32)), (.int (1 : Int32))])) _
        refine XS.iload X3.here hx rfl (hb hby d10_26) rfl ?_
        refine XS.ineg X3.here hx rfl (hb hby d10_28) rfl ?_
        refine XS.iand X3.here hx rfl (hb hby d10_29) rfl ?_
        show Steps p.tables e below (T3.setTop (mkF m 30 #[.val (.ref a10_0), .val (.int (1 : Int32)), .val (.long ((0 : Int64) + t_w_tree_a10_0_0)), .second, .val (.int (1 : Int32))] [(.int (1 : Int32)), (.int (1 : Int32))])) _
        refine XS.isub X3.here hx rfl (hb hby d10_30) rfl ?_
        refine XS.istore X3.here hx rfl (hb hby d10_31) rfl (l' := #[.val (.ref a10_0), .val (.int (1 : Int32)), .val (.long ((0 : Int64) + t_w_tree_a10_0_0)), .second, .val (.int (0 : Int32))]) rfl ?_
        refine XS.goto X3.here hx rfl (pc0 := 33) (pc' := 5) rfl (hb hby d10_33) (by decide) (by decide) ?_
        show Steps p.tables e below (T3.setTop (mkF m 5 #[.val (.ref a10_0), .val (.int (1 : Int32)), .val (.long ((0 : Int64) + t_w_tree_a10_0_0)), .second, .val (.int (0 : Int32))] [])) _
        refine XS.iload X3.here hx rfl (hb hby d10_5) rfl ?_
        show Steps p.tables e below (T3.setTop (mkF m 7 #[.val (.ref a10_0), .val (.int (1 : Int32)), .val (.long ((0 : Int64) + t_w_tree_a10_0_0)), .second, .val (.int (0 : Int32))] [(.int (0 : Int32))])) _
        refine XS.ifYes X3.here hx rfl (pc0 := 7) (pc' := 36) rfl (hb hby d10_7) rfl ((if0 _ _).trans (flt (by decide : ¬ ((0 : Int32) < (0 : Int32)))).2.2.2) (by decide) (by decide) ?_
        refine XS.lloadN X3.here hx rfl (hb hby d10_36) rfl ?_
        show Steps p.tables e below (T3.setTop (mkF m 37 #[.val (.ref a10_0), .val (.int (1 : Int32)), .val (.long ((0 : Int64) + t_w_tree_a10_0_0)), .second, .val (.int (0 : Int32))] [(.long ((0 : Int64) + t_w_tree_a10_0_0))])) _
        exact own_retJ X3 hx Bd.returns (hb hby d10_37) hr
      · show Q_rm10_10 Z a10_0 p10_1 w_tree_a10_0 w_total_a10_0 kc_w_tree_a10_0 t_w_tree_a10_0_0 t_w_tree_a10_0_1 t_w_tree_a10_0_2 t_w_tree_a10_0_3 t_w_tree_a10_0_4 t_w_tree_a10_0_5 t_w_tree_a10_0_6 t_w_tree_a10_0_7 h0 n0 _ T3.heap _
        rw [e3]
        exact ⟨(congrArg (fun z => some (Value.long z)) ((if_neg hb1).trans (if_pos hb2)).symm), N0, rfl⟩
    · have own_u2 : True := trivial
      by_cases hb5 : p10_1 = (2 : Int32)
      · have own_t5 : True := trivial
        obtain ⟨T6, X6, e6, st6⟩ := getF X0 hx hZ hown (host := "") (Or.inl (ow16 hw)) Via.refl e0 F_tree_a10_0 (g := (mkF m 12 #[.val (.ref a10_0), .val (.int (2 : Int32)), .val (.long (0 : Int64)), .second, .val (.int (2 : Int32))] [(.ref a10_0), (.long (0 : Int64))])) rfl rfl (hb hby d10_12)
        obtain ⟨cl7, Ar7, qk7, Sz7, Nz7, Hh7, Gf7⟩ := id V_w_tree_a10_0
        obtain ⟨fs, hr, hrun, hended, hW, hsame⟩ := X6.leave (v := some (.long ((0 : Int64) + t_w_tree_a10_0_1))) (fun h => by rw [Bd.returns] at h; cases h)
        refine ⟨_, _, pre0 _ ?_, hrun, hended, _, _, rfl, ?_, ⟨_, rfl⟩, hW, hsame.mono (by decide) (by decide)⟩
        · show Steps p.tables e below (s₁.setTop (mkF m 0 #[.val (.ref a10_0), .val (.int p10_1), .unset, .unset, .unset] [])) _
          rw [hb5]
          show Steps p.tables e below (s₁.setTop (mkF m 0 #[.val (.ref a10_0), .val (.int (2 : Int32)), .unset, .unset, .unset] [])) _
          refine XS.lconst X0.here hx rfl (hb hby d10_0) ?_
          refine XS.lstoreN X0.here hx rfl (hb hby d10_1) rfl (l' := #[.val (.ref a10_0), .val (.int (2 : Int32)), .val (.long (0 : Int64)), .second, .unset]) rfl ?_
          refine XS.iloadN X0.here hx rfl (hb hby d10_2) rfl ?_
          show Steps p.tables e below (s₁.setTop (mkF m 3 #[.val (.ref a10_0), .val (.int (2 : Int32)), .val (.long (0 : Int64)), .second, .unset] [(.int (2 : Int32))])) _
          refine XS.istore X0.here hx rfl (hb hby d10_3) rfl (l' := #[.val (.ref a10_0), .val (.int (2 : Int32)), .val (.long (0 : Int64)), .second, .val (.int (2 : Int32))]) rfl ?_
          refine XS.iload X0.here hx rfl (hb hby d10_5) rfl ?_
          show Steps p.tables e below (s₁.setTop (mkF m 7 #[.val (.ref a10_0), .val (.int (2 : Int32)), .val (.long (0 : Int64)), .second, .val (.int (2 : Int32))] [(.int (2 : Int32))])) _
          refine XS.ifNo X0.here hx rfl (hb hby d10_7) rfl ((if0 _ _).trans (tlt (by decide : (0 : Int32) < (2 : Int32))).2.2.2) ?_
          refine XS.lloadN X0.here hx rfl (hb hby d10_10) rfl ?_
          refine XS.aloadN X0.here hx rfl (hb hby d10_11) rfl rfl ?_
          show Steps p.tables e below (s₁.setTop (mkF m 12 #[.val (.ref a10_0), .val (.int (2 : Int32)), .val (.long (0 : Int64)), .second, .val (.int (2 : Int32))] [(.ref a10_0), (.long (0 : Int64))])) _
          refine st6 _ ?_
          refine XS.iload X6.here hx rfl (hb hby d10_15) rfl ?_
          refine XS.iconst X6.here hx rfl (hb hby d10_17) ?_
          show Steps p.tables e below (T6.setTop (mkF m 18 #[.val (.ref a10_0), .val (.int (2 : Int32)), .val (.long (0 : Int64)), .second, .val (.int (2 : Int32))] [(.int (1 : Int32)), (.int (2 : Int32)), (.ref w_tree_a10_0), (.long (0 : Int64))])) _
          refine XS.isub X6.here hx rfl (hb hby d10_18) rfl ?_
          refine X6.laload hx (j := (1 : Int32)) (v := (.long t_w_tree_a10_0_1)) (by rw [e6]; exact Ar7.1) (State.isArrayOf_alike hZ.alike Ar7.2.1) Ar7.2.2 (inb_of Sz7 ⟨by decide, by decide⟩) (Hh7.at (inb_of Sz7 ⟨by decide, by decide⟩) rfl) (g := (mkF m 19 #[.val (.ref a10_0), .val (.int (2 : Int32)), .val (.long (0 : Int64)), .second, .val (.int (2 : Int32))] [(.int (1 : Int32)), (.ref w_tree_a10_0), (.long (0 : Int64))])) rfl rfl (hb hby d10_19) _ ?_
          refine XS.ladd X6.here hx rfl (hb hby d10_20) rfl ?_
          show Steps p.tables e below (T6.setTop (mkF m 21 #[.val (.ref a10_0), .val (.int (2 : Int32)), .val (.long (0 : Int64)), .second, .val (.int (2 : Int32))] [(.long ((0 : Int64) + t_w_tree_a10_0_1))])) _
          refine XS.lstoreN X6.here hx rfl (hb hby d10_21) rfl (l' := #[.val (.ref a10_0), .val (.int (2 : Int32)), .val (.long ((0 : Int64) + t_w_tree_a10_0_1)), .second, .val (.int (2 : Int32))]) rfl ?_
          refine XS.iload X6.here hx rfl (hb hby d10_22) rfl ?_
          refine XS.iload X6.here hx rfl (hb hby d10_24) rfl ?_
          show Steps p.tables e below (T6.setTop (mkF m 26 #[.val (.ref a10_0), .val (.int (2 : Int32)), .val (.long ((0 : Int64) + t_w_tree_a10_0_1)), .second, .val (.int (2 : Int32))] [(.int (2 : Int32)), (.int (2 : Int32))])) _
          refine XS.iload X6.here hx rfl (hb hby d10_26) rfl ?_
          refine XS.ineg X6.here hx rfl (hb hby d10_28) rfl ?_
          refine XS.iand X6.here hx rfl (hb hby d10_29) rfl ?_
          show Steps p.tables e below (T6.setTop (mkF m 30 #[.val (.ref a10_0), .val (.int (2 : Int32)), .val (.long ((0 : Int64) + t_w_tree_a10_0_1)), .second, .val (.int (2 : Int32))] [(.int (2 : Int32)), (.int (2 : Int32))])) _
          refine XS.isub X6.here hx rfl (hb hby d10_30) rfl ?_
          refine XS.istore X6.here hx rfl (hb hby d10_31) rfl (l' := #[.val (.ref a10_0), .val (.int (2 : Int32)), .val (.long ((0 : Int64) + t_w_tree_a10_0_1)), .second, .val (.int (0 : Int32))]) rfl ?_
          refine XS.goto X6.here hx rfl (pc0 := 33) (pc' := 5) rfl (hb hby d10_33) (by decide) (by decide) ?_
          show Steps p.tables e below (T6.setTop (mkF m 5 #[.val (.ref a10_0), .val (.int (2 : Int32)), .val (.long ((0 : Int64) + t_w_tree_a10_0_1)), .second, .val (.int (0 : Int32))] [])) _
          refine XS.iload X6.here hx rfl (hb hby d10_5) rfl ?_
          show Steps p.tables e below (T6.setTop (mkF m 7 #[.val (.ref a10_0), .val (.int (2 : Int32)), .val (.long ((0 : Int64) + t_w_tree_a10_0_1)), .second, .val (.int (0 : Int32))] [(.int (0 : Int32))])) _
          refine XS.ifYes X6.here hx rfl (pc0 := 7) (pc' := 36) rfl (hb hby d10_7) rfl ((if0 _ _).trans (flt (by decide : ¬ ((0 : Int32) < (0 : Int32)))).2.2.2) (by decide) (by decide) ?_
          refine XS.lloadN X6.here hx rfl (hb hby d10_36) rfl ?_
          show Steps p.tables e below (T6.setTop (mkF m 37 #[.val (.ref a10_0), .val (.int (2 : Int32)), .val (.long ((0 : Int64) + t_w_tree_a10_0_1)), .second, .val (.int (0 : Int32))] [(.long ((0 : Int64) + t_w_tree_a10_0_1))])) _
          exact own_retJ X6 hx Bd.returns (hb hby d10_37) hr
        · show Q_rm10_10 Z a10_0 p10_1 w_tree_a10_0 w_total_a10_0 kc_w_tree_a10_0 t_w_tree_a10_0_0 t_w_tree_a10_0_1 t_w_tree_a10_0_2 t_w_tree_a10_0_3 t_w_tree_a10_0_4 t_w_tree_a10_0_5 t_w_tree_a10_0_6 t_w_tree_a10_0_7 h0 n0 _ T6.heap _
          rw [e6]
          exact ⟨(congrArg (fun z => some (Value.long z)) ((if_neg hb1).trans ((if_neg hb2).trans (if_pos hb5))).symm), N0, rfl⟩
      · have own_u5 : True := trivial
        by_cases hb8 : p10_1 = (3 : Int32)
        · have own_t8 : True := trivial
          obtain ⟨T9, X9, e9, st9⟩ := getF X0 hx hZ hown (host := "") (Or.inl (ow16 hw)) Via.refl e0 F_tree_a10_0 (g := (mkF m 12 #[.val (.ref a10_0), .val (.int (3 : Int32)), .val (.long (0 : Int64)), .second, .val (.int (3 : Int32))] [(.ref a10_0), (.long (0 : Int64))])) rfl rfl (hb hby d10_12)
          obtain ⟨cl10, Ar10, qk10, Sz10, Nz10, Hh10, Gf10⟩ := id V_w_tree_a10_0
          obtain ⟨T11, X11, e11, st11⟩ := getF X9 hx hZ hown (host := "") (Or.inl (ow16 hw)) Via.refl e9 F_tree_a10_0 (g := (mkF m 12 #[.val (.ref a10_0), .val (.int (3 : Int32)), .val (.long ((0 : Int64) + t_w_tree_a10_0_2)), .second, .val (.int (2 : Int32))] [(.ref a10_0), (.long ((0 : Int64) + t_w_tree_a10_0_2))])) rfl rfl (hb hby d10_12)
          obtain ⟨cl12, Ar12, qk12, Sz12, Nz12, Hh12, Gf12⟩ := id V_w_tree_a10_0
          obtain ⟨x13, hx13⟩ : ∃ z : Int64, z = (((0 : Int64) + t_w_tree_a10_0_2) + t_w_tree_a10_0_1) := ⟨_, rfl⟩
          obtain ⟨fs, hr, hrun, hended, hW, hsame⟩ := X11.leave (v := some (.long x13)) (fun h => by rw [Bd.returns] at h; cases h)
          refine ⟨_, _, pre0 _ ?_, hrun, hended, _, _, rfl, ?_, ⟨_, rfl⟩, hW, hsame.mono (by decide) (by decide)⟩
          · show Steps p.tables e below (s₁.setTop (mkF m 0 #[.val (.ref a10_0), .val (.int p10_1), .unset, .unset, .unset] [])) _
            rw [hb8]
            show Steps p.tables e below (s₁.setTop (mkF m 0 #[.val (.ref a10_0), .val (.int (3 : Int32)), .unset, .unset, .unset] [])) _
            refine XS.lconst X0.here hx rfl (hb hby d10_0) ?_
            refine XS.lstoreN X0.here hx rfl (hb hby d10_1) rfl (l' := #[.val (.ref a10_0), .val (.int (3 : Int32)), .val (.long (0 : Int64)), .second, .unset]) rfl ?_
            refine XS.iloadN X0.here hx rfl (hb hby d10_2) rfl ?_
            show Steps p.tables e below (s₁.setTop (mkF m 3 #[.val (.ref a10_0), .val (.int (3 : Int32)), .val (.long (0 : Int64)), .second, .unset] [(.int (3 : Int32))])) _
            refine XS.istore X0.here hx rfl (hb hby d10_3) rfl (l' := #[.val (.ref a10_0), .val (.int (3 : Int32)), .val (.long (0 : Int64)), .second, .val (.int (3 : Int32))]) rfl ?_
            refine XS.iload X0.here hx rfl (hb hby d10_5) rfl ?_
            show Steps p.tables e below (s₁.setTop (mkF m 7 #[.val (.ref a10_0), .val (.int (3 : Int32)), .val (.long (0 : Int64)), .second, .val (.int (3 : Int32))] [(.int (3 : Int32))])) _
            refine XS.ifNo X0.here hx rfl (hb hby d10_7) rfl ((if0 _ _).trans (tlt (by decide : (0 : Int32) < (3 : Int32))).2.2.2) ?_
            refine XS.lloadN X0.here hx rfl (hb hby d10_10) rfl ?_
            refine XS.aloadN X0.here hx rfl (hb hby d10_11) rfl rfl ?_
            show Steps p.tables e below (s₁.setTop (mkF m 12 #[.val (.ref a10_0), .val (.int (3 : Int32)), .val (.long (0 : Int64)), .second, .val (.int (3 : Int32))] [(.ref a10_0), (.long (0 : Int64))])) _
            refine st9 _ ?_
            refine XS.iload X9.here hx rfl (hb hby d10_15) rfl ?_
            refine XS.iconst X9.here hx rfl (hb hby d10_17) ?_
            show Steps p.tables e below (T9.setTop (mkF m 18 #[.val (.ref a10_0), .val (.int (3 : Int32)), .val (.long (0 : Int64)), .second, .val (.int (3 : Int32))] [(.int (1 : Int32)), (.int (3 : Int32)), (.ref w_tree_a10_0), (.long (0 : Int64))])) _
            refine XS.isub X9.here hx rfl (hb hby d10_18) rfl ?_
            refine X9.laload hx (j := (2 : Int32)) (v := (.long t_w_tree_a10_0_2)) (by rw [e9]; exact Ar10.1) (State.isArrayOf_alike hZ.alike Ar10.2.1) Ar10.2.2 (inb_of Sz10 ⟨by decide, by decide⟩) (Hh10.at (inb_of Sz10 ⟨by decide, by decide⟩) rfl) (g := (mkF m 19 #[.val (.ref a10_0), .val (.int (3 : Int32)), .val (.long (0 : Int64)), .second, .val (.int (3 : Int32))] [(.int (2 : Int32)), (.ref w_tree_a10_0), (.long (0 : Int64))])) rfl rfl (hb hby d10_19) _ ?_
            refine XS.ladd X9.here hx rfl (hb hby d10_20) rfl ?_
            show Steps p.tables e below (T9.setTop (mkF m 21 #[.val (.ref a10_0), .val (.int (3 : Int32)), .val (.long (0 : Int64)), .second, .val (.int (3 : Int32))] [(.long ((0 : Int64) + t_w_tree_a10_0_2))])) _
            refine XS.lstoreN X9.here hx rfl (hb hby d10_21) rfl (l' := #[.val (.ref a10_0), .val (.int (3 : Int32)), .val (.long ((0 : Int64) + t_w_tree_a10_0_2)), .second, .val (.int (3 : Int32))]) rfl ?_
            refine XS.iload X9.here hx rfl (hb hby d10_22) rfl ?_
            refine XS.iload X9.here hx rfl (hb hby d10_24) rfl ?_
            show Steps p.tables e below (T9.setTop (mkF m 26 #[.val (.ref a10_0), .val (.int (3 : Int32)), .val (.long ((0 : Int64) + t_w_tree_a10_0_2)), .second, .val (.int (3 : Int32))] [(.int (3 : Int32)), (.int (3 : Int32))])) _
            refine XS.iload X9.here hx rfl (hb hby d10_26) rfl ?_
            refine XS.ineg X9.here hx rfl (hb hby d10_28) rfl ?_
            refine XS.iand X9.here hx rfl (hb hby d10_29) rfl ?_
            show Steps p.tables e below (T9.setTop (mkF m 30 #[.val (.ref a10_0), .val (.int (3 : Int32)), .val (.long ((0 : Int64) + t_w_tree_a10_0_2)), .second, .val (.int (3 : Int32))] [(.int (1 : Int32)), (.int (3 : Int32))])) _
            refine XS.isub X9.here hx rfl (hb hby d10_30) rfl ?_
            refine XS.istore X9.here hx rfl (hb hby d10_31) rfl (l' := #[.val (.ref a10_0), .val (.int (3 : Int32)), .val (.long ((0 : Int64) + t_w_tree_a10_0_2)), .second, .val (.int (2 : Int32))]) rfl ?_
            refine XS.goto X9.here hx rfl (pc0 := 33) (pc' := 5) rfl (hb hby d10_33) (by decide) (by decide) ?_
            show Steps p.tables e below (T9.setTop (mkF m 5 #[.val (.ref a10_0), .val (.int (3 : Int32)), .val (.long ((0 : Int64) + t_w_tree_a10_0_2)), .second, .val (.int (2 : Int32))] [])) _
            refine XS.iload X9.here hx rfl (hb hby d10_5) rfl ?_
            show Steps p.tables e below (T9.setTop (mkF m 7 #[.val (.ref a10_0), .val (.int (3 : Int32)), .val (.long ((0 : Int64) + t_w_tree_a10_0_2)), .second, .val (.int (2 : Int32))] [(.int (2 : Int32))])) _
            refine XS.ifNo X9.here hx rfl (hb hby d10_7) rfl ((if0 _ _).trans (tlt (by decide : (0 : Int32) < (2 : Int32))).2.2.2) ?_
            refine XS.lloadN X9.here hx rfl (hb hby d10_10) rfl ?_
            refine XS.aloadN X9.here hx rfl (hb hby d10_11) rfl rfl ?_
            show Steps p.tables e below (T9.setTop (mkF m 12 #[.val (.ref a10_0), .val (.int (3 : Int32)), .val (.long ((0 : Int64) + t_w_tree_a10_0_2)), .second, .val (.int (2 : Int32))] [(.ref a10_0), (.long ((0 : Int64) + t_w_tree_a10_0_2))])) _
            refine st11 _ ?_
            refine XS.iload X11.here hx rfl (hb hby d10_15) rfl ?_
            refine XS.iconst X11.here hx rfl (hb hby d10_17) ?_
            show Steps p.tables e below (T11.setTop (mkF m 18 #[.val (.ref a10_0), .val (.int (3 : Int32)), .val (.long ((0 : Int64) + t_w_tree_a10_0_2)), .second, .val (.int (2 : Int32))] [(.int (1 : Int32)), (.int (2 : Int32)), (.ref w_tree_a10_0), (.long ((0 : Int64) + t_w_tree_a10_0_2))])) _
            refine XS.isub X11.here hx rfl (hb hby d10_18) rfl ?_
            refine X11.laload hx (j := (1 : Int32)) (v := (.long t_w_tree_a10_0_1)) (by rw [e11]; exact Ar12.1) (State.isArrayOf_alike hZ.alike Ar12.2.1) Ar12.2.2 (inb_of Sz12 ⟨by decide, by decide⟩) (Hh12.at (inb_of Sz12 ⟨by decide, by decide⟩) rfl) (g := (mkF m 19 #[.val (.ref a10_0), .val (.int (3 : Int32)), .val (.long ((0 : Int64) + t_w_tree_a10_0_2)), .second, .val (.int (2 : Int32))] [(.int (1 : Int32)), (.ref w_tree_a10_0), (.long ((0 : Int64) + t_w_tree_a10_0_2))])) rfl rfl (hb hby d10_19) _ ?_
            refine XS.ladd X11.here hx rfl (hb hby d10_20) rfl ?_
            show Steps p.tables e below (T11.setTop (mkF m 21 #[.val (.ref a10_0), .val (.int (3 : Int32)), .val (.long ((0 : Int64) + t_w_tree_a10_0_2)), .second, .val (.int (2 : Int32))] [(.long (((0 : Int64) + t_w_tree_a10_0_2) + t_w_tree_a10_0_1))])) _
            refine XS.lstoreN X11.here hx rfl (hb hby d10_21) rfl (l' := #[.val (.ref a10_0), .val (.int (3 : Int32)), .val (.long (((0 : Int64) + t_w_tree_a10_0_2) + t_w_tree_a10_0_1)), .second, .val (.int (2 : Int32))]) rfl ?_
            show Steps p.tables e below (T11.setTop (mkF m 22 #[.val (.ref a10_0), .val (.int (3 : Int32)), .val (.long (((0 : Int64) + t_w_tree_a10_0_2) + t_w_tree_a10_0_1)), .second, .val (.int (2 : Int32))] [])) _
            rw [← hx13]
            refine XS.iload X11.here hx rfl (hb hby d10_22) rfl ?_
            refine XS.iload X11.here hx rfl (hb hby d10_24) rfl ?_
            show Steps p.tables e below (T11.setTop (mkF m 26 #[.val (.ref a10_0), .val (.int (3 : Int32)), .val (.long x13), .second, .val (.int (2 : Int32))] [(.int (2 : Int32)), (.int (2 : Int32))])) _
            refine XS.iload X11.here hx rfl (hb hby d10_26) rfl ?_
            refine XS.ineg X11.here hx rfl (hb hby d10_28) rfl ?_
            refine XS.iand X11.here hx rfl (hb hby d10_29) rfl ?_
            show Steps p.tables e below (T11.setTop (mkF m 30 #[.val (.ref a10_0), .val (.int (3 : Int32)), .val (.long x13), .second, .val (.int (2 : Int32))] [(.int (2 : Int32)), (.int (2 : Int32))])) _
            refine XS.isub X11.here hx rfl (hb hby d10_30) rfl ?_
            refine XS.istore X11.here hx rfl (hb hby d10_31) rfl (l' := #[.val (.ref a10_0), .val (.int (3 : Int32)), .val (.long x13), .second, .val (.int (0 : Int32))]) rfl ?_
            refine XS.goto X11.here hx rfl (pc0 := 33) (pc' := 5) rfl (hb hby d10_33) (by decide) (by decide) ?_
            show Steps p.tables e below (T11.setTop (mkF m 5 #[.val (.ref a10_0), .val (.int (3 : Int32)), .val (.long x13), .second, .val (.int (0 : Int32))] [])) _
            refine XS.iload X11.here hx rfl (hb hby d10_5) rfl ?_
            show Steps p.tables e below (T11.setTop (mkF m 7 #[.val (.ref a10_0), .val (.int (3 : Int32)), .val (.long x13), .second, .val (.int (0 : Int32))] [(.int (0 : Int32))])) _
            refine XS.ifYes X11.here hx rfl (pc0 := 7) (pc' := 36) rfl (hb hby d10_7) rfl ((if0 _ _).trans (flt (by decide : ¬ ((0 : Int32) < (0 : Int32)))).2.2.2) (by decide) (by decide) ?_
            refine XS.lloadN X11.here hx rfl (hb hby d10_36) rfl ?_
            show Steps p.tables e below (T11.setTop (mkF m 37 #[.val (.ref a10_0), .val (.int (3 : Int32)), .val (.long x13), .second, .val (.int (0 : Int32))] [(.long x13)])) _
            exact own_retJ X11 hx Bd.returns (hb hby d10_37) hr
          · show Q_rm10_10 Z a10_0 p10_1 w_tree_a10_0 w_total_a10_0 kc_w_tree_a10_0 t_w_tree_a10_0_0 t_w_tree_a10_0_1 t_w_tree_a10_0_2 t_w_tree_a10_0_3 t_w_tree_a10_0_4 t_w_tree_a10_0_5 t_w_tree_a10_0_6 t_w_tree_a10_0_7 h0 n0 _ T11.heap _
            rw [e11]
            subst hx13
            exact ⟨(congrArg (fun z => some (Value.long z)) ((if_neg hb1).trans ((if_neg hb2).trans ((if_neg hb5).trans (if_pos hb8)))).symm), N0, rfl⟩
        · have own_u8 : True := trivial
          by_cases hb14 : p10_1 = (4 : Int32)
          · have own_t14 : True := trivial
            obtain ⟨T15, X15, e15, st15⟩ := getF X0 hx hZ hown (host := "") (Or.inl (ow16 hw)) Via.refl e0 F_tree_a10_0 (g := (mkF m 12 #[.val (.ref a10_0), .val (.int (4 : Int32)), .val (.long (0 : Int64)), .second, .val (.int (4 : Int32))] [(.ref a10_0), (.long (0 : Int64))])) rfl rfl (hb hby d10_12)
            obtain ⟨cl16, Ar16, qk16, Sz16, Nz16, Hh16, Gf16⟩ := id V_w_tree_a10_0
            obtain ⟨fs, hr, hrun, hended, hW, hsame⟩ := X15.leave (v := some (.long ((0 : Int64) + t_w_tree_a10_0_3))) (fun h => by rw [Bd.returns] at h; cases h)
            refine ⟨_, _, pre0 _ ?_, hrun, hended, _, _, rfl, ?_, ⟨_, rfl⟩, hW, hsame.mono (by decide) (by decide)⟩
            · show Steps p.tables e below (s₁.setTop (mkF m 0 #[.val (.ref a10_0), .val (.int p10_1), .unset, .unset, .unset] [])) _
              rw [hb14]
              show Steps p.tables e below (s₁.setTop (mkF m 0 #[.val (.ref a10_0), .val (.int (4 : Int32)), .unset, .unset, .unset] [])) _
              refine XS.lconst X0.here hx rfl (hb hby d10_0) ?_
              refine XS.lstoreN X0.here hx rfl (hb hby d10_1) rfl (l' := #[.val (.ref a10_0), .val (.int (4 : Int32)), .val (.long (0 : Int64)), .second, .unset]) rfl ?_
              refine XS.iloadN X0.here hx rfl (hb hby d10_2) rfl ?_
              show Steps p.tables e below (s₁.setTop (mkF m 3 #[.val (.ref a10_0), .val (.int (4 : Int32)), .val (.long (0 : Int64)), .second, .unset] [(.int (4 : Int32))])) _
              refine XS.istore X0.here hx rfl (hb hby d10_3) rfl (l' := #[.val (.ref a10_0), .val (.int (4 : Int32)), .val (.long (0 : Int64)), .second, .val (.int (4 : Int32))]) rfl ?_
              refine XS.iload X0.here hx rfl (hb hby d10_5) rfl ?_
              show Steps p.tables e below (s₁.setTop (mkF m 7 #[.val (.ref a10_0), .val (.int (4 : Int32)), .val (.long (0 : Int64)), .second, .val (.int (4 : Int32))] [(.int (4 : Int32))])) _
              refine XS.ifNo X0.here hx rfl (hb hby d10_7) rfl ((if0 _ _).trans (tlt (by decide : (0 : Int32) < (4 : Int32))).2.2.2) ?_
              refine XS.lloadN X0.here hx rfl (hb hby d10_10) rfl ?_
              refine XS.aloadN X0.here hx rfl (hb hby d10_11) rfl rfl ?_
              show Steps p.tables e below (s₁.setTop (mkF m 12 #[.val (.ref a10_0), .val (.int (4 : Int32)), .val (.long (0 : Int64)), .second, .val (.int (4 : Int32))] [(.ref a10_0), (.long (0 : Int64))])) _
              refine st15 _ ?_
              refine XS.iload X15.here hx rfl (hb hby d10_15) rfl ?_
              refine XS.iconst X15.here hx rfl (hb hby d10_17) ?_
              show Steps p.tables e below (T15.setTop (mkF m 18 #[.val (.ref a10_0), .val (.int (4 : Int32)), .val (.long (0 : Int64)), .second, .val (.int (4 : Int32))] [(.int (1 : Int32)), (.int (4 : Int32)), (.ref w_tree_a10_0), (.long (0 : Int64))])) _
              refine XS.isub X15.here hx rfl (hb hby d10_18) rfl ?_
              refine X15.laload hx (j := (3 : Int32)) (v := (.long t_w_tree_a10_0_3)) (by rw [e15]; exact Ar16.1) (State.isArrayOf_alike hZ.alike Ar16.2.1) Ar16.2.2 (inb_of Sz16 ⟨by decide, by decide⟩) (Hh16.at (inb_of Sz16 ⟨by decide, by decide⟩) rfl) (g := (mkF m 19 #[.val (.ref a10_0), .val (.int (4 : Int32)), .val (.long (0 : Int64)), .second, .val (.int (4 : Int32))] [(.int (3 : Int32)), (.ref w_tree_a10_0), (.long (0 : Int64))])) rfl rfl (hb hby d10_19) _ ?_
              refine XS.ladd X15.here hx rfl (hb hby d10_20) rfl ?_
              show Steps p.tables e below (T15.setTop (mkF m 21 #[.val (.ref a10_0), .val (.int (4 : Int32)), .val (.long (0 : Int64)), .second, .val (.int (4 : Int32))] [(.long ((0 : Int64) + t_w_tree_a10_0_3))])) _
              refine XS.lstoreN X15.here hx rfl (hb hby d10_21) rfl (l' := #[.val (.ref a10_0), .val (.int (4 : Int32)), .val (.long ((0 : Int64) + t_w_tree_a10_0_3)), .second, .val (.int (4 : Int32))]) rfl ?_
              refine XS.iload X15.here hx rfl (hb hby d10_22) rfl ?_
              refine XS.iload X15.here hx rfl (hb hby d10_24) rfl ?_
              show Steps p.tables e below (T15.setTop (mkF m 26 #[.val (.ref a10_0), .val (.int (4 : Int32)), .val (.long ((0 : Int64) + t_w_tree_a10_0_3)), .second, .val (.int (4 : Int32))] [(.int (4 : Int32)), (.int (4 : Int32))])) _
              refine XS.iload X15.here hx rfl (hb hby d10_26) rfl ?_
              refine XS.ineg X15.here hx rfl (hb hby d10_28) rfl ?_
              refine XS.iand X15.here hx rfl (hb hby d10_29) rfl ?_
              show Steps p.tables e below (T15.setTop (mkF m 30 #[.val (.ref a10_0), .val (.int (4 : Int32)), .val (.long ((0 : Int64) + t_w_tree_a10_0_3)), .second, .val (.int (4 : Int32))] [(.int (4 : Int32)), (.int (4 : Int32))])) _
              refine XS.isub X15.here hx rfl (hb hby d10_30) rfl ?_
              refine XS.istore X15.here hx rfl (hb hby d10_31) rfl (l' := #[.val (.ref a10_0), .val (.int (4 : Int32)), .val (.long ((0 : Int64) + t_w_tree_a10_0_3)), .second, .val (.int (0 : Int32))]) rfl ?_
              refine XS.goto X15.here hx rfl (pc0 := 33) (pc' := 5) rfl (hb hby d10_33) (by decide) (by decide) ?_
              show Steps p.tables e below (T15.setTop (mkF m 5 #[.val (.ref a10_0), .val (.int (4 : Int32)), .val (.long ((0 : Int64) + t_w_tree_a10_0_3)), .second, .val (.int (0 : Int32))] [])) _
              refine XS.iload X15.here hx rfl (hb hby d10_5) rfl ?_
              show Steps p.tables e below (T15.setTop (mkF m 7 #[.val (.ref a10_0), .val (.int (4 : Int32)), .val (.long ((0 : Int64) + t_w_tree_a10_0_3)), .second, .val (.int (0 : Int32))] [(.int (0 : Int32))])) _
              refine XS.ifYes X15.here hx rfl (pc0 := 7) (pc' := 36) rfl (hb hby d10_7) rfl ((if0 _ _).trans (flt (by decide : ¬ ((0 : Int32) < (0 : Int32)))).2.2.2) (by decide) (by decide) ?_
              refine XS.lloadN X15.here hx rfl (hb hby d10_36) rfl ?_
              show Steps p.tables e below (T15.setTop (mkF m 37 #[.val (.ref a10_0), .val (.int (4 : Int32)), .val (.long ((0 : Int64) + t_w_tree_a10_0_3)), .second, .val (.int (0 : Int32))] [(.long ((0 : Int64) + t_w_tree_a10_0_3))])) _
              exact own_retJ X15 hx Bd.returns (hb hby d10_37) hr
            · show Q_rm10_10 Z a10_0 p10_1 w_tree_a10_0 w_total_a10_0 kc_w_tree_a10_0 t_w_tree_a10_0_0 t_w_tree_a10_0_1 t_w_tree_a10_0_2 t_w_tree_a10_0_3 t_w_tree_a10_0_4 t_w_tree_a10_0_5 t_w_tree_a10_0_6 t_w_tree_a10_0_7 h0 n0 _ T15.heap _
              rw [e15]
              exact ⟨(congrArg (fun z => some (Value.long z)) ((if_neg hb1).trans ((if_neg hb2).trans ((if_neg hb5).trans ((if_neg hb8).trans (if_pos hb14))))).symm), N0, rfl⟩
          · have own_u14 : True := trivial
            by_cases hb17 : p10_1 = (5 : Int32)
            · have own_t17 : True := trivial
              obtain ⟨T18, X18, e18, st18⟩ := getF X0 hx hZ hown (host := "") (Or.inl (ow16 hw)) Via.refl e0 F_tree_a10_0 (g := (mkF m 12 #[.val (.ref a10_0), .val (.int (5 : Int32)), .val (.long (0 : Int64)), .second, .val (.int (5 : Int32))] [(.ref a10_0), (.long (0 : Int64))])) rfl rfl (hb hby d10_12)
              obtain ⟨cl19, Ar19, qk19, Sz19, Nz19, Hh19, Gf19⟩ := id V_w_tree_a10_0
              obtain ⟨T20, X20, e20, st20⟩ := getF X18 hx hZ hown (host := "") (Or.inl (ow16 hw)) Via.refl e18 F_tree_a10_0 (g := (mkF m 12 #[.val (.ref a10_0), .val (.int (5 : Int32)), .val (.long ((0 : Int64) + t_w_tree_a10_0_4)), .second, .val (.int (4 : Int32))] [(.ref a10_0), (.long ((0 : Int64) + t_w_tree_a10_0_4))])) rfl rfl (hb hby d10_12)
              obtain ⟨cl21, Ar21, qk21, Sz21, Nz21, Hh21, Gf21⟩ := id V_w_tree_a10_0
              obtain ⟨x22, hx22⟩ : ∃ z : Int64, z = (((0 : Int64) + t_w_tree_a10_0_4) + t_w_tree_a10_0_3) := ⟨_, rfl⟩
              obtain ⟨fs, hr, hrun, hended, hW, hsame⟩ := X20.leave (v := some (.long x22)) (fun h => by rw [Bd.returns] at h; cases h)
              refine ⟨_, _, pre0 _ ?_, hrun, hended, _, _, rfl, ?_, ⟨_, rfl⟩, hW, hsame.mono (by decide) (by decide)⟩
              · show Steps p.tables e below (s₁.setTop (mkF m 0 #[.val (.ref a10_0), .val (.int p10_1), .unset, .unset, .unset] [])) _
                rw [hb17]
                show Steps p.tables e below (s₁.setTop (mkF m 0 #[.val (.ref a10_0), .val (.int (5 : Int32)), .unset, .unset, .unset] [])) _
                refine XS.lconst X0.here hx rfl (hb hby d10_0) ?_
                refine XS.lstoreN X0.here hx rfl (hb hby d10_1) rfl (l' := #[.val (.ref a10_0), .val (.int (5 : Int32)), .val (.long (0 : Int64)), .second, .unset]) rfl ?_
                refine XS.iloadN X0.here hx rfl (hb hby d10_2) rfl ?_
                show Steps p.tables e below (s₁.setTop (mkF m 3 #[.val (.ref a10_0), .val (.int (5 : Int32)), .val (.long (0 : Int64)), .second, .unset] [(.int (5 : Int32))])) _
                refine XS.istore X0.here hx rfl (hb hby d10_3) rfl (l' := #[.val (.ref a10_0), .val (.int (5 : Int32)), .val (.long (0 : Int64)), .second, .val (.int (5 : Int32))]) rfl ?_
                refine XS.iload X0.here hx rfl (hb hby d10_5) rfl ?_
                show Steps p.tables e below (s₁.setTop (mkF m 7 #[.val (.ref a10_0), .val (.int (5 : Int32)), .val (.long (0 : Int64)), .second, .val (.int (5 : Int32))] [(.int (5 : Int32))])) _
                refine XS.ifNo X0.here hx rfl (hb hby d10_7) rfl ((if0 _ _).trans (tlt (by decide : (0 : Int32) < (5 : Int32))).2.2.2) ?_
                refine XS.lloadN X0.here hx rfl (hb hby d10_10) rfl ?_
                refine XS.aloadN X0.here hx rfl (hb hby d10_11) rfl rfl ?_
                show Steps p.tables e below (s₁.setTop (mkF m 12 #[.val (.ref a10_0), .val (.int (5 : Int32)), .val (.long (0 : Int64)), .second, .val (.int (5 : Int32))] [(.ref a10_0), (.long (0 : Int64))])) _
                refine st18 _ ?_
                refine XS.iload X18.here hx rfl (hb hby d10_15) rfl ?_
                refine XS.iconst X18.here hx rfl (hb hby d10_17) ?_
                show Steps p.tables e below (T18.setTop (mkF m 18 #[.val (.ref a10_0), .val (.int (5 : Int32)), .val (.long (0 : Int64)), .second, .val (.int (5 : Int32))] [(.int (1 : Int32)), (.int (5 : Int32)), (.ref w_tree_a10_0), (.long (0 : Int64))])) _
                refine XS.isub X18.here hx rfl (hb hby d10_18) rfl ?_
                refine X18.laload hx (j := (4 : Int32)) (v := (.long t_w_tree_a10_0_4)) (by rw [e18]; exact Ar19.1) (State.isArrayOf_alike hZ.alike Ar19.2.1) Ar19.2.2 (inb_of Sz19 ⟨by decide, by decide⟩) (Hh19.at (inb_of Sz19 ⟨by decide, by decide⟩) rfl) (g := (mkF m 19 #[.val (.ref a10_0), .val (.int (5 : Int32)), .val (.long (0 : Int64)), .second, .val (.int (5 : Int32))] [(.int (4 : Int32)), (.ref w_tree_a10_0), (.long (0 : Int64))])) rfl rfl (hb hby d10_19) _ ?_
                refine XS.ladd X18.here hx rfl (hb hby d10_20) rfl ?_
                show Steps p.tables e below (T18.setTop (mkF m 21 #[.val (.ref a10_0), .val (.int (5 : Int32)), .val (.long (0 : Int64)), .second, .val (.int (5 : Int32))] [(.long ((0 : Int64) + t_w_tree_a10_0_4))])) _
                refine XS.lstoreN X18.here hx rfl (hb hby d10_21) rfl (l' := #[.val (.ref a10_0), .val (.int (5 : Int32)), .val (.long ((0 : Int64) + t_w_tree_a10_0_4)), .second, .val (.int (5 : Int32))]) rfl ?_
                refine XS.iload X18.here hx rfl (hb hby d10_22) rfl ?_
                refine XS.iload X18.here hx rfl (hb hby d10_24) rfl ?_
                show Steps p.tables e below (T18.setTop (mkF m 26 #[.val (.ref a10_0), .val (.int (5 : Int32)), .val (.long ((0 : Int64) + t_w_tree_a10_0_4)), .second, .val (.int (5 : Int32))] [(.int (5 : Int32)), (.int (5 : Int32))])) _
                refine XS.iload X18.here hx rfl (hb hby d10_26) rfl ?_
                refine XS.ineg X18.here hx rfl (hb hby d10_28) rfl ?_
                refine XS.iand X18.here hx rfl (hb hby d10_29) rfl ?_
                show Steps p.tables e below (T18.setTop (mkF m 30 #[.val (.ref a10_0), .val (.int (5 : Int32)), .val (.long ((0 : Int64) + t_w_tree_a10_0_4)), .second, .val (.int (5 : Int32))] [(.int (1 : Int32)), (.int (5 : Int32))])) _
                refine XS.isub X18.here hx rfl (hb hby d10_30) rfl ?_
                refine XS.istore X18.here hx rfl (hb hby d10_31) rfl (l' := #[.val (.ref a10_0), .val (.int (5 : Int32)), .val (.long ((0 : Int64) + t_w_tree_a10_0_4)), .second, .val (.int (4 : Int32))]) rfl ?_
                refine XS.goto X18.here hx rfl (pc0 := 33) (pc' := 5) rfl (hb hby d10_33) (by decide) (by decide) ?_
                show Steps p.tables e below (T18.setTop (mkF m 5 #[.val (.ref a10_0), .val (.int (5 : Int32)), .val (.long ((0 : Int64) + t_w_tree_a10_0_4)), .second, .val (.int (4 : Int32))] [])) _
                refine XS.iload X18.here hx rfl (hb hby d10_5) rfl ?_
                show Steps p.tables e below (T18.setTop (mkF m 7 #[.val (.ref a10_0), .val (.int (5 : Int32)), .val (.long ((0 : Int64) + t_w_tree_a10_0_4)), .second, .val (.int (4 : Int32))] [(.int (4 : Int32))])) _
                refine XS.ifNo X18.here hx rfl (hb hby d10_7) rfl ((if0 _ _).trans (tlt (by decide : (0 : Int32) < (4 : Int32))).2.2.2) ?_
                refine XS.lloadN X18.here hx rfl (hb hby d10_10) rfl ?_
                refine XS.aloadN X18.here hx rfl (hb hby d10_11) rfl rfl ?_
                show Steps p.tables e below (T18.setTop (mkF m 12 #[.val (.ref a10_0), .val (.int (5 : Int32)), .val (.long ((0 : Int64) + t_w_tree_a10_0_4)), .second, .val (.int (4 : Int32))] [(.ref a10_0), (.long ((0 : Int64) + t_w_tree_a10_0_4))])) _
                refine st20 _ ?_
                refine XS.iload X20.here hx rfl (hb hby d10_15) rfl ?_
                refine XS.iconst X20.here hx rfl (hb hby d10_17) ?_
                show Steps p.tables e below (T20.setTop (mkF m 18 #[.val (.ref a10_0), .val (.int (5 : Int32)), .val (.long ((0 : Int64) + t_w_tree_a10_0_4)), .second, .val (.int (4 : Int32))] [(.int (1 : Int32)), (.int (4 : Int32)), (.ref w_tree_a10_0), (.long ((0 : Int64) + t_w_tree_a10_0_4))])) _
                refine XS.isub X20.here hx rfl (hb hby d10_18) rfl ?_
                refine X20.laload hx (j := (3 : Int32)) (v := (.long t_w_tree_a10_0_3)) (by rw [e20]; exact Ar21.1) (State.isArrayOf_alike hZ.alike Ar21.2.1) Ar21.2.2 (inb_of Sz21 ⟨by decide, by decide⟩) (Hh21.at (inb_of Sz21 ⟨by decide, by decide⟩) rfl) (g := (mkF m 19 #[.val (.ref a10_0), .val (.int (5 : Int32)), .val (.long ((0 : Int64) + t_w_tree_a10_0_4)), .second, .val (.int (4 : Int32))] [(.int (3 : Int32)), (.ref w_tree_a10_0), (.long ((0 : Int64) + t_w_tree_a10_0_4))])) rfl rfl (hb hby d10_19) _ ?_
                refine XS.ladd X20.here hx rfl (hb hby d10_20) rfl ?_
                show Steps p.tables e below (T20.setTop (mkF m 21 #[.val (.ref a10_0), .val (.int (5 : Int32)), .val (.long ((0 : Int64) + t_w_tree_a10_0_4)), .second, .val (.int (4 : Int32))] [(.long (((0 : Int64) + t_w_tree_a10_0_4) + t_w_tree_a10_0_3))])) _
                refine XS.lstoreN X20.here hx rfl (hb hby d10_21) rfl (l' := #[.val (.ref a10_0), .val (.int (5 : Int32)), .val (.long (((0 : Int64) + t_w_tree_a10_0_4) + t_w_tree_a10_0_3)), .second, .val (.int (4 : Int32))]) rfl ?_
                show Steps p.tables e below (T20.setTop (mkF m 22 #[.val (.ref a10_0), .val (.int (5 : Int32)), .val (.long (((0 : Int64) + t_w_tree_a10_0_4) + t_w_tree_a10_0_3)), .second, .val (.int (4 : Int32))] [])) _
                rw [← hx22]
                refine XS.iload X20.here hx rfl (hb hby d10_22) rfl ?_
                refine XS.iload X20.here hx rfl (hb hby d10_24) rfl ?_
                show Steps p.tables e below (T20.setTop (mkF m 26 #[.val (.ref a10_0), .val (.int (5 : Int32)), .val (.long x22), .second, .val (.int (4 : Int32))] [(.int (4 : Int32)), (.int (4 : Int32))])) _
                refine XS.iload X20.here hx rfl (hb hby d10_26) rfl ?_
                refine XS.ineg X20.here hx rfl (hb hby d10_28) rfl ?_
                refine XS.iand X20.here hx rfl (hb hby d10_29) rfl ?_
                show Steps p.tables e below (T20.setTop (mkF m 30 #[.val (.ref a10_0), .val (.int (5 : Int32)), .val (.long x22), .second, .val (.int (4 : Int32))] [(.int (4 : Int32)), (.int (4 : Int32))])) _
                refine XS.isub X20.here hx rfl (hb hby d10_30) rfl ?_
                refine XS.istore X20.here hx rfl (hb hby d10_31) rfl (l' := #[.val (.ref a10_0), .val (.int (5 : Int32)), .val (.long x22), .second, .val (.int (0 : Int32))]) rfl ?_
                refine XS.goto X20.here hx rfl (pc0 := 33) (pc' := 5) rfl (hb hby d10_33) (by decide) (by decide) ?_
                show Steps p.tables e below (T20.setTop (mkF m 5 #[.val (.ref a10_0), .val (.int (5 : Int32)), .val (.long x22), .second, .val (.int (0 : Int32))] [])) _
                refine XS.iload X20.here hx rfl (hb hby d10_5) rfl ?_
                show Steps p.tables e below (T20.setTop (mkF m 7 #[.val (.ref a10_0), .val (.int (5 : Int32)), .val (.long x22), .second, .val (.int (0 : Int32))] [(.int (0 : Int32))])) _
                refine XS.ifYes X20.here hx rfl (pc0 := 7) (pc' := 36) rfl (hb hby d10_7) rfl ((if0 _ _).trans (flt (by decide : ¬ ((0 : Int32) < (0 : Int32)))).2.2.2) (by decide) (by decide) ?_
                refine XS.lloadN X20.here hx rfl (hb hby d10_36) rfl ?_
                show Steps p.tables e below (T20.setTop (mkF m 37 #[.val (.ref a10_0), .val (.int (5 : Int32)), .val (.long x22), .second, .val (.int (0 : Int32))] [(.long x22)])) _
                exact own_retJ X20 hx Bd.returns (hb hby d10_37) hr
              · show Q_rm10_10 Z a10_0 p10_1 w_tree_a10_0 w_total_a10_0 kc_w_tree_a10_0 t_w_tree_a10_0_0 t_w_tree_a10_0_1 t_w_tree_a10_0_2 t_w_tree_a10_0_3 t_w_tree_a10_0_4 t_w_tree_a10_0_5 t_w_tree_a10_0_6 t_w_tree_a10_0_7 h0 n0 _ T20.heap _
                rw [e20]
                subst hx22
                exact ⟨(congrArg (fun z => some (Value.long z)) ((if_neg hb1).trans ((if_neg hb2).trans ((if_neg hb5).trans ((if_neg hb8).trans ((if_neg hb14).trans (if_pos hb17)))))).symm), N0, rfl⟩
            · have own_u17 : True := trivial
              by_cases hb23 : p10_1 = (6 : Int32)
              · have own_t23 : True := trivial
                obtain ⟨T24, X24, e24, st24⟩ := getF X0 hx hZ hown (host := "") (Or.inl (ow16 hw)) Via.refl e0 F_tree_a10_0 (g := (mkF m 12 #[.val (.ref a10_0), .val (.int (6 : Int32)), .val (.long (0 : Int64)), .second, .val (.int (6 : Int32))] [(.ref a10_0), (.long (0 : Int64))])) rfl rfl (hb hby d10_12)
                obtain ⟨cl25, Ar25, qk25, Sz25, Nz25, Hh25, Gf25⟩ := id V_w_tree_a10_0
                obtain ⟨T26, X26, e26, st26⟩ := getF X24 hx hZ hown (host := "") (Or.inl (ow16 hw)) Via.refl e24 F_tree_a10_0 (g := (mkF m 12 #[.val (.ref a10_0), .val (.int (6 : Int32)), .val (.long ((0 : Int64) + t_w_tree_a10_0_5)), .second, .val (.int (4 : Int32))] [(.ref a10_0), (.long ((0 : Int64) + t_w_tree_a10_0_5))])) rfl rfl (hb hby d10_12)
                obtain ⟨cl27, Ar27, qk27, Sz27, Nz27, Hh27, Gf27⟩ := id V_w_tree_a10_0
                obtain ⟨x28, hx28⟩ : ∃ z : Int64, z = (((0 : Int64) + t_w_tree_a10_0_5) + t_w_tree_a10_0_3) := ⟨_, rfl⟩
                obtain ⟨fs, hr, hrun, hended, hW, hsame⟩ := X26.leave (v := some (.long x28)) (fun h => by rw [Bd.returns] at h; cases h)
                refine ⟨_, _, pre0 _ ?_, hrun, hended, _, _, rfl, ?_, ⟨_, rfl⟩, hW, hsame.mono (by decide) (by decide)⟩
                · show Steps p.tables e below (s₁.setTop (mkF m 0 #[.val (.ref a10_0), .val (.int p10_1), .unset, .unset, .unset] [])) _
                  rw [hb23]
                  show Steps p.tables e below (s₁.setTop (mkF m 0 #[.val (.ref a10_0), .val (.int (6 : Int32)), .unset, .unset, .unset] [])) _
                  refine XS.lconst X0.here hx rfl (hb hby d10_0) ?_
                  refine XS.lstoreN X0.here hx rfl (hb hby d10_1) rfl (l' := #[.val (.ref a10_0), .val (.int (6 : Int32)), .val (.long (0 : Int64)), .second, .unset]) rfl ?_
                  refine XS.iloadN X0.here hx rfl (hb hby d10_2) rfl ?_
                  show Steps p.tables e below (s₁.setTop (mkF m 3 #[.val (.ref a10_0), .val (.int (6 : Int32)), .val (.long (0 : Int64)), .second, .unset] [(.int (6 : Int32))])) _
                  refine XS.istore X0.here hx rfl (hb hby d10_3) rfl (l' := #[.val (.ref a10_0), .val (.int (6 : Int32)), .val (.long (0 : Int64)), .second, .val (.int (6 : Int32))]) rfl ?_
                  refine XS.iload X0.here hx rfl (hb hby d10_5) rfl ?_
                  show Steps p.tables e below (s₁.setTop (mkF m 7 #[.val (.ref a10_0), .val (.int (6 : Int32)), .val (.long (0 : Int64)), .second, .val (.int (6 : Int32))] [(.int (6 : Int32))])) _
                  refine XS.ifNo X0.here hx rfl (hb hby d10_7) rfl ((if0 _ _).trans (tlt (by decide : (0 : Int32) < (6 : Int32))).2.2.2) ?_
                  refine XS.lloadN X0.here hx rfl (hb hby d10_10) rfl ?_
                  refine XS.aloadN X0.here hx rfl (hb hby d10_11) rfl rfl ?_
                  show Steps p.tables e below (s₁.setTop (mkF m 12 #[.val (.ref a10_0), .val (.int (6 : Int32)), .val (.long (0 : Int64)), .second, .val (.int (6 : Int32))] [(.ref a10_0), (.long (0 : Int64))])) _
                  refine st24 _ ?_
                  refine XS.iload X24.here hx rfl (hb hby d10_15) rfl ?_
                  refine XS.iconst X24.here hx rfl (hb hby d10_17) ?_
                  show Steps p.tables e below (T24.setTop (mkF m 18 #[.val (.ref a10_0), .val (.int (6 : Int32)), .val (.long (0 : Int64)), .second, .val (.int (6 : Int32))] [(.int (1 : Int32)), (.int (6 : Int32)), (.ref w_tree_a10_0), (.long (0 : Int64))])) _
                  refine XS.isub X24.here hx rfl (hb hby d10_18) rfl ?_
                  refine X24.laload hx (j := (5 : Int32)) (v := (.long t_w_tree_a10_0_5)) (by rw [e24]; exact Ar25.1) (State.isArrayOf_alike hZ.alike Ar25.2.1) Ar25.2.2 (inb_of Sz25 ⟨by decide, by decide⟩) (Hh25.at (inb_of Sz25 ⟨by decide, by decide⟩) rfl) (g := (mkF m 19 #[.val (.ref a10_0), .val (.int (6 : Int32)), .val (.long (0 : Int64)), .second, .val (.int (6 : Int32))] [(.int (5 : Int32)), (.ref w_tree_a10_0), (.long (0 : Int64))])) rfl rfl (hb hby d10_19) _ ?_
                  refine XS.ladd X24.here hx rfl (hb hby d10_20) rfl ?_
                  show Steps p.tables e below (T24.setTop (mkF m 21 #[.val (.ref a10_0), .val (.int (6 : Int32)), .val (.long (0 : Int64)), .second, .val (.int (6 : Int32))] [(.long ((0 : Int64) + t_w_tree_a10_0_5))])) _
                  refine XS.lstoreN X24.here hx rfl (hb hby d10_21) rfl (l' := #[.val (.ref a10_0), .val (.int (6 : Int32)), .val (.long ((0 : Int64) + t_w_tree_a10_0_5)), .second, .val (.int (6 : Int32))]) rfl ?_
                  refine XS.iload X24.here hx rfl (hb hby d10_22) rfl ?_
                  refine XS.iload X24.here hx rfl (hb hby d10_24) rfl ?_
                  show Steps p.tables e below (T24.setTop (mkF m 26 #[.val (.ref a10_0), .val (.int (6 : Int32)), .val (.long ((0 : Int64) + t_w_tree_a10_0_5)), .second, .val (.int (6 : Int32))] [(.int (6 : Int32)), (.int (6 : Int32))])) _
                  refine XS.iload X24.here hx rfl (hb hby d10_26) rfl ?_
                  refine XS.ineg X24.here hx rfl (hb hby d10_28) rfl ?_
                  refine XS.iand X24.here hx rfl (hb hby d10_29) rfl ?_
                  show Steps p.tables e below (T24.setTop (mkF m 30 #[.val (.ref a10_0), .val (.int (6 : Int32)), .val (.long ((0 : Int64) + t_w_tree_a10_0_5)), .second, .val (.int (6 : Int32))] [(.int (2 : Int32)), (.int (6 : Int32))])) _
                  refine XS.isub X24.here hx rfl (hb hby d10_30) rfl ?_
                  refine XS.istore X24.here hx rfl (hb hby d10_31) rfl (l' := #[.val (.ref a10_0), .val (.int (6 : Int32)), .val (.long ((0 : Int64) + t_w_tree_a10_0_5)), .second, .val (.int (4 : Int32))]) rfl ?_
                  refine XS.goto X24.here hx rfl (pc0 := 33) (pc' := 5) rfl (hb hby d10_33) (by decide) (by decide) ?_
                  show Steps p.tables e below (T24.setTop (mkF m 5 #[.val (.ref a10_0), .val (.int (6 : Int32)), .val (.long ((0 : Int64) + t_w_tree_a10_0_5)), .second, .val (.int (4 : Int32))] [])) _
                  refine XS.iload X24.here hx rfl (hb hby d10_5) rfl ?_
                  show Steps p.tables e below (T24.setTop (mkF m 7 #[.val (.ref a10_0), .val (.int (6 : Int32)), .val (.long ((0 : Int64) + t_w_tree_a10_0_5)), .second, .val (.int (4 : Int32))] [(.int (4 : Int32))])) _
                  refine XS.ifNo X24.here hx rfl (hb hby d10_7) rfl ((if0 _ _).trans (tlt (by decide : (0 : Int32) < (4 : Int32))).2.2.2) ?_
                  refine XS.lloadN X24.here hx rfl (hb hby d10_10) rfl ?_
                  refine XS.aloadN X24.here hx rfl (hb hby d10_11) rfl rfl ?_
                  show Steps p.tables e below (T24.setTop (mkF m 12 #[.val (.ref a10_0), .val (.int (6 : Int32)), .val (.long ((0 : Int64) + t_w_tree_a10_0_5)), .second, .val (.int (4 : Int32))] [(.ref a10_0), (.long ((0 : Int64) + t_w_tree_a10_0_5))])) _
                  refine st26 _ ?_
                  refine XS.iload X26.here hx rfl (hb hby d10_15) rfl ?_
                  refine XS.iconst X26.here hx rfl (hb hby d10_17) ?_
                  show Steps p.tables e below (T26.setTop (mkF m 18 #[.val (.ref a10_0), .val (.int (6 : Int32)), .val (.long ((0 : Int64) + t_w_tree_a10_0_5)), .second, .val (.int (4 : Int32))] [(.int (1 : Int32)), (.int (4 : Int32)), (.ref w_tree_a10_0), (.long ((0 : Int64) + t_w_tree_a10_0_5))])) _
                  refine XS.isub X26.here hx rfl (hb hby d10_18) rfl ?_
                  refine X26.laload hx (j := (3 : Int32)) (v := (.long t_w_tree_a10_0_3)) (by rw [e26]; exact Ar27.1) (State.isArrayOf_alike hZ.alike Ar27.2.1) Ar27.2.2 (inb_of Sz27 ⟨by decide, by decide⟩) (Hh27.at (inb_of Sz27 ⟨by decide, by decide⟩) rfl) (g := (mkF m 19 #[.val (.ref a10_0), .val (.int (6 : Int32)), .val (.long ((0 : Int64) + t_w_tree_a10_0_5)), .second, .val (.int (4 : Int32))] [(.int (3 : Int32)), (.ref w_tree_a10_0), (.long ((0 : Int64) + t_w_tree_a10_0_5))])) rfl rfl (hb hby d10_19) _ ?_
                  refine XS.ladd X26.here hx rfl (hb hby d10_20) rfl ?_
                  show Steps p.tables e below (T26.setTop (mkF m 21 #[.val (.ref a10_0), .val (.int (6 : Int32)), .val (.long ((0 : Int64) + t_w_tree_a10_0_5)), .second, .val (.int (4 : Int32))] [(.long (((0 : Int64) + t_w_tree_a10_0_5) + t_w_tree_a10_0_3))])) _
                  refine XS.lstoreN X26.here hx rfl (hb hby d10_21) rfl (l' := #[.val (.ref a10_0), .val (.int (6 : Int32)), .val (.long (((0 : Int64) + t_w_tree_a10_0_5) + t_w_tree_a10_0_3)), .second, .val (.int (4 : Int32))]) rfl ?_
                  show Steps p.tables e below (T26.setTop (mkF m 22 #[.val (.ref a10_0), .val (.int (6 : Int32)), .val (.long (((0 : Int64) + t_w_tree_a10_0_5) + t_w_tree_a10_0_3)), .second, .val (.int (4 : Int32))] [])) _
                  rw [← hx28]
                  refine XS.iload X26.here hx rfl (hb hby d10_22) rfl ?_
                  refine XS.iload X26.here hx rfl (hb hby d10_24) rfl ?_
                  show Steps p.tables e below (T26.setTop (mkF m 26 #[.val (.ref a10_0), .val (.int (6 : Int32)), .val (.long x28), .second, .val (.int (4 : Int32))] [(.int (4 : Int32)), (.int (4 : Int32))])) _
                  refine XS.iload X26.here hx rfl (hb hby d10_26) rfl ?_
                  refine XS.ineg X26.here hx rfl (hb hby d10_28) rfl ?_
                  refine XS.iand X26.here hx rfl (hb hby d10_29) rfl ?_
                  show Steps p.tables e below (T26.setTop (mkF m 30 #[.val (.ref a10_0), .val (.int (6 : Int32)), .val (.long x28), .second, .val (.int (4 : Int32))] [(.int (4 : Int32)), (.int (4 : Int32))])) _
                  refine XS.isub X26.here hx rfl (hb hby d10_30) rfl ?_
                  refine XS.istore X26.here hx rfl (hb hby d10_31) rfl (l' := #[.val (.ref a10_0), .val (.int (6 : Int32)), .val (.long x28), .second, .val (.int (0 : Int32))]) rfl ?_
                  refine XS.goto X26.here hx rfl (pc0 := 33) (pc' := 5) rfl (hb hby d10_33) (by decide) (by decide) ?_
                  show Steps p.tables e below (T26.setTop (mkF m 5 #[.val (.ref a10_0), .val (.int (6 : Int32)), .val (.long x28), .second, .val (.int (0 : Int32))] [])) _
                  refine XS.iload X26.here hx rfl (hb hby d10_5) rfl ?_
                  show Steps p.tables e below (T26.setTop (mkF m 7 #[.val (.ref a10_0), .val (.int (6 : Int32)), .val (.long x28), .second, .val (.int (0 : Int32))] [(.int (0 : Int32))])) _
                  refine XS.ifYes X26.here hx rfl (pc0 := 7) (pc' := 36) rfl (hb hby d10_7) rfl ((if0 _ _).trans (flt (by decide : ¬ ((0 : Int32) < (0 : Int32)))).2.2.2) (by decide) (by decide) ?_
                  refine XS.lloadN X26.here hx rfl (hb hby d10_36) rfl ?_
                  show Steps p.tables e below (T26.setTop (mkF m 37 #[.val (.ref a10_0), .val (.int (6 : Int32)), .val (.long x28), .second, .val (.int (0 : Int32))] [(.long x28)])) _
                  exact own_retJ X26 hx Bd.returns (hb hby d10_37) hr
                · show Q_rm10_10 Z a10_0 p10_1 w_tree_a10_0 w_total_a10_0 kc_w_tree_a10_0 t_w_tree_a10_0_0 t_w_tree_a10_0_1 t_w_tree_a10_0_2 t_w_tree_a10_0_3 t_w_tree_a10_0_4 t_w_tree_a10_0_5 t_w_tree_a10_0_6 t_w_tree_a10_0_7 h0 n0 _ T26.heap _
                  rw [e26]
                  subst hx28
                  exact ⟨(congrArg (fun z => some (Value.long z)) ((if_neg hb1).trans ((if_neg hb2).trans ((if_neg hb5).trans ((if_neg hb8).trans ((if_neg hb14).trans ((if_neg hb17).trans (if_pos hb23))))))).symm), N0, rfl⟩
              · have own_u23 : True := trivial
                by_cases hb29 : p10_1 = (7 : Int32)
                · have own_t29 : True := trivial
                  obtain ⟨T30, X30, e30, st30⟩ := getF X0 hx hZ hown (host := "") (Or.inl (ow16 hw)) Via.refl e0 F_tree_a10_0 (g := (mkF m 12 #[.val (.ref a10_0), .val (.int (7 : Int32)), .val (.long (0 : Int64)), .second, .val (.int (7 : Int32))] [(.ref a10_0), (.long (0 : Int64))])) rfl rfl (hb hby d10_12)
                  obtain ⟨cl31, Ar31, qk31, Sz31, Nz31, Hh31, Gf31⟩ := id V_w_tree_a10_0
                  obtain ⟨T32, X32, e32, st32⟩ := getF X30 hx hZ hown (host := "") (Or.inl (ow16 hw)) Via.refl e30 F_tree_a10_0 (g := (mkF m 12 #[.val (.ref a10_0), .val (.int (7 : Int32)), .val (.long ((0 : Int64) + t_w_tree_a10_0_6)), .second, .val (.int (6 : Int32))] [(.ref a10_0), (.long ((0 : Int64) + t_w_tree_a10_0_6))])) rfl rfl (hb hby d10_12)
                  obtain ⟨cl33, Ar33, qk33, Sz33, Nz33, Hh33, Gf33⟩ := id V_w_tree_a10_0
                  obtain ⟨x34, hx34⟩ : ∃ z : Int64, z = (((0 : Int64) + t_w_tree_a10_0_6) + t_w_tree_a10_0_5) := ⟨_, rfl⟩
                  obtain ⟨T35, X35, e35, st35⟩ := getF X32 hx hZ hown (host := "") (Or.inl (ow16 hw)) Via.refl e32 F_tree_a10_0 (g := (mkF m 12 #[.val (.ref a10_0), .val (.int (7 : Int32)), .val (.long x34), .second, .val (.int (4 : Int32))] [(.ref a10_0), (.long x34)])) rfl rfl (hb hby d10_12)
                  obtain ⟨cl36, Ar36, qk36, Sz36, Nz36, Hh36, Gf36⟩ := id V_w_tree_a10_0
                  obtain ⟨fs, hr, hrun, hended, hW, hsame⟩ := X35.leave (v := some (.long (x34 + t_w_tree_a10_0_3))) (fun h => by rw [Bd.returns] at h; cases h)
                  refine ⟨_, _, pre0 _ ?_, hrun, hended, _, _, rfl, ?_, ⟨_, rfl⟩, hW, hsame.mono (by decide) (by decide)⟩
                  · show Steps p.tables e below (s₁.setTop (mkF m 0 #[.val (.ref a10_0), .val (.int p10_1), .unset, .unset, .unset] [])) _
                    rw [hb29]
                    show Steps p.tables e below (s₁.setTop (mkF m 0 #[.val (.ref a10_0), .val (.int (7 : Int32)), .unset, .unset, .unset] [])) _
                    refine XS.lconst X0.here hx rfl (hb hby d10_0) ?_
                    refine XS.lstoreN X0.here hx rfl (hb hby d10_1) rfl (l' := #[.val (.ref a10_0), .val (.int (7 : Int32)), .val (.long (0 : Int64)), .second, .unset]) rfl ?_
                    refine XS.iloadN X0.here hx rfl (hb hby d10_2) rfl ?_
                    show Steps p.tables e below (s₁.setTop (mkF m 3 #[.val (.ref a10_0), .val (.int (7 : Int32)), .val (.long (0 : Int64)), .second, .unset] [(.int (7 : Int32))])) _
                    refine XS.istore X0.here hx rfl (hb hby d10_3) rfl (l' := #[.val (.ref a10_0), .val (.int (7 : Int32)), .val (.long (0 : Int64)), .second, .val (.int (7 : Int32))]) rfl ?_
                    refine XS.iload X0.here hx rfl (hb hby d10_5) rfl ?_
                    show Steps p.tables e below (s₁.setTop (mkF m 7 #[.val (.ref a10_0), .val (.int (7 : Int32)), .val (.long (0 : Int64)), .second, .val (.int (7 : Int32))] [(.int (7 : Int32))])) _
                    refine XS.ifNo X0.here hx rfl (hb hby d10_7) rfl ((if0 _ _).trans (tlt (by decide : (0 : Int32) < (7 : Int32))).2.2.2) ?_
                    refine XS.lloadN X0.here hx rfl (hb hby d10_10) rfl ?_
                    refine XS.aloadN X0.here hx rfl (hb hby d10_11) rfl rfl ?_
                    show Steps p.tables e below (s₁.setTop (mkF m 12 #[.val (.ref a10_0), .val (.int (7 : Int32)), .val (.long (0 : Int64)), .second, .val (.int (7 : Int32))] [(.ref a10_0), (.long (0 : Int64))])) _
                    refine st30 _ ?_
                    refine XS.iload X30.here hx rfl (hb hby d10_15) rfl ?_
                    refine XS.iconst X30.here hx rfl (hb hby d10_17) ?_
                    show Steps p.tables e below (T30.setTop (mkF m 18 #[.val (.ref a10_0), .val (.int (7 : Int32)), .val (.long (0 : Int64)), .second, .val (.int (7 : Int32))] [(.int (1 : Int32)), (.int (7 : Int32)), (.ref w_tree_a10_0), (.long (0 : Int64))])) _
                    refine XS.isub X30.here hx rfl (hb hby d10_18) rfl ?_
                    refine X30.laload hx (j := (6 : Int32)) (v := (.long t_w_tree_a10_0_6)) (by rw [e30]; exact Ar31.1) (State.isArrayOf_alike hZ.alike Ar31.2.1) Ar31.2.2 (inb_of Sz31 ⟨by decide, by decide⟩) (Hh31.at (inb_of Sz31 ⟨by decide, by decide⟩) rfl) (g := (mkF m 19 #[.val (.ref a10_0), .val (.int (7 : Int32)), .val (.long (0 : Int64)), .second, .val (.int (7 : Int32))] [(.int (6 : Int32)), (.ref w_tree_a10_0), (.long (0 : Int64))])) rfl rfl (hb hby d10_19) _ ?_
                    refine XS.ladd X30.here hx rfl (hb hby d10_20) rfl ?_
                    show Steps p.tables e below (T30.setTop (mkF m 21 #[.val (.ref a10_0), .val (.int (7 : Int32)), .val (.long (0 : Int64)), .second, .val (.int (7 : Int32))] [(.long ((0 : Int64) + t_w_tree_a10_0_6))])) _
                    refine XS.lstoreN X30.here hx rfl (hb hby d10_21) rfl (l' := #[.val (.ref a10_0), .val (.int (7 : Int32)), .val (.long ((0 : Int64) + t_w_tree_a10_0_6)), .second, .val (.int (7 : Int32))]) rfl ?_
                    refine XS.iload X30.here hx rfl (hb hby d10_22) rfl ?_
                    refine XS.iload X30.here hx rfl (hb hby d10_24) rfl ?_
                    show Steps p.tables e below (T30.setTop (mkF m 26 #[.val (.ref a10_0), .val (.int (7 : Int32)), .val (.long ((0 : Int64) + t_w_tree_a10_0_6)), .second, .val (.int (7 : Int32))] [(.int (7 : Int32)), (.int (7 : Int32))])) _
                    refine XS.iload X30.here hx rfl (hb hby d10_26) rfl ?_
                    refine XS.ineg X30.here hx rfl (hb hby d10_28) rfl ?_
                    refine XS.iand X30.here hx rfl (hb hby d10_29) rfl ?_
                    show Steps p.tables e below (T30.setTop (mkF m 30 #[.val (.ref a10_0), .val (.int (7 : Int32)), .val (.long ((0 : Int64) + t_w_tree_a10_0_6)), .second, .val (.int (7 : Int32))] [(.int (1 : Int32)), (.int (7 : Int32))])) _
                    refine XS.isub X30.here hx rfl (hb hby d10_30) rfl ?_
                    refine XS.istore X30.here hx rfl (hb hby d10_31) rfl (l' := #[.val (.ref a10_0), .val (.int (7 : Int32)), .val (.long ((0 : Int64) + t_w_tree_a10_0_6)), .second, .val (.int (6 : Int32))]) rfl ?_
                    refine XS.goto X30.here hx rfl (pc0 := 33) (pc' := 5) rfl (hb hby d10_33) (by decide) (by decide) ?_
                    show Steps p.tables e below (T30.setTop (mkF m 5 #[.val (.ref a10_0), .val (.int (7 : Int32)), .val (.long ((0 : Int64) + t_w_tree_a10_0_6)), .second, .val (.int (6 : Int32))] [])) _
                    refine XS.iload X30.here hx rfl (hb hby d10_5) rfl ?_
                    show Steps p.tables e below (T30.setTop (mkF m 7 #[.val (.ref a10_0), .val (.int (7 : Int32)), .val (.long ((0 : Int64) + t_w_tree_a10_0_6)), .second, .val (.int (6 : Int32))] [(.int (6 : Int32))])) _
                    refine XS.ifNo X30.here hx rfl (hb hby d10_7) rfl ((if0 _ _).trans (tlt (by decide : (0 : Int32) < (6 : Int32))).2.2.2) ?_
                    refine XS.lloadN X30.here hx rfl (hb hby d10_10) rfl ?_
                    refine XS.aloadN X30.here hx rfl (hb hby d10_11) rfl rfl ?_
                    show Steps p.tables e below (T30.setTop (mkF m 12 #[.val (.ref a10_0), .val (.int (7 : Int32)), .val (.long ((0 : Int64) + t_w_tree_a10_0_6)), .second, .val (.int (6 : Int32))] [(.ref a10_0), (.long ((0 : Int64) + t_w_tree_a10_0_6))])) _
                    refine st32 _ ?_
                    refine XS.iload X32.here hx rfl (hb hby d10_15) rfl ?_
                    refine XS.iconst X32.here hx rfl (hb hby d10_17) ?_
                    show Steps p.tables e below (T32.setTop (mkF m 18 #[.val (.ref a10_0), .val (.int (7 : Int32)), .val (.long ((0 : Int64) + t_w_tree_a10_0_6)), .second, .val (.int (6 : Int32))] [(.int (1 : Int32)), (.int (6 : Int32)), (.ref w_tree_a10_0), (.long ((0 : Int64) + t_w_tree_a10_0_6))])) _
                    refine XS.isub X32.here hx rfl (hb hby d10_18) rfl ?_
                    refine X32.laload hx (j := (5 : Int32)) (v := (.long t_w_tree_a10_0_5)) (by rw [e32]; exact Ar33.1) (State.isArrayOf_alike hZ.alike Ar33.2.1) Ar33.2.2 (inb_of Sz33 ⟨by decide, by decide⟩) (Hh33.at (inb_of Sz33 ⟨by decide, by decide⟩) rfl) (g := (mkF m 19 #[.val (.ref a10_0), .val (.int (7 : Int32)), .val (.long ((0 : Int64) + t_w_tree_a10_0_6)), .second, .val (.int (6 : Int32))] [(.int (5 : Int32)), (.ref w_tree_a10_0), (.long ((0 : Int64) + t_w_tree_a10_0_6))])) rfl rfl (hb hby d10_19) _ ?_
                    refine XS.ladd X32.here hx rfl (hb hby d10_20) rfl ?_
                    show Steps p.tables e below (T32.setTop (mkF m 21 #[.val (.ref a10_0), .val (.int (7 : Int32)), .val (.long ((0 : Int64) + t_w_tree_a10_0_6)), .second, .val (.int (6 : Int32))] [(.long (((0 : Int64) + t_w_tree_a10_0_6) + t_w_tree_a10_0_5))])) _
                    refine XS.lstoreN X32.here hx rfl (hb hby d10_21) rfl (l' := #[.val (.ref a10_0), .val (.int (7 : Int32)), .val (.long (((0 : Int64) + t_w_tree_a10_0_6) + t_w_tree_a10_0_5)), .second, .val (.int (6 : Int32))]) rfl ?_
                    show Steps p.tables e below (T32.setTop (mkF m 22 #[.val (.ref a10_0), .val (.int (7 : Int32)), .val (.long (((0 : Int64) + t_w_tree_a10_0_6) + t_w_tree_a10_0_5)), .second, .val (.int (6 : Int32))] [])) _
                    rw [← hx34]
                    refine XS.iload X32.here hx rfl (hb hby d10_22) rfl ?_
                    refine XS.iload X32.here hx rfl (hb hby d10_24) rfl ?_
                    show Steps p.tables e below (T32.setTop (mkF m 26 #[.val (.ref a10_0), .val (.int (7 : Int32)), .val (.long x34), .second, .val (.int (6 : Int32))] [(.int (6 : Int32)), (.int (6 : Int32))])) _
                    refine XS.iload X32.here hx rfl (hb hby d10_26) rfl ?_
                    refine XS.ineg X32.here hx rfl (hb hby d10_28) rfl ?_
                    refine XS.iand X32.here hx rfl (hb hby d10_29) rfl ?_
                    show Steps p.tables e below (T32.setTop (mkF m 30 #[.val (.ref a10_0), .val (.int (7 : Int32)), .val (.long x34), .second, .val (.int (6 : Int32))] [(.int (2 : Int32)), (.int (6 : Int32))])) _
                    refine XS.isub X32.here hx rfl (hb hby d10_30) rfl ?_
                    refine XS.istore X32.here hx rfl (hb hby d10_31) rfl (l' := #[.val (.ref a10_0), .val (.int (7 : Int32)), .val (.long x34), .second, .val (.int (4 : Int32))]) rfl ?_
                    refine XS.goto X32.here hx rfl (pc0 := 33) (pc' := 5) rfl (hb hby d10_33) (by decide) (by decide) ?_
                    show Steps p.tables e below (T32.setTop (mkF m 5 #[.val (.ref a10_0), .val (.int (7 : Int32)), .val (.long x34), .second, .val (.int (4 : Int32))] [])) _
                    refine XS.iload X32.here hx rfl (hb hby d10_5) rfl ?_
                    show Steps p.tables e below (T32.setTop (mkF m 7 #[.val (.ref a10_0), .val (.int (7 : Int32)), .val (.long x34), .second, .val (.int (4 : Int32))] [(.int (4 : Int32))])) _
                    refine XS.ifNo X32.here hx rfl (hb hby d10_7) rfl ((if0 _ _).trans (tlt (by decide : (0 : Int32) < (4 : Int32))).2.2.2) ?_
                    refine XS.lloadN X32.here hx rfl (hb hby d10_10) rfl ?_
                    refine XS.aloadN X32.here hx rfl (hb hby d10_11) rfl rfl ?_
                    show Steps p.tables e below (T32.setTop (mkF m 12 #[.val (.ref a10_0), .val (.int (7 : Int32)), .val (.long x34), .second, .val (.int (4 : Int32))] [(.ref a10_0), (.long x34)])) _
                    refine st35 _ ?_
                    refine XS.iload X35.here hx rfl (hb hby d10_15) rfl ?_
                    refine XS.iconst X35.here hx rfl (hb hby d10_17) ?_
                    show Steps p.tables e below (T35.setTop (mkF m 18 #[.val (.ref a10_0), .val (.int (7 : Int32)), .val (.long x34), .second, .val (.int (4 : Int32))] [(.int (1 : Int32)), (.int (4 : Int32)), (.ref w_tree_a10_0), (.long x34)])) _
                    refine XS.isub X35.here hx rfl (hb hby d10_18) rfl ?_
                    refine X35.laload hx (j := (3 : Int32)) (v := (.long t_w_tree_a10_0_3)) (by rw [e35]; exact Ar36.1) (State.isArrayOf_alike hZ.alike Ar36.2.1) Ar36.2.2 (inb_of Sz36 ⟨by decide, by decide⟩) (Hh36.at (inb_of Sz36 ⟨by decide, by decide⟩) rfl) (g := (mkF m 19 #[.val (.ref a10_0), .val (.int (7 : Int32)), .val (.long x34), .second, .val (.int (4 : Int32))] [(.int (3 : Int32)), (.ref w_tree_a10_0), (.long x34)])) rfl rfl (hb hby d10_19) _ ?_
                    refine XS.ladd X35.here hx rfl (hb hby d10_20) rfl ?_
                    show Steps p.tables e below (T35.setTop (mkF m 21 #[.val (.ref a10_0), .val (.int (7 : Int32)), .val (.long x34), .second, .val (.int (4 : Int32))] [(.long (x34 + t_w_tree_a10_0_3))])) _
                    refine XS.lstoreN X35.here hx rfl (hb hby d10_21) rfl (l' := #[.val (.ref a10_0), .val (.int (7 : Int32)), .val (.long (x34 + t_w_tree_a10_0_3)), .second, .val (.int (4 : Int32))]) rfl ?_
                    refine XS.iload X35.here hx rfl (hb hby d10_22) rfl ?_
                    refine XS.iload X35.here hx rfl (hb hby d10_24) rfl ?_
                    show Steps p.tables e below (T35.setTop (mkF m 26 #[.val (.ref a10_0), .val (.int (7 : Int32)), .val (.long (x34 + t_w_tree_a10_0_3)), .second, .val (.int (4 : Int32))] [(.int (4 : Int32)), (.int (4 : Int32))])) _
                    refine XS.iload X35.here hx rfl (hb hby d10_26) rfl ?_
                    refine XS.ineg X35.here hx rfl (hb hby d10_28) rfl ?_
                    refine XS.iand X35.here hx rfl (hb hby d10_29) rfl ?_
                    show Steps p.tables e below (T35.setTop (mkF m 30 #[.val (.ref a10_0), .val (.int (7 : Int32)), .val (.long (x34 + t_w_tree_a10_0_3)), .second, .val (.int (4 : Int32))] [(.int (4 : Int32)), (.int (4 : Int32))])) _
                    refine XS.isub X35.here hx rfl (hb hby d10_30) rfl ?_
                    refine XS.istore X35.here hx rfl (hb hby d10_31) rfl (l' := #[.val (.ref a10_0), .val (.int (7 : Int32)), .val (.long (x34 + t_w_tree_a10_0_3)), .second, .val (.int (0 : Int32))]) rfl ?_
                    refine XS.goto X35.here hx rfl (pc0 := 33) (pc' := 5) rfl (hb hby d10_33) (by decide) (by decide) ?_
                    show Steps p.tables e below (T35.setTop (mkF m 5 #[.val (.ref a10_0), .val (.int (7 : Int32)), .val (.long (x34 + t_w_tree_a10_0_3)), .second, .val (.int (0 : Int32))] [])) _
                    refine XS.iload X35.here hx rfl (hb hby d10_5) rfl ?_
                    show Steps p.tables e below (T35.setTop (mkF m 7 #[.val (.ref a10_0), .val (.int (7 : Int32)), .val (.long (x34 + t_w_tree_a10_0_3)), .second, .val (.int (0 : Int32))] [(.int (0 : Int32))])) _
                    refine XS.ifYes X35.here hx rfl (pc0 := 7) (pc' := 36) rfl (hb hby d10_7) rfl ((if0 _ _).trans (flt (by decide : ¬ ((0 : Int32) < (0 : Int32)))).2.2.2) (by decide) (by decide) ?_
                    refine XS.lloadN X35.here hx rfl (hb hby d10_36) rfl ?_
                    show Steps p.tables e below (T35.setTop (mkF m 37 #[.val (.ref a10_0), .val (.int (7 : Int32)), .val (.long (x34 + t_w_tree_a10_0_3)), .second, .val (.int (0 : Int32))] [(.long (x34 + t_w_tree_a10_0_3))])) _
                    exact own_retJ X35 hx Bd.returns (hb hby d10_37) hr
                  · show Q_rm10_10 Z a10_0 p10_1 w_tree_a10_0 w_total_a10_0 kc_w_tree_a10_0 t_w_tree_a10_0_0 t_w_tree_a10_0_1 t_w_tree_a10_0_2 t_w_tree_a10_0_3 t_w_tree_a10_0_4 t_w_tree_a10_0_5 t_w_tree_a10_0_6 t_w_tree_a10_0_7 h0 n0 _ T35.heap _
                    rw [e35]
                    subst hx34
                    exact ⟨(congrArg (fun z => some (Value.long z)) ((if_neg hb1).trans ((if_neg hb2).trans ((if_neg hb5).trans ((if_neg hb8).trans ((if_neg hb14).trans ((if_neg hb17).trans ((if_neg hb23).trans (if_pos hb29)))))))).symm), N0, rfl⟩
                · have own_u29 : True := trivial
                  have hl37 : p10_1 = (8 : Int32) := ((((((((hq.resolve_left hb1).resolve_left hb2).resolve_left hb5).resolve_left hb8).resolve_left hb14).resolve_left hb17).resolve_left hb23).resolve_left hb29)
                  obtain ⟨T38, X38, e38, st38⟩ := getF X0 hx hZ hown (host := "") (Or.inl (ow16 hw)) Via.refl e0 F_tree_a10_0 (g := (mkF m 12 #[.val (.ref a10_0), .val (.int (8 : Int32)), .val (.long (0 : Int64)), .second, .val (.int (8 : Int32))] [(.ref a10_0), (.long (0 : Int64))])) rfl rfl (hb hby d10_12)
                  obtain ⟨cl39, Ar39, qk39, Sz39, Nz39, Hh39, Gf39⟩ := id V_w_tree_a10_0
                  obtain ⟨fs, hr, hrun, hended, hW, hsame⟩ := X38.leave (v := some (.long ((0 : Int64) + t_w_tree_a10_0_7))) (fun h => by rw [Bd.returns] at h; cases h)
                  refine ⟨_, _, pre0 _ ?_, hrun, hended, _, _, rfl, ?_, ⟨_, rfl⟩, hW, hsame.mono (by decide) (by decide)⟩
                  · show Steps p.tables e below (s₁.setTop (mkF m 0 #[.val (.ref a10_0), .val (.int p10_1), .unset, .unset, .unset] [])) _
                    rw [hl37]
                    show Steps p.tables e below (s₁.setTop (mkF m 0 #[.val (.ref a10_0), .val (.int (8 : Int32)), .unset, .unset, .unset] [])) _
                    refine XS.lconst X0.here hx rfl (hb hby d10_0) ?_
                    refine XS.lstoreN X0.here hx rfl (hb hby d10_1) rfl (l' := #[.val (.ref a10_0), .val (.int (8 : Int32)), .val (.long (0 : Int64)), .second, .unset]) rfl ?_
                    refine XS.iloadN X0.here hx rfl (hb hby d10_2) rfl ?_
                    show Steps p.tables e below (s₁.setTop (mkF m 3 #[.val (.ref a10_0), .val (.int (8 : Int32)), .val (.long (0 : Int64)), .second, .unset] [(.int (8 : Int32))])) _
                    refine XS.istore X0.here hx rfl (hb hby d10_3) rfl (l' := #[.val (.ref a10_0), .val (.int (8 : Int32)), .val (.long (0 : Int64)), .second, .val (.int (8 : Int32))]) rfl ?_
                    refine XS.iload X0.here hx rfl (hb hby d10_5) rfl ?_
                    show Steps p.tables e below (s₁.setTop (mkF m 7 #[.val (.ref a10_0), .val (.int (8 : Int32)), .val (.long (0 : Int64)), .second, .val (.int (8 : Int32))] [(.int (8 : Int32))])) _
                    refine XS.ifNo X0.here hx rfl (hb hby d10_7) rfl ((if0 _ _).trans (tlt (by decide : (0 : Int32) < (8 : Int32))).2.2.2) ?_
                    refine XS.lloadN X0.here hx rfl (hb hby d10_10) rfl ?_
                    refine XS.aloadN X0.here hx rfl (hb hby d10_11) rfl rfl ?_
                    show Steps p.tables e below (s₁.setTop (mkF m 12 #[.val (.ref a10_0), .val (.int (8 : Int32)), .val (.long (0 : Int64)), .second, .val (.int (8 : Int32))] [(.ref a10_0), (.long (0 : Int64))])) _
                    refine st38 _ ?_
                    refine XS.iload X38.here hx rfl (hb hby d10_15) rfl ?_
                    refine XS.iconst X38.here hx rfl (hb hby d10_17) ?_
                    show Steps p.tables e below (T38.setTop (mkF m 18 #[.val (.ref a10_0), .val (.int (8 : Int32)), .val (.long (0 : Int64)), .second, .val (.int (8 : Int32))] [(.int (1 : Int32)), (.int (8 : Int32)), (.ref w_tree_a10_0), (.long (0 : Int64))])) _
                    refine XS.isub X38.here hx rfl (hb hby d10_18) rfl ?_
                    refine X38.laload hx (j := (7 : Int32)) (v := (.long t_w_tree_a10_0_7)) (by rw [e38]; exact Ar39.1) (State.isArrayOf_alike hZ.alike Ar39.2.1) Ar39.2.2 (inb_of Sz39 ⟨by decide, by decide⟩) (Hh39.at (inb_of Sz39 ⟨by decide, by decide⟩) rfl) (g := (mkF m 19 #[.val (.ref a10_0), .val (.int (8 : Int32)), .val (.long (0 : Int64)), .second, .val (.int (8 : Int32))] [(.int (7 : Int32)), (.ref w_tree_a10_0), (.long (0 : Int64))])) rfl rfl (hb hby d10_19) _ ?_
                    refine XS.ladd X38.here hx rfl (hb hby d10_20) rfl ?_
                    show Steps p.tables e below (T38.setTop (mkF m 21 #[.val (.ref a10_0), .val (.int (8 : Int32)), .val (.long (0 : Int64)), .second, .val (.int (8 : Int32))] [(.long ((0 : Int64) + t_w_tree_a10_0_7))])) _
                    refine XS.lstoreN X38.here hx rfl (hb hby d10_21) rfl (l' := #[.val (.ref a10_0), .val (.int (8 : Int32)), .val (.long ((0 : Int64) + t_w_tree_a10_0_7)), .second, .val (.int (8 : Int32))]) rfl ?_
                    refine XS.iload X38.here hx rfl (hb hby d10_22) rfl ?_
                    refine XS.iload X38.here hx rfl (hb hby d10_24) rfl ?_
                    show Steps p.tables e below (T38.setTop (mkF m 26 #[.val (.ref a10_0), .val (.int (8 : Int32)), .val (.long ((0 : Int64) + t_w_tree_a10_0_7)), .second, .val (.int (8 : Int32))] [(.int (8 : Int32)), (.int (8 : Int32))])) _
                    refine XS.iload X38.here hx rfl (hb hby d10_26) rfl ?_
                    refine XS.ineg X38.here hx rfl (hb hby d10_28) rfl ?_
                    refine XS.iand X38.here hx rfl (hb hby d10_29) rfl ?_
                    show Steps p.tables e below (T38.setTop (mkF m 30 #[.val (.ref a10_0), .val (.int (8 : Int32)), .val (.long ((0 : Int64) + t_w_tree_a10_0_7)), .second, .val (.int (8 : Int32))] [(.int (8 : Int32)), (.int (8 : Int32))])) _
                    refine XS.isub X38.here hx rfl (hb hby d10_30) rfl ?_
                    refine XS.istore X38.here hx rfl (hb hby d10_31) rfl (l' := #[.val (.ref a10_0), .val (.int (8 : Int32)), .val (.long ((0 : Int64) + t_w_tree_a10_0_7)), .second, .val (.int (0 : Int32))]) rfl ?_
                    refine XS.goto X38.here hx rfl (pc0 := 33) (pc' := 5) rfl (hb hby d10_33) (by decide) (by decide) ?_
                    show Steps p.tables e below (T38.setTop (mkF m 5 #[.val (.ref a10_0), .val (.int (8 : Int32)), .val (.long ((0 : Int64) + t_w_tree_a10_0_7)), .second, .val (.int (0 : Int32))] [])) _
                    refine XS.iload X38.here hx rfl (hb hby d10_5) rfl ?_
                    show Steps p.tables e below (T38.setTop (mkF m 7 #[.val (.ref a10_0), .val (.int (8 : Int32)), .val (.long ((0 : Int64) + t_w_tree_a10_0_7)), .second, .val (.int (0 : Int32))] [(.int (0 : Int32))])) _
                    refine XS.ifYes X38.here hx rfl (pc0 := 7) (pc' := 36) rfl (hb hby d10_7) rfl ((if0 _ _).trans (flt (by decide : ¬ ((0 : Int32) < (0 : Int32)))).2.2.2) (by decide) (by decide) ?_
                    refine XS.lloadN X38.here hx rfl (hb hby d10_36) rfl ?_
                    show Steps p.tables e below (T38.setTop (mkF m 37 #[.val (.ref a10_0), .val (.int (8 : Int32)), .val (.long ((0 : Int64) + t_w_tree_a10_0_7)), .second, .val (.int (0 : Int32))] [(.long ((0 : Int64) + t_w_tree_a10_0_7))])) _
                    exact own_retJ X38 hx Bd.returns (hb hby d10_37) hr
                  · show Q_rm10_10 Z a10_0 p10_1 w_tree_a10_0 w_total_a10_0 kc_w_tree_a10_0 t_w_tree_a10_0_0 t_w_tree_a10_0_1 t_w_tree_a10_0_2 t_w_tree_a10_0_3 t_w_tree_a10_0_4 t_w_tree_a10_0_5 t_w_tree_a10_0_6 t_w_tree_a10_0_7 h0 n0 _ T38.heap _
                    rw [e38]
                    exact ⟨(congrArg (fun z => some (Value.long z)) ((if_neg hb1).trans ((if_neg hb2).trans ((if_neg hb5).trans ((if_neg hb8).trans ((if_neg hb14).trans ((if_neg hb17).trans ((if_neg hb23).trans (if_neg hb29)))))))).symm), N0, rfl⟩
theorem ef_rm10_11 (m : MethodId) (y0 : Addr) : entryFrame m #[(.ref y0), (.int (8 : Int32))] 5 = mkF m 0 #[.val (.ref y0), .val (.int (8 : Int32)), .unset, .unset, .unset] [] := by first | (simp [entryFrame, mkF, argsToLocals, Value.category]; done) | rfl
def Q_rm10_11 (Z : State) (a10_0 : Addr) (w_tree_a10_0 : Addr) (w_total_a10_0 : Int64) (kc_w_tree_a10_0 : ClassId) (t_w_tree_a10_0_0 : Int64) (t_w_tree_a10_0_1 : Int64) (t_w_tree_a10_0_2 : Int64) (t_w_tree_a10_0_3 : Int64) (t_w_tree_a10_0_4 : Int64) (t_w_tree_a10_0_5 : Int64) (t_w_tree_a10_0_6 : Int64) (t_w_tree_a10_0_7 : Int64) (h0 : Heap) (n0 : Nat) (v : Option Value) (h : Heap) (L : List Loc) : Prop := v = some (.long ((0 : Int64) + t_w_tree_a10_0_7)) ∧ Fr n0 L ∧ h = h0
set_option maxRecDepth 65536 in
set_option maxHeartbeats 40000000 in
theorem rm10_11 (l : Launch) (Z : State) (a0 : Array Value) (hw : ∀ d ∈ tables_1, d.before a0 Z = true) (ws : List Jvm.Cond) (a10_0 : Addr) (w_tree_a10_0 : Addr) (w_total_a10_0 : Int64) (kc_w_tree_a10_0 : ClassId) (t_w_tree_a10_0_0 : Int64) (t_w_tree_a10_0_1 : Int64) (t_w_tree_a10_0_2 : Int64) (t_w_tree_a10_0_3 : Int64) (t_w_tree_a10_0_4 : Int64) (t_w_tree_a10_0_5 : Int64) (t_w_tree_a10_0_6 : Int64) (t_w_tree_a10_0_7 : Int64) (h0 : Heap) (n0 : Nat) (Z0 : n0 ≤ h0.size) (E_a10_0 : Exa Z h0 a10_0 "com/example/motley/motley/CountTree") (F_tree_a10_0 : Fld Z h0 a10_0 "com/example/motley/motley/CountTree" "tree" "[J" (.ref w_tree_a10_0)) (F_size_a10_0 : Fld Z h0 a10_0 "com/example/motley/motley/CountTree" "size" "I" (.int (5 : Int32))) (F_total_a10_0 : Fld Z h0 a10_0 "com/example/motley/motley/CountTree" "total" "J" (.long w_total_a10_0)) (V_w_tree_a10_0 : Arv Z h0 w_tree_a10_0 kc_w_tree_a10_0 .long (8 : Int32) [(.long t_w_tree_a10_0_0), (.long t_w_tree_a10_0_1), (.long t_w_tree_a10_0_2), (.long t_w_tree_a10_0_3), (.long t_w_tree_a10_0_4), (.long t_w_tree_a10_0_5), (.long t_w_tree_a10_0_6), (.long t_w_tree_a10_0_7)] (.long (0 : Int64))) :
    MetFree l (⟨"com/example/motley/motley/CountTree", "sumBefore", "(I)J"⟩ : MethodName) (head1 (Jvm.Cond.code (⟨"com/example/motley/motley/CountTree", "sumBefore", "(I)J"⟩ : MethodName) prog_14_method_8_code 5 (some .long) :: ws) ({ frames := 0, cells := 0, slots := 0, locals := 0 } : Room)) (fun a U => a = #[(.ref a10_0), (.int (8 : Int32))] ∧ Z.Warmed39 U.vm ∧ U.heap = h0) (fun _ _ _ _ _ => True) (fun _ U o U' => ∃ v L, o = .returned v ∧ Q_rm10_11 Z a10_0 w_tree_a10_0 w_total_a10_0 kc_w_tree_a10_0 t_w_tree_a10_0_0 t_w_tree_a10_0_1 t_w_tree_a10_0_2 t_w_tree_a10_0_3 t_w_tree_a10_0_4 t_w_tree_a10_0_5 t_w_tree_a10_0_6 t_w_tree_a10_0_7 h0 n0 v U'.heap L ∧ FrameEnd U o U' L ({ frames := 0, cells := 0, slots := 0, locals := 0 } : Room).cells ({ frames := 0, cells := 0, slots := 0, locals := 0 } : Room).slots) := by
  refine MetFree.of_bodySF (plainFor_of_name pn_10) hisR ?_
  intro p e s m args below meth c s₁ Bd hml0 hP hK
  obtain ⟨rfl, hZ, hh⟩ := hP
  have hx := Bd.exec
  have hby := Bd.bytes
  have hml : c.maxLocals = 5 := hml0
  have hown : s.vm.findClass "com/example/motley/motley/CountTree" = some m.cls := findClass_of_methodNamed Bd.named
  have hnm := (name_of_methodNamed Bd.named Bd.method).1
  have X0 : Stand p l e ({ frames := 0, cells := 0, slots := 0, locals := 0 } : Room) s m #[(.ref a10_0), (.int (8 : Int32))] below meth c s₁ [] 0 0 := Stand.of_body Bd
  have e0 : s₁.heap = h0 := by rw [← hh, Bd.state]; rfl
  have N0 := Fr.nil n0
  have pre0 : ∀ t, Steps p.tables e below (s₁.setTop (mkF m 0 #[.val (.ref a10_0), .val (.int (8 : Int32)), .unset, .unset, .unset] [])) t → Steps p.tables e below (s₁.setTop (entryFrame m #[(.ref a10_0), (.int (8 : Int32))] 5)) t := fun t k => castTop (ef_rm10_11 m a10_0) k
  obtain ⟨T1, X1, e1, st1⟩ := getF X0 hx hZ hown (host := "") (Or.inl (ow16 hw)) Via.refl e0 F_tree_a10_0 (g := (mkF m 12 #[.val (.ref a10_0), .val (.int (8 : Int32)), .val (.long (0 : Int64)), .second, .val (.int (8 : Int32))] [(.ref a10_0), (.long (0 : Int64))])) rfl rfl (hb hby d10_12)
  obtain ⟨cl2, Ar2, qk2, Sz2, Nz2, Hh2, Gf2⟩ := id V_w_tree_a10_0
  obtain ⟨fs, hr, hrun, hended, hW, hsame⟩ := X1.leave (v := some (.long ((0 : Int64) + t_w_tree_a10_0_7))) (fun h => by rw [Bd.returns] at h; cases h)
  refine ⟨_, _, pre0 _ ?_, hrun, hended, _, _, rfl, ?_, ⟨_, rfl⟩, hW, hsame.mono (by decide) (by decide)⟩
  · show Steps p.tables e below (s₁.setTop (mkF m 0 #[.val (.ref a10_0), .val (.int (8 : Int32)), .unset, .unset, .unset] [])) _
    refine XS.lconst X0.here hx rfl (hb hby d10_0) ?_
    refine XS.lstoreN X0.here hx rfl (hb hby d10_1) rfl (l' := #[.val (.ref a10_0), .val (.int (8 : Int32)), .val (.long (0 : Int64)), .second, .unset]) rfl ?_
    refine XS.iloadN X0.here hx rfl (hb hby d10_2) rfl ?_
    show Steps p.tables e below (s₁.setTop (mkF m 3 #[.val (.ref a10_0), .val (.int (8 : Int32)), .val (.long (0 : Int64)), .second, .unset] [(.int (8 : Int32))])) _
    refine XS.istore X0.here hx rfl (hb hby d10_3) rfl (l' := #[.val (.ref a10_0), .val (.int (8 : Int32)), .val (.long (0 : Int64)), .second, .val (.int (8 : Int32))]) rfl ?_
    refine XS.iload X0.here hx rfl (hb hby d10_5) rfl ?_
    show Steps p.tables e below (s₁.setTop (mkF m 7 #[.val (.ref a10_0), .val (.int (8 : Int32)), .val (.long (0 : Int64)), .second, .val (.int (8 : Int32))] [(.int (8 : Int32))])) _
    refine XS.ifNo X0.here hx rfl (hb hby d10_7) rfl ((if0 _ _).trans (tlt (by decide : (0 : Int32) < (8 : Int32))).2.2.2) ?_
    refine XS.lloadN X0.here hx rfl (hb hby d10_10) rfl ?_
    refine XS.aloadN X0.here hx rfl (hb hby d10_11) rfl rfl ?_
    show Steps p.tables e below (s₁.setTop (mkF m 12 #[.val (.ref a10_0), .val (.int (8 : Int32)), .val (.long (0 : Int64)), .second, .val (.int (8 : Int32))] [(.ref a10_0), (.long (0 : Int64))])) _
    refine st1 _ ?_
    refine XS.iload X1.here hx rfl (hb hby d10_15) rfl ?_
    refine XS.iconst X1.here hx rfl (hb hby d10_17) ?_
    show Steps p.tables e below (T1.setTop (mkF m 18 #[.val (.ref a10_0), .val (.int (8 : Int32)), .val (.long (0 : Int64)), .second, .val (.int (8 : Int32))] [(.int (1 : Int32)), (.int (8 : Int32)), (.ref w_tree_a10_0), (.long (0 : Int64))])) _
    refine XS.isub X1.here hx rfl (hb hby d10_18) rfl ?_
    refine X1.laload hx (j := (7 : Int32)) (v := (.long t_w_tree_a10_0_7)) (by rw [e1]; exact Ar2.1) (State.isArrayOf_alike hZ.alike Ar2.2.1) Ar2.2.2 (inb_of Sz2 ⟨by decide, by decide⟩) (Hh2.at (inb_of Sz2 ⟨by decide, by decide⟩) rfl) (g := (mkF m 19 #[.val (.ref a10_0), .val (.int (8 : Int32)), .val (.long (0 : Int64)), .second, .val (.int (8 : Int32))] [(.int (7 : Int32)), (.ref w_tree_a10_0), (.long (0 : Int64))])) rfl rfl (hb hby d10_19) _ ?_
    refine XS.ladd X1.here hx rfl (hb hby d10_20) rfl ?_
    show Steps p.tables e below (T1.setTop (mkF m 21 #[.val (.ref a10_0), .val (.int (8 : Int32)), .val (.long (0 : Int64)), .second, .val (.int (8 : Int32))] [(.long ((0 : Int64) + t_w_tree_a10_0_7))])) _
    refine XS.lstoreN X1.here hx rfl (hb hby d10_21) rfl (l' := #[.val (.ref a10_0), .val (.int (8 : Int32)), .val (.long ((0 : Int64) + t_w_tree_a10_0_7)), .second, .val (.int (8 : Int32))]) rfl ?_
    refine XS.iload X1.here hx rfl (hb hby d10_22) rfl ?_
    refine XS.iload X1.here hx rfl (hb hby d10_24) rfl ?_
    show Steps p.tables e below (T1.setTop (mkF m 26 #[.val (.ref a10_0), .val (.int (8 : Int32)), .val (.long ((0 : Int64) + t_w_tree_a10_0_7)), .second, .val (.int (8 : Int32))] [(.int (8 : Int32)), (.int (8 : Int32))])) _
    refine XS.iload X1.here hx rfl (hb hby d10_26) rfl ?_
    refine XS.ineg X1.here hx rfl (hb hby d10_28) rfl ?_
    refine XS.iand X1.here hx rfl (hb hby d10_29) rfl ?_
    show Steps p.tables e below (T1.setTop (mkF m 30 #[.val (.ref a10_0), .val (.int (8 : Int32)), .val (.long ((0 : Int64) + t_w_tree_a10_0_7)), .second, .val (.int (8 : Int32))] [(.int (8 : Int32)), (.int (8 : Int32))])) _
    refine XS.isub X1.here hx rfl (hb hby d10_30) rfl ?_
    refine XS.istore X1.here hx rfl (hb hby d10_31) rfl (l' := #[.val (.ref a10_0), .val (.int (8 : Int32)), .val (.long ((0 : Int64) + t_w_tree_a10_0_7)), .second, .val (.int (0 : Int32))]) rfl ?_
    refine XS.goto X1.here hx rfl (pc0 := 33) (pc' := 5) rfl (hb hby d10_33) (by decide) (by decide) ?_
    show Steps p.tables e below (T1.setTop (mkF m 5 #[.val (.ref a10_0), .val (.int (8 : Int32)), .val (.long ((0 : Int64) + t_w_tree_a10_0_7)), .second, .val (.int (0 : Int32))] [])) _
    refine XS.iload X1.here hx rfl (hb hby d10_5) rfl ?_
    show Steps p.tables e below (T1.setTop (mkF m 7 #[.val (.ref a10_0), .val (.int (8 : Int32)), .val (.long ((0 : Int64) + t_w_tree_a10_0_7)), .second, .val (.int (0 : Int32))] [(.int (0 : Int32))])) _
    refine XS.ifYes X1.here hx rfl (pc0 := 7) (pc' := 36) rfl (hb hby d10_7) rfl ((if0 _ _).trans (flt (by decide : ¬ ((0 : Int32) < (0 : Int32)))).2.2.2) (by decide) (by decide) ?_
    refine XS.lloadN X1.here hx rfl (hb hby d10_36) rfl ?_
    show Steps p.tables e below (T1.setTop (mkF m 37 #[.val (.ref a10_0), .val (.int (8 : Int32)), .val (.long ((0 : Int64) + t_w_tree_a10_0_7)), .second, .val (.int (0 : Int32))] [(.long ((0 : Int64) + t_w_tree_a10_0_7))])) _
    exact own_retJ X1 hx Bd.returns (hb hby d10_37) hr
  · show Q_rm10_11 Z a10_0 w_tree_a10_0 w_total_a10_0 kc_w_tree_a10_0 t_w_tree_a10_0_0 t_w_tree_a10_0_1 t_w_tree_a10_0_2 t_w_tree_a10_0_3 t_w_tree_a10_0_4 t_w_tree_a10_0_5 t_w_tree_a10_0_6 t_w_tree_a10_0_7 h0 n0 _ T1.heap _
    rw [e1]
    exact ⟨rfl, N0, rfl⟩
theorem own_fin (q0_0 : Int64) (q0_1 : Int64) (q0_2 : Int64) (q0_3 : Int64) (p0_4 : Int32) (q0_5 : Int64) (x3 : Int64) (hx3 : x3 = (q0_0 &&& (288230376151711743 : Int64))) (x5 : Int64) (hx5 : x5 = (q0_1 &&& (288230376151711743 : Int64))) (x7 : Int64) (hx7 : x7 = (q0_2 &&& (288230376151711743 : Int64))) (x9 : Int64) (hx9 : x9 = (q0_3 &&& (288230376151711743 : Int64))) (x11 : Int64) (hx11 : x11 = ((q0_1 ^^^ q0_3) &&& (288230376151711743 : Int64))) (x13 : Int32) (hx13 : x13 = ((p0_4 &&& (2147483647 : Int32)) % (5 : Int32))) (x15 : Int32) (hx15 : x15 = ((((p0_4.toUInt32 >>> ((8 : Int32) &&& 31).toUInt32).toInt32) &&& (2147483647 : Int32)) % (9 : Int32))) (x17 : Int64) (hx17 : x17 = (q0_5 &&& (288230376151711743 : Int64))) (x20 : Int64) (hx20 : x20 = (if x13 = (0 : Int32) then x3 else (if x13 = (1 : Int32) then x5 else (if x13 = (2 : Int32) then x7 else (if x13 = (3 : Int32) then x9 else x11))))) (v25 : Int64) (hv25 : v25 = (if x13 = (0 : Int32) then x17 else x3)) (v30 : Int64) (hv30 : v30 = (if x13 = (1 : Int32) then x17 else x5)) (v35 : Int64) (hv35 : v35 = (if x13 = (2 : Int32) then x17 else x7)) (v40 : Int64) (hv40 : v40 = (if x13 = (3 : Int32) then x17 else x9)) (v45 : Int64) (hv45 : v45 = (if x13 = (4 : Int32) then x17 else x11)) (x48 : Int64) (hx48 : x48 = ((((v25 + v30) + v35) + v40) + v45)) (y54 : Int64) (hy54 : y54 = ((0 : Int64) + x3)) (y57 : Int64) (hy57 : y57 = (((0 : Int64) + x3) + x5)) (y58 : Int64) (hy58 : y58 = ((((0 : Int64) + x3) - (0 : Int64)) + x5)) (y62 : Int64) (hy62 : y62 = ((0 : Int64) + x7)) (y63 : Int64) (hy63 : y63 = ((y57 - (0 : Int64)) + x7)) (y65 : Int64) (hy65 : y65 = (y63 + x9)) (y70 : Int64) (hy70 : y70 = (((y57 + x7) + x9) + x11)) (y71 : Int64) (hy71 : y71 = ((0 : Int64) + x11)) (y72 : Int64) (hy72 : y72 = ((((y57 + x7) + x9) - (0 : Int64)) + x11)) (y74 : Int64) (hy74 : y74 = (if x13 = (0 : Int32) then (y54 + (x17 - x20)) else y54)) (y75 : Int64) (hy75 : y75 = (if x13 = (0 : Int32) then (y58 + (x17 - x20)) else (if x13 = (1 : Int32) then (y58 + (x17 - x20)) else y58))) (y76 : Int64) (hy76 : y76 = (if x13 = (0 : Int32) then y62 else (if x13 = (1 : Int32) then y62 else (if x13 = (2 : Int32) then (y62 + (x17 - x20)) else y62)))) (y77 : Int64) (hy77 : y77 = (if x13 = (0 : Int32) then (y65 + (x17 - x20)) else (if x13 = (1 : Int32) then (y65 + (x17 - x20)) else (if x13 = (2 : Int32) then (y65 + (x17 - x20)) else (if x13 = (3 : Int32) then (y65 + (x17 - x20)) else y65))))) (y78 : Int64) (hy78 : y78 = (if x13 = (0 : Int32) then y71 else (if x13 = (1 : Int32) then y71 else (if x13 = (2 : Int32) then y71 else (if x13 = (3 : Int32) then y71 else (y71 + (x17 - x20))))))) (y79 : Int64) (hy79 : y79 = (y72 + (x17 - x20))) (x81 : Int64) (hx81 : x81 = (y70 + (x17 - x20))) (v84 : Int32) (hv84 : v84 = (if x81 = x48 then (1 : Int32) else (0 : Int32))) (x88 : Int64) (hx88 : x88 = (if x13 = (0 : Int32) then (((0 : Int64) + y74) - (0 : Int64)) else (if x13 = (1 : Int32) then (((0 : Int64) + y75) - ((0 : Int64) + y74)) else (if x13 = (2 : Int32) then ((((0 : Int64) + y76) + y75) - ((0 : Int64) + y75)) else (if x13 = (3 : Int32) then (((0 : Int64) + y77) - (((0 : Int64) + y76) + y75)) else ((((0 : Int64) + y78) + y77) - ((0 : Int64) + y77))))))) (v91 : Int32) (hv91 : v91 = (if x88 = x17 then (1 : Int32) else (0 : Int32))) (x95 : Int64) (hx95 : x95 = (if x15 = (0 : Int32) then (0 : Int64) else (if x15 = (1 : Int32) then ((0 : Int64) + y74) else (if x15 = (2 : Int32) then ((0 : Int64) + y75) else (if x15 = (3 : Int32) then (((0 : Int64) + y76) + y75) else (if x15 = (4 : Int32) then ((0 : Int64) + y77) else (if x15 = (5 : Int32) then (((0 : Int64) + y78) + y77) else (if x15 = (6 : Int32) then (((0 : Int64) + y78) + y77) else (if x15 = (7 : Int32) then ((((0 : Int64) + (0 : Int64)) + y78) + y77) else ((0 : Int64) + y79)))))))))) (x97 : Int64) (hx97 : x97 = (if (4 : Int32) < x15 then ((if (3 : Int32) < x15 then ((if (2 : Int32) < x15 then ((if (1 : Int32) < x15 then ((if (0 : Int32) < x15 then ((0 : Int64) + v25) else (0 : Int64)) + v30) else (if (0 : Int32) < x15 then ((0 : Int64) + v25) else (0 : Int64))) + v35) else (if (1 : Int32) < x15 then ((if (0 : Int32) < x15 then ((0 : Int64) + v25) else (0 : Int64)) + v30) else (if (0 : Int32) < x15 then ((0 : Int64) + v25) else (0 : Int64)))) + v40) else (if (2 : Int32) < x15 then ((if (1 : Int32) < x15 then ((if (0 : Int32) < x15 then ((0 : Int64) + v25) else (0 : Int64)) + v30) else (if (0 : Int32) < x15 then ((0 : Int64) + v25) else (0 : Int64))) + v35) else (if (1 : Int32) < x15 then ((if (0 : Int32) < x15 then ((0 : Int64) + v25) else (0 : Int64)) + v30) else (if (0 : Int32) < x15 then ((0 : Int64) + v25) else (0 : Int64))))) + v45) else (if (3 : Int32) < x15 then ((if (2 : Int32) < x15 then ((if (1 : Int32) < x15 then ((if (0 : Int32) < x15 then ((0 : Int64) + v25) else (0 : Int64)) + v30) else (if (0 : Int32) < x15 then ((0 : Int64) + v25) else (0 : Int64))) + v35) else (if (1 : Int32) < x15 then ((if (0 : Int32) < x15 then ((0 : Int64) + v25) else (0 : Int64)) + v30) else (if (0 : Int32) < x15 then ((0 : Int64) + v25) else (0 : Int64)))) + v40) else (if (2 : Int32) < x15 then ((if (1 : Int32) < x15 then ((if (0 : Int32) < x15 then ((0 : Int64) + v25) else (0 : Int64)) + v30) else (if (0 : Int32) < x15 then ((0 : Int64) + v25) else (0 : Int64))) + v35) else (if (1 : Int32) < x15 then ((if (0 : Int32) < x15 then ((0 : Int64) + v25) else (0 : Int64)) + v30) else (if (0 : Int32) < x15 then ((0 : Int64) + v25) else (0 : Int64))))))) (v100 : Int32) (hv100 : v100 = (if x95 = x97 then (1 : Int32) else (0 : Int32))) (x104 : Int64) (hx104 : x104 = ((0 : Int64) + y79)) (v107 : Int32) (hv107 : v107 = (if x104 = x48 then (1 : Int32) else (0 : Int32))) (v118 : Int32) (hv118 : v118 = (if v84 = (0 : Int32) then (0 : Int32) else (if v91 = (0 : Int32) then (0 : Int32) else (if v100 = (0 : Int32) then (0 : Int32) else (if v107 = (0 : Int32) then (0 : Int32) else (1 : Int32)))))) : v118 = (1 : Int32) := by
  have hp := own_p5 p0_4 x13 hx13
  have hq := own_p9 ((p0_4.toUInt32 >>> ((8 : Int32) &&& 31).toUInt32).toInt32) x15 hx15
  clear hx13 hx15
  have e0 : x81 = x48 := by
    clear hv118 hv107 hv100 hv91 hv84
    simp only [hx20, hv25, hv30, hv35, hv40, hv45, hx48, hy54, hy57, hy58, hy62, hy63, hy65, hy70, hy71, hy72, hy74, hy75, hy76, hy77, hy78, hy79, hx81, hx88, hx95, hx97, hx104]
    rcases hp with rfl | rfl | rfl | rfl | rfl <;> first | (simp +decide only [↓reduceIte] <;> first | rfl | grind) | (simp +decide <;> grind) | grind
  have e1 : x88 = x17 := by
    clear hv118 hv107 hv100 hv91 hv84
    simp only [hx20, hv25, hv30, hv35, hv40, hv45, hx48, hy54, hy57, hy58, hy62, hy63, hy65, hy70, hy71, hy72, hy74, hy75, hy76, hy77, hy78, hy79, hx81, hx88, hx95, hx97, hx104]
    rcases hp with rfl | rfl | rfl | rfl | rfl <;> first | (simp +decide only [↓reduceIte] <;> first | rfl | grind) | (simp +decide <;> grind) | grind
  have e2 : x95 = x97 := by
    clear hv118 hv107 hv100 hv91 hv84
    simp only [hx20, hv25, hv30, hv35, hv40, hv45, hx48, hy54, hy57, hy58, hy62, hy63, hy65, hy70, hy71, hy72, hy74, hy75, hy76, hy77, hy78, hy79, hx81, hx88, hx95, hx97, hx104]
    rcases hq with rfl | rfl | rfl | rfl | rfl | rfl | rfl | rfl | rfl <;> (try simp +decide only [↓reduceIte]) <;> rcases hp with rfl | rfl | rfl | rfl | rfl <;> first | (simp +decide only [↓reduceIte] <;> first | rfl | grind) | (simp +decide <;> grind) | grind
  have e3 : x104 = x48 := by
    clear hv118 hv107 hv100 hv91 hv84
    simp only [hx20, hv25, hv30, hv35, hv40, hv45, hx48, hy54, hy57, hy58, hy62, hy63, hy65, hy70, hy71, hy72, hy74, hy75, hy76, hy77, hy78, hy79, hx81, hx88, hx95, hx97, hx104]
    rcases hp with rfl | rfl | rfl | rfl | rfl <;> first | (simp +decide only [↓reduceIte] <;> first | rfl | grind) | (simp +decide <;> grind) | grind
  rw [if_pos e0] at hv84
  rw [if_pos e1] at hv91
  rw [if_pos e2] at hv100
  rw [if_pos e3] at hv107
  rw [hv118, hv84, hv91, hv100, hv107]
  decide
theorem pn_0 : plainName "com/example/motley/motley/CountTreeAddPinLaw" = true := by first | (simp [plainName, overriddenIn]; done) | decide +kernel
theorem ef_rm0 (m : MethodId) (y0 : Int64) (y1 : Int64) (y2 : Int64) (y3 : Int64) (y4 : Int32) (y5 : Int64) : entryFrame m #[(.long y0), (.long y1), (.long y2), (.long y3), (.int y4), (.long y5)] maxLocals = mkF m 0 #[.val (.long y0), .second, .val (.long y1), .second, .val (.long y2), .second, .val (.long y3), .second, .val (.int y4), .val (.long y5), .second, .unset, .unset, .unset, .unset, .unset, .unset, .unset, .unset, .unset, .unset, .unset, .unset, .unset, .unset, .unset, .unset, .unset, .unset, .unset, .unset, .unset, .unset, .unset, .unset, .unset, .unset, .unset, .unset, .unset, .unset, .unset, .unset, .unset, .unset, .unset, .unset, .unset] [] := by first | (simp [entryFrame, mkF, argsToLocals, Value.category, maxLocals]; done) | rfl
def Q_rm0 (Z : State) (q0_0 : Int64) (q0_1 : Int64) (q0_2 : Int64) (q0_3 : Int64) (p0_4 : Int32) (q0_5 : Int64) (h0 : Heap) (n0 : Nat) (v : Option Value) (h : Heap) (L : List Loc) : Prop := v = some (.int (1 : Int32)) ∧ Fr n0 L
set_option maxRecDepth 65536 in
set_option maxHeartbeats 40000000 in
theorem rm0 (l : Launch) (Z : State) (a0 : Array Value) (hw : ∀ d ∈ tables_1, d.before a0 Z = true) (ws : List Jvm.Cond) (q0_0 : Int64) (q0_1 : Int64) (q0_2 : Int64) (q0_3 : Int64) (p0_4 : Int32) (q0_5 : Int64) (h0 : Heap) (n0 : Nat) (Z0 : n0 ≤ h0.size) :
    MetFree l x (head1 (Jvm.Cond.code x code maxLocals ret :: ws) room_1) (fun a U => a = #[(.long q0_0), (.long q0_1), (.long q0_2), (.long q0_3), (.int p0_4), (.long q0_5)] ∧ Z.Warmed39 U.vm ∧ U.heap = h0) (fun _ _ _ _ _ => True) (fun _ U o U' => ∃ v L, o = .returned v ∧ Q_rm0 Z q0_0 q0_1 q0_2 q0_3 p0_4 q0_5 h0 n0 v U'.heap L ∧ FrameEnd U o U' L 24 128) := by
  refine MetFree.of_bodySF (plainFor_of_name pn_0) hisR ?_
  intro p e s m args below meth c s₁ Bd hml0 hP hK
  obtain ⟨rfl, hZ, hh⟩ := hP
  have hx := Bd.exec
  have hby := Bd.bytes
  have hml : c.maxLocals = 48 := hml0
  have hown : s.vm.findClass "com/example/motley/motley/CountTreeAddPinLaw" = some m.cls := findClass_of_methodNamed Bd.named
  have hnm := (name_of_methodNamed Bd.named Bd.method).1
  have X0 : Stand p l e room_1 s m #[(.long q0_0), (.long q0_1), (.long q0_2), (.long q0_3), (.int p0_4), (.long q0_5)] below meth c s₁ [] 0 0 := Stand.of_body Bd
  have e0 : s₁.heap = h0 := by rw [← hh, Bd.state]; rfl
  have N0 := Fr.nil n0
  have pre0 : ∀ t, Steps p.tables e below (s₁.setTop (mkF m 0 #[.val (.long q0_0), .second, .val (.long q0_1), .second, .val (.long q0_2), .second, .val (.long q0_3), .second, .val (.int p0_4), .val (.long q0_5), .second, .unset, .unset, .unset, .unset, .unset, .unset, .unset, .unset, .unset, .unset, .unset, .unset, .unset, .unset, .unset, .unset, .unset, .unset, .unset, .unset, .unset, .unset, .unset, .unset, .unset, .unset, .unset, .unset, .unset, .unset, .unset, .unset, .unset, .unset, .unset, .unset, .unset] [])) t → Steps p.tables e below (s₁.setTop (entryFrame m #[(.long q0_0), (.long q0_1), (.long q0_2), (.long q0_3), (.int p0_4), (.long q0_5)] maxLocals)) t := fun t k => castTop (ef_rm0 m q0_0 q0_1 q0_2 q0_3 p0_4 q0_5) k
  let A1 : Array Slot := #[.val (.long q0_0), .second, .val (.long q0_1), .second, .val (.long q0_2), .second, .val (.long q0_3), .second, .val (.int p0_4), .val (.long q0_5), .second, .unset, .unset, .unset, .unset, .unset, .unset, .unset, .unset, .unset, .unset, .unset, .unset, .unset, .unset, .unset, .unset, .unset, .unset, .unset, .unset, .unset, .unset, .unset, .unset, .unset, .unset, .unset, .unset, .unset, .unset, .unset, .unset, .unset, .unset, .unset, .unset, .unset]
  let A2 : Array Slot := #[.val (.long q0_0), .second, .val (.long q0_1), .second, .val (.long q0_2), .second, .val (.long q0_3), .second, .val (.int p0_4), .val (.long q0_5), .second, .val (.long (288230376151711743 : Int64)), .second, .unset, .unset, .unset, .unset, .unset, .unset, .unset, .unset, .unset, .unset, .unset, .unset, .unset, .unset, .unset, .unset, .unset, .unset, .unset, .unset, .unset, .unset, .unset, .unset, .unset, .unset, .unset, .unset, .unset, .unset, .unset, .unset, .unset, .unset, .unset]
  obtain ⟨x3, hx3⟩ : ∃ z : Int64, z = (q0_0 &&& (288230376151711743 : Int64)) := ⟨_, rfl⟩
  let A4 : Array Slot := #[.val (.long q0_0), .second, .val (.long q0_1), .second, .val (.long q0_2), .second, .val (.long q0_3), .second, .val (.int p0_4), .val (.long q0_5), .second, .val (.long (288230376151711743 : Int64)), .second, .val (.long x3), .second, .unset, .unset, .unset, .unset, .unset, .unset, .unset, .unset, .unset, .unset, .unset, .unset, .unset, .unset, .unset, .unset, .unset, .unset, .unset, .unset, .unset, .unset, .unset, .unset, .unset, .unset, .unset, .unset, .unset, .unset, .unset, .unset, .unset]
  obtain ⟨x5, hx5⟩ : ∃ z : Int64, z = (q0_1 &&& (288230376151711743 : Int64)) := ⟨_, rfl⟩
  let A6 : Array Slot := #[.val (.long q0_0), .second, .val (.long q0_1), .second, .val (.long q0_2), .second, .val (.long q0_3), .second, .val (.int p0_4), .val (.long q0_5), .second, .val (.long (288230376151711743 : Int64)), .second, .val (.long x3), .second, .val (.long x5), .second, .unset, .unset, .unset, .unset, .unset, .unset, .unset, .unset, .unset, .unset, .unset, .unset, .unset, .unset, .unset, .unset, .unset, .unset, .unset, .unset, .unset, .unset, .unset, .unset, .unset, .unset, .unset, .unset, .unset, .unset, .unset]
  obtain ⟨x7, hx7⟩ : ∃ z : Int64, z = (q0_2 &&& (288230376151711743 : Int64)) := ⟨_, rfl⟩
  let A8 : Array Slot := #[.val (.long q0_0), .second, .val (.long q0_1), .second, .val (.long q0_2), .second, .val (.long q0_3), .second, .val (.int p0_4), .val (.long q0_5), .second, .val (.long (288230376151711743 : Int64)), .second, .val (.long x3), .second, .val (.long x5), .second, .val (.long x7), .second, .unset, .unset, .unset, .unset, .unset, .unset, .unset, .unset, .unset, .unset, .unset, .unset, .unset, .unset, .unset, .unset, .unset, .unset, .unset, .unset, .unset, .unset, .unset, .unset, .unset, .unset, .unset, .unset, .unset]
  obtain ⟨x9, hx9⟩ : ∃ z : Int64, z = (q0_3 &&& (288230376151711743 : Int64)) := ⟨_, rfl⟩
  let A10 : Array Slot := #[.val (.long q0_0), .second, .val (.long q0_1), .second, .val (.long q0_2), .second, .val (.long q0_3), .second, .val (.int p0_4), .val (.long q0_5), .second, .val (.long (288230376151711743 : Int64)), .second, .val (.long x3), .second, .val (.long x5), .second, .val (.long x7), .second, .val (.long x9), .second, .unset, .unset, .unset, .unset, .unset, .unset, .unset, .unset, .unset, .unset, .unset, .unset, .unset, .unset, .unset, .unset, .unset, .unset, .unset, .unset, .unset, .unset, .unset, .unset, .unset, .unset, .unset]
  obtain ⟨x11, hx11⟩ : ∃ z : Int64, z = ((q0_1 ^^^ q0_3) &&& (288230376151711743 : Int64)) := ⟨_, rfl⟩
  let A12 : Array Slot := #[.val (.long q0_0), .second, .val (.long q0_1), .second, .val (.long q0_2), .second, .val (.long q0_3), .second, .val (.int p0_4), .val (.long q0_5), .second, .val (.long (288230376151711743 : Int64)), .second, .val (.long x3), .second, .val (.long x5), .second, .val (.long x7), .second, .val (.long x9), .second, .val (.long x11), .second, .unset, .unset, .unset, .unset, .unset, .unset, .unset, .unset, .unset, .unset, .unset, .unset, .unset, .unset, .unset, .unset, .unset, .unset, .unset, .unset, .unset, .unset, .unset, .unset, .unset]
  obtain ⟨x13, hx13⟩ : ∃ z : Int32, z = ((p0_4 &&& (2147483647 : Int32)) % (5 : Int32)) := ⟨_, rfl⟩
  let A14 : Array Slot := #[.val (.long q0_0), .second, .val (.long q0_1), .second, .val (.long q0_2), .second, .val (.long q0_3), .second, .val (.int p0_4), .val (.long q0_5), .second, .val (.long (288230376151711743 : Int64)), .second, .val (.long x3), .second, .val (.long x5), .second, .val (.long x7), .second, .val (.long x9), .second, .val (.long x11), .second, .val (.int x13), .unset, .unset, .unset, .unset, .unset, .unset, .unset, .unset, .unset, .unset, .unset, .unset, .unset, .unset, .unset, .unset, .unset, .unset, .unset, .unset, .unset, .unset, .unset, .unset]
  obtain ⟨x15, hx15⟩ : ∃ z : Int32, z = ((((p0_4.toUInt32 >>> ((8 : Int32) &&& 31).toUInt32).toInt32) &&& (2147483647 : Int32)) % (9 : Int32)) := ⟨_, rfl⟩
  let A16 : Array Slot := #[.val (.long q0_0), .second, .val (.long q0_1), .second, .val (.long q0_2), .second, .val (.long q0_3), .second, .val (.int p0_4), .val (.long q0_5), .second, .val (.long (288230376151711743 : Int64)), .second, .val (.long x3), .second, .val (.long x5), .second, .val (.long x7), .second, .val (.long x9), .second, .val (.long x11), .second, .val (.int x13), .val (.int x15), .unset, .unset, .unset, .unset, .unset, .unset, .unset, .unset, .unset, .unset, .unset, .unset, .unset, .unset, .unset, .unset, .unset, .unset, .unset, .unset, .unset, .unset, .unset]
  obtain ⟨x17, hx17⟩ : ∃ z : Int64, z = (q0_5 &&& (288230376151711743 : Int64)) := ⟨_, rfl⟩
  let A18 : Array Slot := #[.val (.long q0_0), .second, .val (.long q0_1), .second, .val (.long q0_2), .second, .val (.long q0_3), .second, .val (.int p0_4), .val (.long q0_5), .second, .val (.long (288230376151711743 : Int64)), .second, .val (.long x3), .second, .val (.long x5), .second, .val (.long x7), .second, .val (.long x9), .second, .val (.long x11), .second, .val (.int x13), .val (.int x15), .val (.long x17), .second, .unset, .unset, .unset, .unset, .unset, .unset, .unset, .unset, .unset, .unset, .unset, .unset, .unset, .unset, .unset, .unset, .unset, .unset, .unset, .unset, .unset]
  obtain ⟨_, _, ⟨T19, L19, k19, n19⟩, -, X19, ⟨Lc19, hQ19, l19, y19, z19⟩, st19⟩ := Jvm.LawKit.callS X0 hx (y := (⟨"com/example/motley/motley/CountTreeAddPinLaw", "pick", "(IJJJJJ)J"⟩ : MethodName)) hown (mvT hZ (ow2 hw)) (mvT hZ (ow3 hw)) (mvT hZ (ow4 hw)) (mvT hZ (ow5 hw)) (by decide) (backOf (W := 0) (rm1 l Z a0 hw [] x13 x3 x5 x7 x9 x11 h0 n0 Z0 ) hZ (ow5 hw) (ow4 hw) (by decide) (by decide)) (g := (mkF m 81 A18 [(.long x11), (.long x9), (.long x7), (.long x5), (.long x3), (.int x13)])) rfl (by rw [hml]; rfl) (argsL := [(.int x13), (.long x3), (.long x5), (.long x7), (.long x9), (.long x11)]) (rest := []) (lenOf pd__IJJJJJ_J rfl) rfl (by show 2 * 0 + _ ≤ _; exact Nat.le_of_eq rfl) (hb hby at_81) (fun _ _ => ⟨rfl, e0, (by decide : 0 + 0 ≤ _), (by decide : 0 + 0 ≤ _)⟩)
  dsimp only [Pt.U, Pt.locs, Pt.cells, Pt.slots] at X19 l19 y19 z19 st19 hQ19
  subst l19 y19 z19
  obtain ⟨rfl, Nq19, e19⟩ := hQ19
  have N19 := Fr.app N0 Nq19
  obtain ⟨x20, hx20⟩ : ∃ z : Int64, z = (if x13 = (0 : Int32) then x3 else (if x13 = (1 : Int32) then x5 else (if x13 = (2 : Int32) then x7 else (if x13 = (3 : Int32) then x9 else x11)))) := ⟨_, rfl⟩
  let A21 : Array Slot := #[.val (.long q0_0), .second, .val (.long q0_1), .second, .val (.long q0_2), .second, .val (.long q0_3), .second, .val (.int p0_4), .val (.long q0_5), .second, .val (.long (288230376151711743 : Int64)), .second, .val (.long x3), .second, .val (.long x5), .second, .val (.long x7), .second, .val (.long x9), .second, .val (.long x11), .second, .val (.int x13), .val (.int x15), .val (.long x17), .second, .val (.long x20), .second, .unset, .unset, .unset, .unset, .unset, .unset, .unset, .unset, .unset, .unset, .unset, .unset, .unset, .unset, .unset, .unset, .unset, .unset, .unset]
  let A22 : Array Slot := #[.val (.long q0_0), .second, .val (.long q0_1), .second, .val (.long q0_2), .second, .val (.long q0_3), .second, .val (.int p0_4), .val (.long q0_5), .second, .val (.long (288230376151711743 : Int64)), .second, .val (.long x3), .second, .val (.long x5), .second, .val (.long x7), .second, .val (.long x9), .second, .val (.long x11), .second, .val (.int x13), .val (.int x15), .val (.long x17), .second, .val (.long x20), .second, .val (.long (x17 - x20)), .second, .unset, .unset, .unset, .unset, .unset, .unset, .unset, .unset, .unset, .unset, .unset, .unset, .unset, .unset, .unset, .unset, .unset]
  have G23 : ∀ t, Steps p.tables e below (T19.setTop (mkF m 95 A22 [(.int x13)])) t → Steps p.tables e below (s₁.setTop (mkF m 0 A1 [])) t := by
    intro t k
    show Steps p.tables e below (s₁.setTop (mkF m 0 A1 [])) _
    refine X0.ldc2Long hx hown (mvT hZ (ow0 hw)) (g := (mkF m 0 A1 [])) rfl (hb hby at_0) _ ?_
    refine XS.lstore X0.here hx rfl (hb hby at_3) rfl (l' := A2) rfl ?_
    refine XS.lloadN X0.here hx rfl (hb hby at_5) rfl ?_
    show Steps p.tables e below (s₁.setTop (mkF m 6 A2 [(.long q0_0)])) _
    refine XS.lload X0.here hx rfl (hb hby at_6) rfl ?_
    refine XS.land X0.here hx rfl (hb hby at_8) rfl ?_
    refine XS.lstore X0.here hx rfl (hb hby at_9) rfl (l' := #[.val (.long q0_0), .second, .val (.long q0_1), .second, .val (.long q0_2), .second, .val (.long q0_3), .second, .val (.int p0_4), .val (.long q0_5), .second, .val (.long (288230376151711743 : Int64)), .second, .val (.long (q0_0 &&& (288230376151711743 : Int64))), .second, .unset, .unset, .unset, .unset, .unset, .unset, .unset, .unset, .unset, .unset, .unset, .unset, .unset, .unset, .unset, .unset, .unset, .unset, .unset, .unset, .unset, .unset, .unset, .unset, .unset, .unset, .unset, .unset, .unset, .unset, .unset, .unset, .unset]) rfl ?_
    show Steps p.tables e below (s₁.setTop (mkF m 11 #[.val (.long q0_0), .second, .val (.long q0_1), .second, .val (.long q0_2), .second, .val (.long q0_3), .second, .val (.int p0_4), .val (.long q0_5), .second, .val (.long (288230376151711743 : Int64)), .second, .val (.long (q0_0 &&& (288230376151711743 : Int64))), .second, .unset, .unset, .unset, .unset, .unset, .unset, .unset, .unset, .unset, .unset, .unset, .unset, .unset, .unset, .unset, .unset, .unset, .unset, .unset, .unset, .unset, .unset, .unset, .unset, .unset, .unset, .unset, .unset, .unset, .unset, .unset, .unset, .unset] [])) _
    rw [← hx3]
    refine XS.lloadN X0.here hx rfl (hb hby at_11) rfl ?_
    refine XS.lload X0.here hx rfl (hb hby at_12) rfl ?_
    show Steps p.tables e below (s₁.setTop (mkF m 14 A4 [(.long (288230376151711743 : Int64)), (.long q0_1)])) _
    refine XS.land X0.here hx rfl (hb hby at_14) rfl ?_
    refine XS.lstore X0.here hx rfl (hb hby at_15) rfl (l' := #[.val (.long q0_0), .second, .val (.long q0_1), .second, .val (.long q0_2), .second, .val (.long q0_3), .second, .val (.int p0_4), .val (.long q0_5), .second, .val (.long (288230376151711743 : Int64)), .second, .val (.long x3), .second, .val (.long (q0_1 &&& (288230376151711743 : Int64))), .second, .unset, .unset, .unset, .unset, .unset, .unset, .unset, .unset, .unset, .unset, .unset, .unset, .unset, .unset, .unset, .unset, .unset, .unset, .unset, .unset, .unset, .unset, .unset, .unset, .unset, .unset, .unset, .unset, .unset, .unset, .unset]) rfl ?_
    show Steps p.tables e below (s₁.setTop (mkF m 17 #[.val (.long q0_0), .second, .val (.long q0_1), .second, .val (.long q0_2), .second, .val (.long q0_3), .second, .val (.int p0_4), .val (.long q0_5), .second, .val (.long (288230376151711743 : Int64)), .second, .val (.long x3), .second, .val (.long (q0_1 &&& (288230376151711743 : Int64))), .second, .unset, .unset, .unset, .unset, .unset, .unset, .unset, .unset, .unset, .unset, .unset, .unset, .unset, .unset, .unset, .unset, .unset, .unset, .unset, .unset, .unset, .unset, .unset, .unset, .unset, .unset, .unset, .unset, .unset, .unset, .unset] [])) _
    rw [← hx5]
    refine XS.lload X0.here hx rfl (hb hby at_17) rfl ?_
    refine XS.lload X0.here hx rfl (hb hby at_19) rfl ?_
    show Steps p.tables e below (s₁.setTop (mkF m 21 A6 [(.long (288230376151711743 : Int64)), (.long q0_2)])) _
    refine XS.land X0.here hx rfl (hb hby at_21) rfl ?_
    refine XS.lstore X0.here hx rfl (hb hby at_22) rfl (l' := #[.val (.long q0_0), .second, .val (.long q0_1), .second, .val (.long q0_2), .second, .val (.long q0_3), .second, .val (.int p0_4), .val (.long q0_5), .second, .val (.long (288230376151711743 : Int64)), .second, .val (.long x3), .second, .val (.long x5), .second, .val (.long (q0_2 &&& (288230376151711743 : Int64))), .second, .unset, .unset, .unset, .unset, .unset, .unset, .unset, .unset, .unset, .unset, .unset, .unset, .unset, .unset, .unset, .unset, .unset, .unset, .unset, .unset, .unset, .unset, .unset, .unset, .unset, .unset, .unset, .unset, .unset]) rfl ?_
    show Steps p.tables e below (s₁.setTop (mkF m 24 #[.val (.long q0_0), .second, .val (.long q0_1), .second, .val (.long q0_2), .second, .val (.long q0_3), .second, .val (.int p0_4), .val (.long q0_5), .second, .val (.long (288230376151711743 : Int64)), .second, .val (.long x3), .second, .val (.long x5), .second, .val (.long (q0_2 &&& (288230376151711743 : Int64))), .second, .unset, .unset, .unset, .unset, .unset, .unset, .unset, .unset, .unset, .unset, .unset, .unset, .unset, .unset, .unset, .unset, .unset, .unset, .unset, .unset, .unset, .unset, .unset, .unset, .unset, .unset, .unset, .unset, .unset] [])) _
    rw [← hx7]
    refine XS.lload X0.here hx rfl (hb hby at_24) rfl ?_
    refine XS.lload X0.here hx rfl (hb hby at_26) rfl ?_
    show Steps p.tables e below (s₁.setTop (mkF m 28 A8 [(.long (288230376151711743 : Int64)), (.long q0_3)])) _
    refine XS.land X0.here hx rfl (hb hby at_28) rfl ?_
    refine XS.lstore X0.here hx rfl (hb hby at_29) rfl (l' := #[.val (.long q0_0), .second, .val (.long q0_1), .second, .val (.long q0_2), .second, .val (.long q0_3), .second, .val (.int p0_4), .val (.long q0_5), .second, .val (.long (288230376151711743 : Int64)), .second, .val (.long x3), .second, .val (.long x5), .second, .val (.long x7), .second, .val (.long (q0_3 &&& (288230376151711743 : Int64))), .second, .unset, .unset, .unset, .unset, .unset, .unset, .unset, .unset, .unset, .unset, .unset, .unset, .unset, .unset, .unset, .unset, .unset, .unset, .unset, .unset, .unset, .unset, .unset, .unset, .unset, .unset, .unset]) rfl ?_
    show Steps p.tables e below (s₁.setTop (mkF m 31 #[.val (.long q0_0), .second, .val (.long q0_1), .second, .val (.long q0_2), .second, .val (.long q0_3), .second, .val (.int p0_4), .val (.long q0_5), .second, .val (.long (288230376151711743 : Int64)), .second, .val (.long x3), .second, .val (.long x5), .second, .val (.long x7), .second, .val (.long (q0_3 &&& (288230376151711743 : Int64))), .second, .unset, .unset, .unset, .unset, .unset, .unset, .unset, .unset, .unset, .unset, .unset, .unset, .unset, .unset, .unset, .unset, .unset, .unset, .unset, .unset, .unset, .unset, .unset, .unset, .unset, .unset, .unset] [])) _
    rw [← hx9]
    refine XS.lloadN X0.here hx rfl (hb hby at_31) rfl ?_
    refine XS.lload X0.here hx rfl (hb hby at_32) rfl ?_
    show Steps p.tables e below (s₁.setTop (mkF m 34 A10 [(.long q0_3), (.long q0_1)])) _
    refine XS.lxor X0.here hx rfl (hb hby at_34) rfl ?_
    refine XS.lload X0.here hx rfl (hb hby at_35) rfl ?_
    refine XS.land X0.here hx rfl (hb hby at_37) rfl ?_
    show Steps p.tables e below (s₁.setTop (mkF m 38 A10 [(.long ((q0_1 ^^^ q0_3) &&& (288230376151711743 : Int64)))])) _
    refine XS.lstore X0.here hx rfl (hb hby at_38) rfl (l' := #[.val (.long q0_0), .second, .val (.long q0_1), .second, .val (.long q0_2), .second, .val (.long q0_3), .second, .val (.int p0_4), .val (.long q0_5), .second, .val (.long (288230376151711743 : Int64)), .second, .val (.long x3), .second, .val (.long x5), .second, .val (.long x7), .second, .val (.long x9), .second, .val (.long ((q0_1 ^^^ q0_3) &&& (288230376151711743 : Int64))), .second, .unset, .unset, .unset, .unset, .unset, .unset, .unset, .unset, .unset, .unset, .unset, .unset, .unset, .unset, .unset, .unset, .unset, .unset, .unset, .unset, .unset, .unset, .unset, .unset, .unset]) rfl ?_
    show Steps p.tables e below (s₁.setTop (mkF m 40 #[.val (.long q0_0), .second, .val (.long q0_1), .second, .val (.long q0_2), .second, .val (.long q0_3), .second, .val (.int p0_4), .val (.long q0_5), .second, .val (.long (288230376151711743 : Int64)), .second, .val (.long x3), .second, .val (.long x5), .second, .val (.long x7), .second, .val (.long x9), .second, .val (.long ((q0_1 ^^^ q0_3) &&& (288230376151711743 : Int64))), .second, .unset, .unset, .unset, .unset, .unset, .unset, .unset, .unset, .unset, .unset, .unset, .unset, .unset, .unset, .unset, .unset, .unset, .unset, .unset, .unset, .unset, .unset, .unset, .unset, .unset] [])) _
    rw [← hx11]
    refine XS.iload X0.here hx rfl (hb hby at_40) rfl ?_
    refine X0.ldcInt hx hown (mvT hZ (ow1 hw)) (g := (mkF m 42 A12 [(.int p0_4)])) rfl (hb hby at_42) _ ?_
    show Steps p.tables e below (s₁.setTop (mkF m 44 A12 [(.int (2147483647 : Int32)), (.int p0_4)])) _
    refine XS.iand X0.here hx rfl (hb hby at_44) rfl ?_
    refine XS.iconst X0.here hx rfl (hb hby at_45) ?_
    refine iremM X0 hx rfl (hb hby at_46) rfl (by decide : ¬ ((5 : Int32) = (0 : Int32))) ?_
    show Steps p.tables e below (s₁.setTop (mkF m 47 A12 [(.int ((p0_4 &&& (2147483647 : Int32)) % (5 : Int32)))])) _
    refine XS.istore X0.here hx rfl (hb hby at_47) rfl (l' := #[.val (.long q0_0), .second, .val (.long q0_1), .second, .val (.long q0_2), .second, .val (.long q0_3), .second, .val (.int p0_4), .val (.long q0_5), .second, .val (.long (288230376151711743 : Int64)), .second, .val (.long x3), .second, .val (.long x5), .second, .val (.long x7), .second, .val (.long x9), .second, .val (.long x11), .second, .val (.int ((p0_4 &&& (2147483647 : Int32)) % (5 : Int32))), .unset, .unset, .unset, .unset, .unset, .unset, .unset, .unset, .unset, .unset, .unset, .unset, .unset, .unset, .unset, .unset, .unset, .unset, .unset, .unset, .unset, .unset, .unset, .unset]) rfl ?_
    show Steps p.tables e below (s₁.setTop (mkF m 49 #[.val (.long q0_0), .second, .val (.long q0_1), .second, .val (.long q0_2), .second, .val (.long q0_3), .second, .val (.int p0_4), .val (.long q0_5), .second, .val (.long (288230376151711743 : Int64)), .second, .val (.long x3), .second, .val (.long x5), .second, .val (.long x7), .second, .val (.long x9), .second, .val (.long x11), .second, .val (.int ((p0_4 &&& (2147483647 : Int32)) % (5 : Int32))), .unset, .unset, .unset, .unset, .unset, .unset, .unset, .unset, .unset, .unset, .unset, .unset, .unset, .unset, .unset, .unset, .unset, .unset, .unset, .unset, .unset, .unset, .unset, .unset] [])) _
    rw [← hx13]
    refine XS.iload X0.here hx rfl (hb hby at_49) rfl ?_
    refine XS.bipush X0.here hx rfl (hb hby at_51) ?_
    show Steps p.tables e below (s₁.setTop (mkF m 53 A14 [(.int (8 : Int32)), (.int p0_4)])) _
    refine XS.iushr X0.here hx rfl (hb hby at_53) rfl ?_
    refine X0.ldcInt hx hown (mvT hZ (ow1 hw)) (g := (mkF m 54 A14 [(.int ((p0_4.toUInt32 >>> ((8 : Int32) &&& 31).toUInt32).toInt32))])) rfl (hb hby at_54) _ ?_
    refine XS.iand X0.here hx rfl (hb hby at_56) rfl ?_
    show Steps p.tables e below (s₁.setTop (mkF m 57 A14 [(.int (((p0_4.toUInt32 >>> ((8 : Int32) &&& 31).toUInt32).toInt32) &&& (2147483647 : Int32)))])) _
    refine XS.bipush X0.here hx rfl (hb hby at_57) ?_
    refine iremM X0 hx rfl (hb hby at_59) rfl (by decide : ¬ ((9 : Int32) = (0 : Int32))) ?_
    refine XS.istore X0.here hx rfl (hb hby at_60) rfl (l' := #[.val (.long q0_0), .second, .val (.long q0_1), .second, .val (.long q0_2), .second, .val (.long q0_3), .second, .val (.int p0_4), .val (.long q0_5), .second, .val (.long (288230376151711743 : Int64)), .second, .val (.long x3), .second, .val (.long x5), .second, .val (.long x7), .second, .val (.long x9), .second, .val (.long x11), .second, .val (.int x13), .val (.int ((((p0_4.toUInt32 >>> ((8 : Int32) &&& 31).toUInt32).toInt32) &&& (2147483647 : Int32)) % (9 : Int32))), .unset, .unset, .unset, .unset, .unset, .unset, .unset, .unset, .unset, .unset, .unset, .unset, .unset, .unset, .unset, .unset, .unset, .unset, .unset, .unset, .unset, .unset, .unset]) rfl ?_
    show Steps p.tables e below (s₁.setTop (mkF m 62 #[.val (.long q0_0), .second, .val (.long q0_1), .second, .val (.long q0_2), .second, .val (.long q0_3), .second, .val (.int p0_4), .val (.long q0_5), .second, .val (.long (288230376151711743 : Int64)), .second, .val (.long x3), .second, .val (.long x5), .second, .val (.long x7), .second, .val (.long x9), .second, .val (.long x11), .second, .val (.int x13), .val (.int ((((p0_4.toUInt32 >>> ((8 : Int32) &&& 31).toUInt32).toInt32) &&& (2147483647 : Int32)) % (9 : Int32))), .unset, .unset, .unset, .unset, .unset, .unset, .unset, .unset, .unset, .unset, .unset, .unset, .unset, .unset, .unset, .unset, .unset, .unset, .unset, .unset, .unset, .unset, .unset] [])) _
    rw [← hx15]
    refine XS.lload X0.here hx rfl (hb hby at_62) rfl ?_
    refine XS.lload X0.here hx rfl (hb hby at_64) rfl ?_
    show Steps p.tables e below (s₁.setTop (mkF m 66 A16 [(.long (288230376151711743 : Int64)), (.long q0_5)])) _
    refine XS.land X0.here hx rfl (hb hby at_66) rfl ?_
    refine XS.lstore X0.here hx rfl (hb hby at_67) rfl (l' := #[.val (.long q0_0), .second, .val (.long q0_1), .second, .val (.long q0_2), .second, .val (.long q0_3), .second, .val (.int p0_4), .val (.long q0_5), .second, .val (.long (288230376151711743 : Int64)), .second, .val (.long x3), .second, .val (.long x5), .second, .val (.long x7), .second, .val (.long x9), .second, .val (.long x11), .second, .val (.int x13), .val (.int x15), .val (.long (q0_5 &&& (288230376151711743 : Int64))), .second, .unset, .unset, .unset, .unset, .unset, .unset, .unset, .unset, .unset, .unset, .unset, .unset, .unset, .unset, .unset, .unset, .unset, .unset, .unset, .unset, .unset]) rfl ?_
    show Steps p.tables e below (s₁.setTop (mkF m 69 #[.val (.long q0_0), .second, .val (.long q0_1), .second, .val (.long q0_2), .second, .val (.long q0_3), .second, .val (.int p0_4), .val (.long q0_5), .second, .val (.long (288230376151711743 : Int64)), .second, .val (.long x3), .second, .val (.long x5), .second, .val (.long x7), .second, .val (.long x9), .second, .val (.long x11), .second, .val (.int x13), .val (.int x15), .val (.long (q0_5 &&& (288230376151711743 : Int64))), .second, .unset, .unset, .unset, .unset, .unset, .unset, .unset, .unset, .unset, .unset, .unset, .unset, .unset, .unset, .unset, .unset, .unset, .unset, .unset, .unset, .unset] [])) _
    rw [← hx17]
    refine XS.iload X0.here hx rfl (hb hby at_69) rfl ?_
    refine XS.lload X0.here hx rfl (hb hby at_71) rfl ?_
    show Steps p.tables e below (s₁.setTop (mkF m 73 A18 [(.long x3), (.int x13)])) _
    refine XS.lload X0.here hx rfl (hb hby at_73) rfl ?_
    refine XS.lload X0.here hx rfl (hb hby at_75) rfl ?_
    refine XS.lload X0.here hx rfl (hb hby at_77) rfl ?_
    show Steps p.tables e below (s₁.setTop (mkF m 79 A18 [(.long x9), (.long x7), (.long x5), (.long x3), (.int x13)])) _
    refine XS.lload X0.here hx rfl (hb hby at_79) rfl ?_
    refine st19 _ ?_
    show Steps p.tables e below (T19.setTop (mkF m 84 #[.val (.long q0_0), .second, .val (.long q0_1), .second, .val (.long q0_2), .second, .val (.long q0_3), .second, .val (.int p0_4), .val (.long q0_5), .second, .val (.long (288230376151711743 : Int64)), .second, .val (.long x3), .second, .val (.long x5), .second, .val (.long x7), .second, .val (.long x9), .second, .val (.long x11), .second, .val (.int x13), .val (.int x15), .val (.long x17), .second, .unset, .unset, .unset, .unset, .unset, .unset, .unset, .unset, .unset, .unset, .unset, .unset, .unset, .unset, .unset, .unset, .unset, .unset, .unset, .unset, .unset] [(.long (if x13 = (0 : Int32) then x3 else (if x13 = (1 : Int32) then x5 else (if x13 = (2 : Int32) then x7 else (if x13 = (3 : Int32) then x9 else x11)))))])) _
    rw [← hx20]
    refine XS.lstore X19.here hx rfl (hb hby at_84) rfl (l' := A21) rfl ?_
    refine XS.lload X19.here hx rfl (hb hby at_86) rfl ?_
    show Steps p.tables e below (T19.setTop (mkF m 88 A21 [(.long x17)])) _
    refine XS.lload X19.here hx rfl (hb hby at_88) rfl ?_
    refine XS.lsub X19.here hx rfl (hb hby at_90) rfl ?_
    refine XS.lstore X19.here hx rfl (hb hby at_91) rfl (l' := A22) rfl ?_
    show Steps p.tables e below (T19.setTop (mkF m 93 A22 [])) _
    refine XS.iload X19.here hx rfl (hb hby at_93) rfl ?_
    exact k
  obtain ⟨v25, hv25⟩ : ∃ z : Int64, z = (if x13 = (0 : Int32) then x17 else x3) := ⟨_, rfl⟩
  obtain ⟨T26, Lo26, X26, N26, e26, G26⟩ := own_join X19 N19 (h := h0) (mkF m 95 A22 [(.int x13)]) (mkF m 105 A22 [(.long v25)]) (by
    by_cases h95_24 : x13 = (0 : Int32)
    · refine ⟨T19, _, X19, N19, e19, fun t k => ?_⟩
      rw [show v25 = x17 from hv25.trans (if_pos h95_24)] at k
      show Steps p.tables e below (T19.setTop (mkF m 95 A22 [(.int x13)])) _
      refine XS.ifNo X19.here hx rfl (hb hby at_95) rfl ((if0 _ _).trans (teq h95_24).2) ?_
      refine XS.lload X19.here hx rfl (hb hby at_98) rfl ?_
      refine XS.goto X19.here hx rfl (pc0 := 100) (pc' := 105) rfl (hb hby at_100) (by decide) (by decide) ?_
      exact k
    · refine ⟨T19, _, X19, N19, e19, fun t k => ?_⟩
      rw [show v25 = x3 from hv25.trans (if_neg h95_24)] at k
      show Steps p.tables e below (T19.setTop (mkF m 95 A22 [(.int x13)])) _
      refine XS.ifYes X19.here hx rfl (pc0 := 95) (pc' := 103) rfl (hb hby at_95) rfl ((if0 _ _).trans (feq h95_24).2) (by decide) (by decide) ?_
      refine XS.lload X19.here hx rfl (hb hby at_103) rfl ?_
      exact k)
  let A27 : Array Slot := #[.val (.long q0_0), .second, .val (.long q0_1), .second, .val (.long q0_2), .second, .val (.long q0_3), .second, .val (.int p0_4), .val (.long q0_5), .second, .val (.long (288230376151711743 : Int64)), .second, .val (.long x3), .second, .val (.long x5), .second, .val (.long x7), .second, .val (.long x9), .second, .val (.long x11), .second, .val (.int x13), .val (.int x15), .val (.long x17), .second, .val (.long x20), .second, .val (.long (x17 - x20)), .second, .val (.long v25), .second, .unset, .unset, .unset, .unset, .unset, .unset, .unset, .unset, .unset, .unset, .unset, .unset, .unset, .unset, .unset]
  have G28 : ∀ t, Steps p.tables e below (T26.setTop (mkF m 110 A27 [(.int (1 : Int32)), (.int x13)])) t → Steps p.tables e below (T26.setTop (mkF m 105 A22 [(.long v25)])) t := by
    intro t k
    show Steps p.tables e below (T26.setTop (mkF m 105 A22 [(.long v25)])) _
    refine XS.lstore X26.here hx rfl (hb hby at_105) rfl (l' := A27) rfl ?_
    refine XS.iload X26.here hx rfl (hb hby at_107) rfl ?_
    refine XS.iconst X26.here hx rfl (hb hby at_109) ?_
    exact k
  obtain ⟨v30, hv30⟩ : ∃ z : Int64, z = (if x13 = (1 : Int32) then x17 else x5) := ⟨_, rfl⟩
  obtain ⟨T31, Lo31, X31, N31, e31, G31⟩ := own_join X26 N26 (h := h0) (mkF m 110 A27 [(.int (1 : Int32)), (.int x13)]) (mkF m 120 A27 [(.long v30)]) (by
    by_cases h110_29 : x13 = (1 : Int32)
    · refine ⟨T26, _, X26, N26, e26, fun t k => ?_⟩
      rw [show v30 = x17 from hv30.trans (if_pos h110_29)] at k
      show Steps p.tables e below (T26.setTop (mkF m 110 A27 [(.int (1 : Int32)), (.int x13)])) _
      refine XS.icmpNo X26.here hx rfl (hb hby at_110) rfl (teq h110_29).2 ?_
      refine XS.lload X26.here hx rfl (hb hby at_113) rfl ?_
      refine XS.goto X26.here hx rfl (pc0 := 115) (pc' := 120) rfl (hb hby at_115) (by decide) (by decide) ?_
      exact k
    · refine ⟨T26, _, X26, N26, e26, fun t k => ?_⟩
      rw [show v30 = x5 from hv30.trans (if_neg h110_29)] at k
      show Steps p.tables e below (T26.setTop (mkF m 110 A27 [(.int (1 : Int32)), (.int x13)])) _
      refine XS.icmpYes X26.here hx rfl (pc0 := 110) (pc' := 118) rfl (hb hby at_110) rfl (feq h110_29).2 (by decide) (by decide) ?_
      refine XS.lload X26.here hx rfl (hb hby at_118) rfl ?_
      exact k)
  let A32 : Array Slot := #[.val (.long q0_0), .second, .val (.long q0_1), .second, .val (.long q0_2), .second, .val (.long q0_3), .second, .val (.int p0_4), .val (.long q0_5), .second, .val (.long (288230376151711743 : Int64)), .second, .val (.long x3), .second, .val (.long x5), .second, .val (.long x7), .second, .val (.long x9), .second, .val (.long x11), .second, .val (.int x13), .val (.int x15), .val (.long x17), .second, .val (.long x20), .second, .val (.long (x17 - x20)), .second, .val (.long v25), .second, .val (.long v30), .second, .unset, .unset, .unset, .unset, .unset, .unset, .unset, .unset, .unset, .unset, .unset, .unset, .unset]
  have G33 : ∀ t, Steps p.tables e below (T31.setTop (mkF m 125 A32 [(.int (2 : Int32)), (.int x13)])) t → Steps p.tables e below (T31.setTop (mkF m 120 A27 [(.long v30)])) t := by
    intro t k
    show Steps p.tables e below (T31.setTop (mkF m 120 A27 [(.long v30)])) _
    refine XS.lstore X31.here hx rfl (hb hby at_120) rfl (l' := A32) rfl ?_
    refine XS.iload X31.here hx rfl (hb hby at_122) rfl ?_
    refine XS.iconst X31.here hx rfl (hb hby at_124) ?_
    exact k
  obtain ⟨v35, hv35⟩ : ∃ z : Int64, z = (if x13 = (2 : Int32) then x17 else x7) := ⟨_, rfl⟩
  obtain ⟨T36, Lo36, X36, N36, e36, G36⟩ := own_join X31 N31 (h := h0) (mkF m 125 A32 [(.int (2 : Int32)), (.int x13)]) (mkF m 135 A32 [(.long v35)]) (by
    by_cases h125_34 : x13 = (2 : Int32)
    · refine ⟨T31, _, X31, N31, e31, fun t k => ?_⟩
      rw [show v35 = x17 from hv35.trans (if_pos h125_34)] at k
      show Steps p.tables e below (T31.setTop (mkF m 125 A32 [(.int (2 : Int32)), (.int x13)])) _
      refine XS.icmpNo X31.here hx rfl (hb hby at_125) rfl (teq h125_34).2 ?_
      refine XS.lload X31.here hx rfl (hb hby at_128) rfl ?_
      refine XS.goto X31.here hx rfl (pc0 := 130) (pc' := 135) rfl (hb hby at_130) (by decide) (by decide) ?_
      exact k
    · refine ⟨T31, _, X31, N31, e31, fun t k => ?_⟩
      rw [show v35 = x7 from hv35.trans (if_neg h125_34)] at k
      show Steps p.tables e below (T31.setTop (mkF m 125 A32 [(.int (2 : Int32)), (.int x13)])) _
      refine XS.icmpYes X31.here hx rfl (pc0 := 125) (pc' := 133) rfl (hb hby at_125) rfl (feq h125_34).2 (by decide) (by decide) ?_
      refine XS.lload X31.here hx rfl (hb hby at_133) rfl ?_
      exact k)
  let A37 : Array Slot := #[.val (.long q0_0), .second, .val (.long q0_1), .second, .val (.long q0_2), .second, .val (.long q0_3), .second, .val (.int p0_4), .val (.long q0_5), .second, .val (.long (288230376151711743 : Int64)), .second, .val (.long x3), .second, .val (.long x5), .second, .val (.long x7), .second, .val (.long x9), .second, .val (.long x11), .second, .val (.int x13), .val (.int x15), .val (.long x17), .second, .val (.long x20), .second, .val (.long (x17 - x20)), .second, .val (.long v25), .second, .val (.long v30), .second, .val (.long v35), .second, .unset, .unset, .unset, .unset, .unset, .unset, .unset, .unset, .unset, .unset, .unset]
  have G38 : ∀ t, Steps p.tables e below (T36.setTop (mkF m 140 A37 [(.int (3 : Int32)), (.int x13)])) t → Steps p.tables e below (T36.setTop (mkF m 135 A32 [(.long v35)])) t := by
    intro t k
    show Steps p.tables e below (T36.setTop (mkF m 135 A32 [(.long v35)])) _
    refine XS.lstore X36.here hx rfl (hb hby at_135) rfl (l' := A37) rfl ?_
    refine XS.iload X36.here hx rfl (hb hby at_137) rfl ?_
    refine XS.iconst X36.here hx rfl (hb hby at_139) ?_
    exact k
  obtain ⟨v40, hv40⟩ : ∃ z : Int64, z = (if x13 = (3 : Int32) then x17 else x9) := ⟨_, rfl⟩
  obtain ⟨T41, Lo41, X41, N41, e41, G41⟩ := own_join X36 N36 (h := h0) (mkF m 140 A37 [(.int (3 : Int32)), (.int x13)]) (mkF m 150 A37 [(.long v40)]) (by
    by_cases h140_39 : x13 = (3 : Int32)
    · refine ⟨T36, _, X36, N36, e36, fun t k => ?_⟩
      rw [show v40 = x17 from hv40.trans (if_pos h140_39)] at k
      show Steps p.tables e below (T36.setTop (mkF m 140 A37 [(.int (3 : Int32)), (.int x13)])) _
      refine XS.icmpNo X36.here hx rfl (hb hby at_140) rfl (teq h140_39).2 ?_
      refine XS.lload X36.here hx rfl (hb hby at_143) rfl ?_
      refine XS.goto X36.here hx rfl (pc0 := 145) (pc' := 150) rfl (hb hby at_145) (by decide) (by decide) ?_
      exact k
    · refine ⟨T36, _, X36, N36, e36, fun t k => ?_⟩
      rw [show v40 = x9 from hv40.trans (if_neg h140_39)] at k
      show Steps p.tables e below (T36.setTop (mkF m 140 A37 [(.int (3 : Int32)), (.int x13)])) _
      refine XS.icmpYes X36.here hx rfl (pc0 := 140) (pc' := 148) rfl (hb hby at_140) rfl (feq h140_39).2 (by decide) (by decide) ?_
      refine XS.lload X36.here hx rfl (hb hby at_148) rfl ?_
      exact k)
  let A42 : Array Slot := #[.val (.long q0_0), .second, .val (.long q0_1), .second, .val (.long q0_2), .second, .val (.long q0_3), .second, .val (.int p0_4), .val (.long q0_5), .second, .val (.long (288230376151711743 : Int64)), .second, .val (.long x3), .second, .val (.long x5), .second, .val (.long x7), .second, .val (.long x9), .second, .val (.long x11), .second, .val (.int x13), .val (.int x15), .val (.long x17), .second, .val (.long x20), .second, .val (.long (x17 - x20)), .second, .val (.long v25), .second, .val (.long v30), .second, .val (.long v35), .second, .val (.long v40), .second, .unset, .unset, .unset, .unset, .unset, .unset, .unset, .unset, .unset]
  have G43 : ∀ t, Steps p.tables e below (T41.setTop (mkF m 155 A42 [(.int (4 : Int32)), (.int x13)])) t → Steps p.tables e below (T41.setTop (mkF m 150 A37 [(.long v40)])) t := by
    intro t k
    show Steps p.tables e below (T41.setTop (mkF m 150 A37 [(.long v40)])) _
    refine XS.lstore X41.here hx rfl (hb hby at_150) rfl (l' := A42) rfl ?_
    refine XS.iload X41.here hx rfl (hb hby at_152) rfl ?_
    refine XS.iconst X41.here hx rfl (hb hby at_154) ?_
    exact k
  obtain ⟨v45, hv45⟩ : ∃ z : Int64, z = (if x13 = (4 : Int32) then x17 else x11) := ⟨_, rfl⟩
  obtain ⟨T46, Lo46, X46, N46, e46, G46⟩ := own_join X41 N41 (h := h0) (mkF m 155 A42 [(.int (4 : Int32)), (.int x13)]) (mkF m 165 A42 [(.long v45)]) (by
    by_cases h155_44 : x13 = (4 : Int32)
    · refine ⟨T41, _, X41, N41, e41, fun t k => ?_⟩
      rw [show v45 = x17 from hv45.trans (if_pos h155_44)] at k
      show Steps p.tables e below (T41.setTop (mkF m 155 A42 [(.int (4 : Int32)), (.int x13)])) _
      refine XS.icmpNo X41.here hx rfl (hb hby at_155) rfl (teq h155_44).2 ?_
      refine XS.lload X41.here hx rfl (hb hby at_158) rfl ?_
      refine XS.goto X41.here hx rfl (pc0 := 160) (pc' := 165) rfl (hb hby at_160) (by decide) (by decide) ?_
      exact k
    · refine ⟨T41, _, X41, N41, e41, fun t k => ?_⟩
      rw [show v45 = x11 from hv45.trans (if_neg h155_44)] at k
      show Steps p.tables e below (T41.setTop (mkF m 155 A42 [(.int (4 : Int32)), (.int x13)])) _
      refine XS.icmpYes X41.here hx rfl (pc0 := 155) (pc' := 163) rfl (hb hby at_155) rfl (feq h155_44).2 (by decide) (by decide) ?_
      refine XS.lload X41.here hx rfl (hb hby at_163) rfl ?_
      exact k)
  let A47 : Array Slot := #[.val (.long q0_0), .second, .val (.long q0_1), .second, .val (.long q0_2), .second, .val (.long q0_3), .second, .val (.int p0_4), .val (.long q0_5), .second, .val (.long (288230376151711743 : Int64)), .second, .val (.long x3), .second, .val (.long x5), .second, .val (.long x7), .second, .val (.long x9), .second, .val (.long x11), .second, .val (.int x13), .val (.int x15), .val (.long x17), .second, .val (.long x20), .second, .val (.long (x17 - x20)), .second, .val (.long v25), .second, .val (.long v30), .second, .val (.long v35), .second, .val (.long v40), .second, .val (.long v45), .second, .unset, .unset, .unset, .unset, .unset, .unset, .unset]
  obtain ⟨x48, hx48⟩ : ∃ z : Int64, z = ((((v25 + v30) + v35) + v40) + v45) := ⟨_, rfl⟩
  let A49 : Array Slot := #[.val (.long q0_0), .second, .val (.long q0_1), .second, .val (.long q0_2), .second, .val (.long q0_3), .second, .val (.int p0_4), .val (.long q0_5), .second, .val (.long (288230376151711743 : Int64)), .second, .val (.long x3), .second, .val (.long x5), .second, .val (.long x7), .second, .val (.long x9), .second, .val (.long x11), .second, .val (.int x13), .val (.int x15), .val (.long x17), .second, .val (.long x20), .second, .val (.long (x17 - x20)), .second, .val (.long v25), .second, .val (.long v30), .second, .val (.long v35), .second, .val (.long v40), .second, .val (.long v45), .second, .val (.long x48), .second, .unset, .unset, .unset, .unset, .unset]
  obtain ⟨T50, h50, X50, e50, E50, A50, D50, -, st50⟩ := newO X46 hx hZ hown (ow6 hw) (ow7 hw) (ow8 hw) e46 (g := (mkF m 183 A49 [])) rfl (hb hby at_183) (by decide) (by decide)
  obtain ⟨b50, g50⟩ : ∃ z, z = h0.size := ⟨_, rfl⟩
  rw [← g50] at A50 D50 st50
  have F_tree_b50 : Fld Z h50 b50 "com/example/motley/motley/CountTree" "tree" "[J" .null := D50 (Or.inl (ow17 hw)) (ty := (.array .long)) (by decide)
  have F_size_b50 : Fld Z h50 b50 "com/example/motley/motley/CountTree" "size" "I" (.int (0 : Int32)) := D50 (Or.inl (ow29 hw)) (ty := .int) (by decide)
  have F_total_b50 : Fld Z h50 b50 "com/example/motley/motley/CountTree" "total" "J" (.long (0 : Int64)) := D50 (Or.inl (ow51 hw)) (ty := .long) (by decide)
  have g_b50 : n0 ≤ b50 := Nat.le_trans Z0 (Nat.le_of_eq g50.symm)
  have sz_b50 : h0.size ≤ b50 := Nat.le_trans (Nat.le_refl _) (Nat.le_of_eq g50.symm)
  have K50 : Keep h0 h50 [] := (Keep.refl h0 []).ext E50
  have Z50 : n0 ≤ h50.size := Nat.le_trans Z0 K50.1
  obtain ⟨_, _, ⟨T51, L51, k51, n51⟩, -, X51, ⟨Lc51, hQ51, l51, y51, z51⟩, st51⟩ := X50.specialBack hx (y := (⟨"com/example/motley/motley/CountTree", "<init>", "()V"⟩ : MethodName)) rfl hown (mvT hZ (ow9 hw)) (mvT hZ (ow10 hw)) (mvT hZ (ow11 hw)) (by decide) (backOf (W := 1) (rm2_1 l Z a0 hw [] b50 h50 n0 Z50 A50 F_tree_b50 F_size_b50 F_total_b50 g_b50) hZ (ow11 hw) (ow8 hw) (by decide) (by decide)) (g := (mkF m 187 A49 [(.ref b50), (.ref b50)])) rfl (by rw [hml]; rfl) (Steps.refl _) (a := b50) (argsL := []) (rest := [(.ref b50)]) (lenOf pd___V rfl) rfl (by show 2 * 0 + _ ≤ _; exact Nat.le_of_eq rfl) (hb hby at_187) (fun _ _ => ⟨rfl, e50, (by decide : 1 + 1 ≤ _), (by decide : 3 + 0 ≤ _)⟩)
  dsimp only [Pt.U, Pt.locs, Pt.cells, Pt.slots] at X51 l51 y51 z51 st51 hQ51
  subst l51 y51 z51
  obtain ⟨bx2_0_51, kx2_0_51, rfl, Nq51, Kc51, P51_0, P51_1, P51_2, P51_3, P51_4, P51_5⟩ := hQ51
  have K51 : Keep h0 T51.heap [] := Keep.trans K50 Kc51 (allS (P := fun x => x ∈ ([] : List Addr) ∨ h0.size ≤ x) (Or.inr sz_b50) all0)
  have Z51 : n0 ≤ T51.heap.size := Nat.le_trans Z0 K51.1
  have g_bx2_0_51 : n0 ≤ bx2_0_51 := Nat.le_trans Z50 P51_0
  have sz_bx2_0_51 : h0.size ≤ bx2_0_51 := Nat.le_trans K50.1 P51_0
  have ne_b50_bx2_0_51 : b50 ≠ bx2_0_51 := Nat.ne_of_lt (Nat.lt_of_lt_of_le A50.lt P51_0)
  have N51 := Fr.app N46 Nq51
  let A52 : Array Slot := #[.val (.long q0_0), .second, .val (.long q0_1), .second, .val (.long q0_2), .second, .val (.long q0_3), .second, .val (.int p0_4), .val (.long q0_5), .second, .val (.long (288230376151711743 : Int64)), .second, .val (.long x3), .second, .val (.long x5), .second, .val (.long x7), .second, .val (.long x9), .second, .val (.long x11), .second, .val (.int x13), .val (.int x15), .val (.long x17), .second, .val (.long x20), .second, .val (.long (x17 - x20)), .second, .val (.long v25), .second, .val (.long v30), .second, .val (.long v35), .second, .val (.long v40), .second, .val (.long v45), .second, .val (.long x48), .second, .val (.ref b50), .unset, .unset, .unset, .unset]
  obtain ⟨cq53, kq53, q53a, q53b, q53c⟩ := isOf hZ rfl P51_1
  obtain ⟨_, _, ⟨T53, L53, k53, n53⟩, -, X53, ⟨Lc53, hQ53, l53, y53, z53⟩, st53⟩ := X51.virtualBack hx (y := (⟨"com/example/motley/motley/CountTree", "append", "(J)V"⟩ : MethodName)) (z := (⟨"com/example/motley/motley/CountTree", "append", "(J)V"⟩ : MethodName)) hown (mvT hZ (ow18 hw)) (mvT hZ (ow19 hw)) (notFace_of_selects (args := #[]) (mvT hZ (ow21 hw))) (mvT hZ (ow21 hw)) (mvT hZ (ow20 hw)) (by decide) (backOf (W := 0) (rm4_1 l Z a0 hw [] b50 x3 bx2_0_51 kx2_0_51 T51.heap n0 Z51 P51_1 P51_2 P51_3 P51_4 P51_5 g_b50) hZ (ow22 hw) (ow8 hw) (by decide) (by decide)) q53a q53c (g := (mkF m 196 A52 [(.long x3), (.ref b50)])) rfl (by rw [hml]; rfl) (Steps.refl _) (argsL := [(.long x3)]) (rest := []) (lenOf pd__J_V rfl) rfl (by show 2 * 0 + _ ≤ _; exact Nat.le_of_eq rfl) (hb hby at_196) (fun _ _ => ⟨rfl, rfl, (by decide : 2 + 1 ≤ _), (by decide : 3 + 1 ≤ _)⟩)
  dsimp only [Pt.U, Pt.locs, Pt.cells, Pt.slots] at X53 l53 y53 z53 st53 hQ53
  subst l53 y53 z53
  obtain ⟨bx4_0_53, kx4_0_53, rfl, Nq53, Kc53, P53_0, P53_1, P53_2, P53_3, P53_4, P53_5⟩ := hQ53
  have K53 : Keep h0 T53.heap [] := Keep.trans K51 Kc53 (allS (P := fun x => x ∈ ([] : List Addr) ∨ h0.size ≤ x) (Or.inr sz_b50) all0)
  have Z53 : n0 ≤ T53.heap.size := Nat.le_trans Z0 K53.1
  have g_bx4_0_53 : n0 ≤ bx4_0_53 := Nat.le_trans Z51 P53_0
  have sz_bx4_0_53 : h0.size ≤ bx4_0_53 := Nat.le_trans K51.1 P53_0
  have ne_b50_bx4_0_53 : b50 ≠ bx4_0_53 := Nat.ne_of_lt (Nat.lt_of_lt_of_le P51_1.lt P53_0)
  have ne_bx2_0_51_bx4_0_53 : bx2_0_51 ≠ bx4_0_53 := Nat.ne_of_lt (Nat.lt_of_lt_of_le P51_5.lt P53_0)
  obtain ⟨y54, hy54⟩ : ∃ z : Int64, z = ((0 : Int64) + x3) := ⟨_, rfl⟩
  rw [← hy54] at P53_5
  have N53 := Fr.app N51 Nq53
  have f56 := (P51_5.keep Kc53 (ninS (Ne.symm ne_b50_bx2_0_51) nin0))
  obtain ⟨cq55, kq55, q55a, q55b, q55c⟩ := isOf hZ rfl P53_1
  obtain ⟨_, _, ⟨T55, L55, k55, n55⟩, -, X55, ⟨Lc55, hQ55, l55, y55, z55⟩, st55⟩ := X53.virtualBack hx (y := (⟨"com/example/motley/motley/CountTree", "append", "(J)V"⟩ : MethodName)) (z := (⟨"com/example/motley/motley/CountTree", "append", "(J)V"⟩ : MethodName)) hown (mvT hZ (ow18 hw)) (mvT hZ (ow19 hw)) (notFace_of_selects (args := #[]) (mvT hZ (ow21 hw))) (mvT hZ (ow21 hw)) (mvT hZ (ow20 hw)) (by decide) (backOf (W := 0) (rm4_2 l Z a0 hw [] b50 x5 bx4_0_53 ((0 : Int64) + x3) kx4_0_53 y54 T53.heap n0 Z53 P53_1 P53_2 P53_3 P53_4 P53_5 g_b50) hZ (ow22 hw) (ow8 hw) (by decide) (by decide)) q55a q55c (g := (mkF m 203 A52 [(.long x5), (.ref b50)])) rfl (by rw [hml]; rfl) (Steps.refl _) (argsL := [(.long x5)]) (rest := []) (lenOf pd__J_V rfl) rfl (by show 2 * 0 + _ ≤ _; exact Nat.le_of_eq rfl) (hb hby at_203) (fun _ _ => ⟨rfl, rfl, (by decide : 3 + 1 ≤ _), (by decide : 4 + 2 ≤ _)⟩)
  dsimp only [Pt.U, Pt.locs, Pt.cells, Pt.slots] at X55 l55 y55 z55 st55 hQ55
  subst l55 y55 z55
  obtain ⟨bx4_0_55, kx4_0_55, rfl, Nq55, Kc55, P55_0, P55_1, P55_2, P55_3, P55_4, P55_5⟩ := hQ55
  have K55 : Keep h0 T55.heap [] := Keep.trans K53 Kc55 (allS (P := fun x => x ∈ ([] : List Addr) ∨ h0.size ≤ x) (Or.inr sz_b50) all0)
  have Z55 : n0 ≤ T55.heap.size := Nat.le_trans Z0 K55.1
  have g_bx4_0_55 : n0 ≤ bx4_0_55 := Nat.le_trans Z53 P55_0
  have sz_bx4_0_55 : h0.size ≤ bx4_0_55 := Nat.le_trans K53.1 P55_0
  have ne_b50_bx4_0_55 : b50 ≠ bx4_0_55 := Nat.ne_of_lt (Nat.lt_of_lt_of_le P53_1.lt P55_0)
  have ne_bx2_0_51_bx4_0_55 : bx2_0_51 ≠ bx4_0_55 := Nat.ne_of_lt (Nat.lt_of_lt_of_le f56.lt P55_0)
  have ne_bx4_0_53_bx4_0_55 : bx4_0_53 ≠ bx4_0_55 := Nat.ne_of_lt (Nat.lt_of_lt_of_le P53_5.lt P55_0)
  obtain ⟨y57, hy57⟩ : ∃ z : Int64, z = (((0 : Int64) + x3) + x5) := ⟨_, rfl⟩
  rw [← hy57] at P55_4
  obtain ⟨y58, hy58⟩ : ∃ z : Int64, z = ((((0 : Int64) + x3) - (0 : Int64)) + x5) := ⟨_, rfl⟩
  rw [← hy58] at P55_5
  have N55 := Fr.app N53 Nq55
  have f60 := (f56.keep Kc55 (ninS (Ne.symm ne_b50_bx2_0_51) nin0))
  have f61 := (P53_5.keep Kc55 (ninS (Ne.symm ne_b50_bx4_0_53) nin0))
  obtain ⟨cq59, kq59, q59a, q59b, q59c⟩ := isOf hZ rfl P55_1
  obtain ⟨_, _, ⟨T59, L59, k59, n59⟩, -, X59, ⟨Lc59, hQ59, l59, y59, z59⟩, st59⟩ := X55.virtualBack hx (y := (⟨"com/example/motley/motley/CountTree", "append", "(J)V"⟩ : MethodName)) (z := (⟨"com/example/motley/motley/CountTree", "append", "(J)V"⟩ : MethodName)) hown (mvT hZ (ow18 hw)) (mvT hZ (ow19 hw)) (notFace_of_selects (args := #[]) (mvT hZ (ow21 hw))) (mvT hZ (ow21 hw)) (mvT hZ (ow20 hw)) (by decide) (backOf (W := 0) (rm4_3 l Z a0 hw [] b50 x7 bx4_0_55 y57 kx4_0_55 y54 y58 T55.heap n0 Z55 P55_1 P55_2 P55_3 P55_4 P55_5 g_b50) hZ (ow22 hw) (ow8 hw) (by decide) (by decide)) q59a q59c (g := (mkF m 210 A52 [(.long x7), (.ref b50)])) rfl (by rw [hml]; rfl) (Steps.refl _) (argsL := [(.long x7)]) (rest := []) (lenOf pd__J_V rfl) rfl (by show 2 * 0 + _ ≤ _; exact Nat.le_of_eq rfl) (hb hby at_210) (fun _ _ => ⟨rfl, rfl, (by decide : 4 + 1 ≤ _), (by decide : 6 + 4 ≤ _)⟩)
  dsimp only [Pt.U, Pt.locs, Pt.cells, Pt.slots] at X59 l59 y59 z59 st59 hQ59
  subst l59 y59 z59
  obtain ⟨bx4_0_59, kx4_0_59, rfl, Nq59, Kc59, P59_0, P59_1, P59_2, P59_3, P59_4, P59_5⟩ := hQ59
  have K59 : Keep h0 T59.heap [] := Keep.trans K55 Kc59 (allS (P := fun x => x ∈ ([] : List Addr) ∨ h0.size ≤ x) (Or.inr sz_b50) all0)
  have Z59 : n0 ≤ T59.heap.size := Nat.le_trans Z0 K59.1
  have g_bx4_0_59 : n0 ≤ bx4_0_59 := Nat.le_trans Z55 P59_0
  have sz_bx4_0_59 : h0.size ≤ bx4_0_59 := Nat.le_trans K55.1 P59_0
  have ne_b50_bx4_0_59 : b50 ≠ bx4_0_59 := Nat.ne_of_lt (Nat.lt_of_lt_of_le P55_1.lt P59_0)
  have ne_bx2_0_51_bx4_0_59 : bx2_0_51 ≠ bx4_0_59 := Nat.ne_of_lt (Nat.lt_of_lt_of_le f60.lt P59_0)
  have ne_bx4_0_53_bx4_0_59 : bx4_0_53 ≠ bx4_0_59 := Nat.ne_of_lt (Nat.lt_of_lt_of_le f61.lt P59_0)
  have ne_bx4_0_55_bx4_0_59 : bx4_0_55 ≠ bx4_0_59 := Nat.ne_of_lt (Nat.lt_of_lt_of_le P55_5.lt P59_0)
  obtain ⟨y62, hy62⟩ : ∃ z : Int64, z = ((0 : Int64) + x7) := ⟨_, rfl⟩
  rw [← hy62] at P59_5
  obtain ⟨y63, hy63⟩ : ∃ z : Int64, z = ((y57 - (0 : Int64)) + x7) := ⟨_, rfl⟩
  rw [← hy63] at P59_5
  have N59 := Fr.app N55 Nq59
  obtain ⟨cq64, kq64, q64a, q64b, q64c⟩ := isOf hZ rfl P59_1
  obtain ⟨_, _, ⟨T64, L64, k64, n64⟩, -, X64, ⟨Lc64, hQ64, l64, y64, z64⟩, st64⟩ := X59.virtualBack hx (y := (⟨"com/example/motley/motley/CountTree", "append", "(J)V"⟩ : MethodName)) (z := (⟨"com/example/motley/motley/CountTree", "append", "(J)V"⟩ : MethodName)) hown (mvT hZ (ow18 hw)) (mvT hZ (ow19 hw)) (notFace_of_selects (args := #[]) (mvT hZ (ow21 hw))) (mvT hZ (ow21 hw)) (mvT hZ (ow20 hw)) (by decide) (backOf (W := 0) (rm4_4 l Z a0 hw [] b50 x9 bx4_0_59 (y57 + x7) kx4_0_59 y54 y58 y62 y63 T59.heap n0 Z59 P59_1 P59_2 P59_3 P59_4 P59_5 g_b50 (Ne.symm ne_b50_bx4_0_59) g_bx4_0_59) hZ (ow22 hw) (ow8 hw) (by decide) (by decide)) q64a q64c (g := (mkF m 217 A52 [(.long x9), (.ref b50)])) rfl (by rw [hml]; rfl) (Steps.refl _) (argsL := [(.long x9)]) (rest := []) (lenOf pd__J_V rfl) rfl (by show 2 * 0 + _ ≤ _; exact Nat.le_of_eq rfl) (hb hby at_217) (fun _ _ => ⟨rfl, rfl, (by decide : 5 + 0 ≤ _), (by decide : 10 + 0 ≤ _)⟩)
  dsimp only [Pt.U, Pt.locs, Pt.cells, Pt.slots] at X64 l64 y64 z64 st64 hQ64
  subst l64 y64 z64
  obtain ⟨rfl, Nq64, Kc64, P64_0, P64_1, P64_2, P64_3, P64_4⟩ := hQ64
  have K64 : Keep h0 T64.heap [] := Keep.trans K59 Kc64 (allS (P := fun x => x ∈ ([] : List Addr) ∨ h0.size ≤ x) (Or.inr sz_b50) (allS (P := fun x => x ∈ ([] : List Addr) ∨ h0.size ≤ x) (Or.inr sz_bx4_0_59) all0))
  have Z64 : n0 ≤ T64.heap.size := Nat.le_trans Z0 K64.1
  obtain ⟨y65, hy65⟩ : ∃ z : Int64, z = (y63 + x9) := ⟨_, rfl⟩
  rw [← hy65] at P64_4
  have N64 := Fr.app N59 Nq64
  have f67 := ((f60.keep Kc59 (ninS (Ne.symm ne_b50_bx2_0_51) nin0)).keep Kc64 (ninS (Ne.symm ne_b50_bx2_0_51) (ninS ne_bx2_0_51_bx4_0_59 nin0)))
  have f68 := ((f61.keep Kc59 (ninS (Ne.symm ne_b50_bx4_0_53) nin0)).keep Kc64 (ninS (Ne.symm ne_b50_bx4_0_53) (ninS ne_bx4_0_53_bx4_0_59 nin0)))
  have f69 := ((P55_5.keep Kc59 (ninS (Ne.symm ne_b50_bx4_0_55) nin0)).keep Kc64 (ninS (Ne.symm ne_b50_bx4_0_55) (ninS ne_bx4_0_55_bx4_0_59 nin0)))
  obtain ⟨cq66, kq66, q66a, q66b, q66c⟩ := isOf hZ rfl P64_0
  obtain ⟨_, _, ⟨T66, L66, k66, n66⟩, -, X66, ⟨Lc66, hQ66, l66, y66, z66⟩, st66⟩ := X64.virtualBack hx (y := (⟨"com/example/motley/motley/CountTree", "append", "(J)V"⟩ : MethodName)) (z := (⟨"com/example/motley/motley/CountTree", "append", "(J)V"⟩ : MethodName)) hown (mvT hZ (ow18 hw)) (mvT hZ (ow19 hw)) (notFace_of_selects (args := #[]) (mvT hZ (ow21 hw))) (mvT hZ (ow21 hw)) (mvT hZ (ow20 hw)) (by decide) (backOf (W := 0) (rm4_5 l Z a0 hw [] b50 x11 bx4_0_59 ((y57 + x7) + x9) kx4_0_59 y54 y58 y62 y65 T64.heap n0 Z64 P64_0 P64_1 P64_2 P64_3 P64_4 g_b50) hZ (ow22 hw) (ow8 hw) (by decide) (by decide)) q66a q66c (g := (mkF m 224 A52 [(.long x11), (.ref b50)])) rfl (by rw [hml]; rfl) (Steps.refl _) (argsL := [(.long x11)]) (rest := []) (lenOf pd__J_V rfl) rfl (by show 2 * 0 + _ ≤ _; exact Nat.le_of_eq rfl) (hb hby at_224) (fun _ _ => ⟨rfl, rfl, (by decide : 5 + 1 ≤ _), (by decide : 10 + 8 ≤ _)⟩)
  dsimp only [Pt.U, Pt.locs, Pt.cells, Pt.slots] at X66 l66 y66 z66 st66 hQ66
  subst l66 y66 z66
  obtain ⟨bx4_0_66, kx4_0_66, rfl, Nq66, Kc66, P66_0, P66_1, P66_2, P66_3, P66_4, P66_5⟩ := hQ66
  have K66 : Keep h0 T66.heap [] := Keep.trans K64 Kc66 (allS (P := fun x => x ∈ ([] : List Addr) ∨ h0.size ≤ x) (Or.inr sz_b50) all0)
  have Z66 : n0 ≤ T66.heap.size := Nat.le_trans Z0 K66.1
  have g_bx4_0_66 : n0 ≤ bx4_0_66 := Nat.le_trans Z64 P66_0
  have sz_bx4_0_66 : h0.size ≤ bx4_0_66 := Nat.le_trans K64.1 P66_0
  have ne_b50_bx4_0_66 : b50 ≠ bx4_0_66 := Nat.ne_of_lt (Nat.lt_of_lt_of_le P64_0.lt P66_0)
  have ne_bx2_0_51_bx4_0_66 : bx2_0_51 ≠ bx4_0_66 := Nat.ne_of_lt (Nat.lt_of_lt_of_le f67.lt P66_0)
  have ne_bx4_0_53_bx4_0_66 : bx4_0_53 ≠ bx4_0_66 := Nat.ne_of_lt (Nat.lt_of_lt_of_le f68.lt P66_0)
  have ne_bx4_0_55_bx4_0_66 : bx4_0_55 ≠ bx4_0_66 := Nat.ne_of_lt (Nat.lt_of_lt_of_le f69.lt P66_0)
  have ne_bx4_0_59_bx4_0_66 : bx4_0_59 ≠ bx4_0_66 := Nat.ne_of_lt (Nat.lt_of_lt_of_le P64_4.lt P66_0)
  obtain ⟨y70, hy70⟩ : ∃ z : Int64, z = (((y57 + x7) + x9) + x11) := ⟨_, rfl⟩
  rw [← hy70] at P66_4
  obtain ⟨y71, hy71⟩ : ∃ z : Int64, z = ((0 : Int64) + x11) := ⟨_, rfl⟩
  rw [← hy71] at P66_5
  obtain ⟨y72, hy72⟩ : ∃ z : Int64, z = ((((y57 + x7) + x9) - (0 : Int64)) + x11) := ⟨_, rfl⟩
  rw [← hy72] at P66_5
  have N66 := Fr.app N64 Nq66
  obtain ⟨cq73, kq73, q73a, q73b, q73c⟩ := isOf hZ rfl P66_1
  obtain ⟨_, _, ⟨T73, L73, k73, n73⟩, -, X73, ⟨Lc73, hQ73, l73, y73, z73⟩, st73⟩ := X66.virtualBack hx (y := (⟨"com/example/motley/motley/CountTree", "add", "(IJ)V"⟩ : MethodName)) (z := (⟨"com/example/motley/motley/CountTree", "add", "(IJ)V"⟩ : MethodName)) hown (mvT hZ (ow57 hw)) (mvT hZ (ow46 hw)) (notFace_of_selects (args := #[]) (mvT hZ (ow48 hw))) (mvT hZ (ow48 hw)) (mvT hZ (ow47 hw)) (by decide) (backOf (W := 0) (rm9_6 l Z a0 hw [] b50 x13 (x17 - x20) bx4_0_66 y70 kx4_0_66 y54 y58 y62 y65 y71 y71 (0 : Int64) y72 T66.heap n0 Z66 (own_p5 p0_4 x13 hx13) P66_1 P66_2 P66_3 P66_4 P66_5 g_b50 (Ne.symm ne_b50_bx4_0_66) g_bx4_0_66) hZ (ow49 hw) (ow8 hw) (by decide) (by decide)) q73a q73c (g := (mkF m 233 A52 [(.long (x17 - x20)), (.int x13), (.ref b50)])) rfl (by rw [hml]; rfl) (Steps.refl _) (argsL := [(.int x13), (.long (x17 - x20))]) (rest := []) (lenOf pd__IJ_V rfl) rfl (by show 2 * 0 + _ ≤ _; exact Nat.le_of_eq rfl) (hb hby at_233) (fun _ _ => ⟨rfl, rfl, (by decide : 6 + 0 ≤ _), (by decide : 18 + 0 ≤ _)⟩)
  dsimp only [Pt.U, Pt.locs, Pt.cells, Pt.slots] at X73 l73 y73 z73 st73 hQ73
  subst l73 y73 z73
  obtain ⟨rfl, Nq73, Kc73, P73_0, P73_1, P73_2, P73_3, P73_4⟩ := hQ73
  have K73 : Keep h0 T73.heap [] := Keep.trans K66 Kc73 (allS (P := fun x => x ∈ ([] : List Addr) ∨ h0.size ≤ x) (Or.inr sz_b50) (allS (P := fun x => x ∈ ([] : List Addr) ∨ h0.size ≤ x) (Or.inr sz_bx4_0_66) all0))
  have Z73 : n0 ≤ T73.heap.size := Nat.le_trans Z0 K73.1
  obtain ⟨y74, hy74⟩ : ∃ z : Int64, z = (if x13 = (0 : Int32) then (y54 + (x17 - x20)) else y54) := ⟨_, rfl⟩
  rw [← hy74] at P73_4
  obtain ⟨y75, hy75⟩ : ∃ z : Int64, z = (if x13 = (0 : Int32) then (y58 + (x17 - x20)) else (if x13 = (1 : Int32) then (y58 + (x17 - x20)) else y58)) := ⟨_, rfl⟩
  rw [← hy75] at P73_4
  obtain ⟨y76, hy76⟩ : ∃ z : Int64, z = (if x13 = (0 : Int32) then y62 else (if x13 = (1 : Int32) then y62 else (if x13 = (2 : Int32) then (y62 + (x17 - x20)) else y62))) := ⟨_, rfl⟩
  rw [← hy76] at P73_4
  obtain ⟨y77, hy77⟩ : ∃ z : Int64, z = (if x13 = (0 : Int32) then (y65 + (x17 - x20)) else (if x13 = (1 : Int32) then (y65 + (x17 - x20)) else (if x13 = (2 : Int32) then (y65 + (x17 - x20)) else (if x13 = (3 : Int32) then (y65 + (x17 - x20)) else y65)))) := ⟨_, rfl⟩
  rw [← hy77] at P73_4
  obtain ⟨y78, hy78⟩ : ∃ z : Int64, z = (if x13 = (0 : Int32) then y71 else (if x13 = (1 : Int32) then y71 else (if x13 = (2 : Int32) then y71 else (if x13 = (3 : Int32) then y71 else (y71 + (x17 - x20)))))) := ⟨_, rfl⟩
  rw [← hy78] at P73_4
  obtain ⟨y79, hy79⟩ : ∃ z : Int64, z = (y72 + (x17 - x20)) := ⟨_, rfl⟩
  rw [← hy79] at P73_4
  have N73 := Fr.app N66 Nq73
  obtain ⟨cq80, kq80, q80a, q80b, q80c⟩ := isOf hZ rfl P73_0
  obtain ⟨_, _, ⟨T80, L80, k80, n80⟩, -, X80, ⟨Lc80, hQ80, l80, y80, z80⟩, st80⟩ := X73.virtualBack hx (y := (⟨"com/example/motley/motley/CountTree", "total", "()J"⟩ : MethodName)) (z := (⟨"com/example/motley/motley/CountTree", "total", "()J"⟩ : MethodName)) hown (mvT hZ (ow58 hw)) (mvT hZ (ow59 hw)) (notFace_of_selects (args := #[]) (mvT hZ (ow61 hw))) (mvT hZ (ow61 hw)) (mvT hZ (ow60 hw)) (by decide) (backOf (W := 0) (rm11_1 l Z a0 hw [] b50 bx4_0_66 (y70 + (x17 - x20)) kx4_0_66 y74 y75 y76 y77 y78 y78 (0 : Int64) y79 T73.heap n0 Z73 P73_0 P73_1 P73_2 P73_3 P73_4) hZ (ow62 hw) (ow8 hw) (by decide) (by decide)) q80a q80c (g := (mkF m 238 A52 [(.ref b50)])) rfl (by rw [hml]; rfl) (Steps.refl _) (argsL := []) (rest := []) (lenOf pd___J rfl) rfl (by show 2 * 0 + _ ≤ _; exact Nat.le_of_eq rfl) (hb hby at_238) (fun _ _ => ⟨rfl, rfl, (by decide : 6 + 0 ≤ _), (by decide : 18 + 0 ≤ _)⟩)
  dsimp only [Pt.U, Pt.locs, Pt.cells, Pt.slots] at X80 l80 y80 z80 st80 hQ80
  subst l80 y80 z80
  obtain ⟨rfl, Nq80, e80⟩ := hQ80
  have N80 := Fr.app N73 Nq80
  obtain ⟨x81, hx81⟩ : ∃ z : Int64, z = (y70 + (x17 - x20)) := ⟨_, rfl⟩
  have G82 : ∀ t, Steps p.tables e below (T80.setTop (mkF m 244 A52 [(.int (lcmpW x81 x48))])) t → Steps p.tables e below (T46.setTop (mkF m 165 A42 [(.long v45)])) t := by
    intro t k
    show Steps p.tables e below (T46.setTop (mkF m 165 A42 [(.long v45)])) _
    refine XS.lstore X46.here hx rfl (hb hby at_165) rfl (l' := A47) rfl ?_
    refine XS.lload X46.here hx rfl (hb hby at_167) rfl ?_
    refine XS.lload X46.here hx rfl (hb hby at_169) rfl ?_
    show Steps p.tables e below (T46.setTop (mkF m 171 A47 [(.long v30), (.long v25)])) _
    refine XS.ladd X46.here hx rfl (hb hby at_171) rfl ?_
    refine XS.lload X46.here hx rfl (hb hby at_172) rfl ?_
    refine XS.ladd X46.here hx rfl (hb hby at_174) rfl ?_
    show Steps p.tables e below (T46.setTop (mkF m 175 A47 [(.long ((v25 + v30) + v35))])) _
    refine XS.lload X46.here hx rfl (hb hby at_175) rfl ?_
    refine XS.ladd X46.here hx rfl (hb hby at_177) rfl ?_
    refine XS.lload X46.here hx rfl (hb hby at_178) rfl ?_
    show Steps p.tables e below (T46.setTop (mkF m 180 A47 [(.long v45), (.long (((v25 + v30) + v35) + v40))])) _
    refine XS.ladd X46.here hx rfl (hb hby at_180) rfl ?_
    refine XS.lstore X46.here hx rfl (hb hby at_181) rfl (l' := #[.val (.long q0_0), .second, .val (.long q0_1), .second, .val (.long q0_2), .second, .val (.long q0_3), .second, .val (.int p0_4), .val (.long q0_5), .second, .val (.long (288230376151711743 : Int64)), .second, .val (.long x3), .second, .val (.long x5), .second, .val (.long x7), .second, .val (.long x9), .second, .val (.long x11), .second, .val (.int x13), .val (.int x15), .val (.long x17), .second, .val (.long x20), .second, .val (.long (x17 - x20)), .second, .val (.long v25), .second, .val (.long v30), .second, .val (.long v35), .second, .val (.long v40), .second, .val (.long v45), .second, .val (.long ((((v25 + v30) + v35) + v40) + v45)), .second, .unset, .unset, .unset, .unset, .unset]) rfl ?_
    show Steps p.tables e below (T46.setTop (mkF m 183 #[.val (.long q0_0), .second, .val (.long q0_1), .second, .val (.long q0_2), .second, .val (.long q0_3), .second, .val (.int p0_4), .val (.long q0_5), .second, .val (.long (288230376151711743 : Int64)), .second, .val (.long x3), .second, .val (.long x5), .second, .val (.long x7), .second, .val (.long x9), .second, .val (.long x11), .second, .val (.int x13), .val (.int x15), .val (.long x17), .second, .val (.long x20), .second, .val (.long (x17 - x20)), .second, .val (.long v25), .second, .val (.long v30), .second, .val (.long v35), .second, .val (.long v40), .second, .val (.long v45), .second, .val (.long ((((v25 + v30) + v35) + v40) + v45)), .second, .unset, .unset, .unset, .unset, .unset] [])) _
    rw [← hx48]
    refine st50 _ ?_
    refine XS.dup X50.here hx rfl (hb hby at_186) rfl rfl ?_
    show Steps p.tables e below (T50.setTop (mkF m 187 A49 [(.ref b50), (.ref b50)])) _
    refine st51.trans ?_
    refine XS.astore X51.here hx rfl (hb hby at_190) rfl rfl (l' := A52) rfl ?_
    refine XS.aload X51.here hx rfl (hb hby at_192) rfl rfl ?_
    show Steps p.tables e below (T51.setTop (mkF m 194 A52 [(.ref b50)])) _
    refine XS.lload X51.here hx rfl (hb hby at_194) rfl ?_
    refine st53.trans ?_
    refine XS.aload X53.here hx rfl (hb hby at_199) rfl rfl ?_
    show Steps p.tables e below (T53.setTop (mkF m 201 A52 [(.ref b50)])) _
    refine XS.lload X53.here hx rfl (hb hby at_201) rfl ?_
    refine st55.trans ?_
    refine XS.aload X55.here hx rfl (hb hby at_206) rfl rfl ?_
    show Steps p.tables e below (T55.setTop (mkF m 208 A52 [(.ref b50)])) _
    refine XS.lload X55.here hx rfl (hb hby at_208) rfl ?_
    refine st59.trans ?_
    refine XS.aload X59.here hx rfl (hb hby at_213) rfl rfl ?_
    show Steps p.tables e below (T59.setTop (mkF m 215 A52 [(.ref b50)])) _
    refine XS.lload X59.here hx rfl (hb hby at_215) rfl ?_
    refine st64.trans ?_
    refine XS.aload X64.here hx rfl (hb hby at_220) rfl rfl ?_
    show Steps p.tables e below (T64.setTop (mkF m 222 A52 [(.ref b50)])) _
    refine XS.lload X64.here hx rfl (hb hby at_222) rfl ?_
    refine st66.trans ?_
    refine XS.aload X66.here hx rfl (hb hby at_227) rfl rfl ?_
    show Steps p.tables e below (T66.setTop (mkF m 229 A52 [(.ref b50)])) _
    refine XS.iload X66.here hx rfl (hb hby at_229) rfl ?_
    refine XS.lload X66.here hx rfl (hb hby at_231) rfl ?_
    refine st73.trans ?_
    show Steps p.tables e below (T73.setTop (mkF m 236 A52 [])) _
    refine XS.aload X73.here hx rfl (hb hby at_236) rfl rfl ?_
    refine st80.trans ?_
    show Steps p.tables e below (T80.setTop (mkF m 241 #[.val (.long q0_0), .second, .val (.long q0_1), .second, .val (.long q0_2), .second, .val (.long q0_3), .second, .val (.int p0_4), .val (.long q0_5), .second, .val (.long (288230376151711743 : Int64)), .second, .val (.long x3), .second, .val (.long x5), .second, .val (.long x7), .second, .val (.long x9), .second, .val (.long x11), .second, .val (.int x13), .val (.int x15), .val (.long x17), .second, .val (.long x20), .second, .val (.long (x17 - x20)), .second, .val (.long v25), .second, .val (.long v30), .second, .val (.long v35), .second, .val (.long v40), .second, .val (.long v45), .second, .val (.long x48), .second, .val (.ref b50), .unset, .unset, .unset, .unset] [(.long (y70 + (x17 - x20)))])) _
    rw [← hx81]
    refine XS.lload X80.here hx rfl (hb hby at_241) rfl ?_
    refine XS.lcmp X80.here hx rfl (hb hby at_243) rfl ?_
    exact k
  obtain ⟨v84, hv84⟩ : ∃ z : Int32, z = (if x81 = x48 then (1 : Int32) else (0 : Int32)) := ⟨_, rfl⟩
  obtain ⟨T85, Lo85, X85, N85, e85, G85⟩ := own_join X80 N80 (h := T73.heap) (mkF m 244 A52 [(.int (lcmpW x81 x48))]) (mkF m 252 A52 [(.int v84)]) (by
    by_cases h244_83 : x81 = x48
    · refine ⟨T80, _, X80, N80, e80, fun t k => ?_⟩
      rw [show v84 = (1 : Int32) from hv84.trans (if_pos h244_83)] at k
      show Steps p.tables e below (T80.setTop (mkF m 244 A52 [(.int (lcmpW x81 x48))])) _
      refine XS.ifNo X80.here hx rfl (hb hby at_244) rfl ((if0 _ _).trans (teq ((lw_eq _ _).mpr h244_83)).2) ?_
      refine XS.iconst X80.here hx rfl (hb hby at_247) ?_
      refine XS.goto X80.here hx rfl (pc0 := 248) (pc' := 252) rfl (hb hby at_248) (by decide) (by decide) ?_
      exact k
    · refine ⟨T80, _, X80, N80, e80, fun t k => ?_⟩
      rw [show v84 = (0 : Int32) from hv84.trans (if_neg h244_83)] at k
      show Steps p.tables e below (T80.setTop (mkF m 244 A52 [(.int (lcmpW x81 x48))])) _
      refine XS.ifYes X80.here hx rfl (pc0 := 244) (pc' := 251) rfl (hb hby at_244) rfl ((if0 _ _).trans (feq (fun q => h244_83 ((lw_eq _ _).mp q))).2) (by decide) (by decide) ?_
      refine XS.iconst X80.here hx rfl (hb hby at_251) ?_
      exact k)
  let A86 : Array Slot := #[.val (.long q0_0), .second, .val (.long q0_1), .second, .val (.long q0_2), .second, .val (.long q0_3), .second, .val (.int p0_4), .val (.long q0_5), .second, .val (.long (288230376151711743 : Int64)), .second, .val (.long x3), .second, .val (.long x5), .second, .val (.long x7), .second, .val (.long x9), .second, .val (.long x11), .second, .val (.int x13), .val (.int x15), .val (.long x17), .second, .val (.long x20), .second, .val (.long (x17 - x20)), .second, .val (.long v25), .second, .val (.long v30), .second, .val (.long v35), .second, .val (.long v40), .second, .val (.long v45), .second, .val (.long x48), .second, .val (.ref b50), .val (.int v84), .unset, .unset, .unset]
  obtain ⟨cq87, kq87, q87a, q87b, q87c⟩ := isOf hZ e85 P73_0
  obtain ⟨_, _, ⟨T87, L87, k87, n87⟩, -, X87, ⟨Lc87, hQ87, l87, y87, z87⟩, st87⟩ := X85.virtualBack hx (y := (⟨"com/example/motley/motley/CountTree", "get", "(I)J"⟩ : MethodName)) (z := (⟨"com/example/motley/motley/CountTree", "get", "(I)J"⟩ : MethodName)) hown (mvT hZ (ow63 hw)) (mvT hZ (ow64 hw)) (notFace_of_selects (args := #[]) (mvT hZ (ow66 hw))) (mvT hZ (ow66 hw)) (mvT hZ (ow65 hw)) (by decide) (backOf (W := 0) (rm12_1 l Z a0 hw [] b50 x13 bx4_0_66 (y70 + (x17 - x20)) kx4_0_66 y74 y75 y76 y77 y78 y78 (0 : Int64) y79 T73.heap n0 Z73 (own_p5 p0_4 x13 hx13) P73_0 P73_1 P73_2 P73_3 P73_4) hZ (ow67 hw) (ow8 hw) (by decide) (by decide)) q87a q87c (g := (mkF m 258 A86 [(.int x13), (.ref b50)])) rfl (by rw [hml]; rfl) (Steps.refl _) (argsL := [(.int x13)]) (rest := []) (lenOf pd__I_J rfl) rfl (by show 2 * 0 + _ ≤ _; exact Nat.le_of_eq rfl) (hb hby at_258) (fun _ _ => ⟨rfl, e85, (by decide : 6 + 0 ≤ _), (by decide : 18 + 0 ≤ _)⟩)
  dsimp only [Pt.U, Pt.locs, Pt.cells, Pt.slots] at X87 l87 y87 z87 st87 hQ87
  subst l87 y87 z87
  obtain ⟨rfl, Nq87, e87⟩ := hQ87
  have N87 := Fr.app N85 Nq87
  obtain ⟨x88, hx88⟩ : ∃ z : Int64, z = (if x13 = (0 : Int32) then (((0 : Int64) + y74) - (0 : Int64)) else (if x13 = (1 : Int32) then (((0 : Int64) + y75) - ((0 : Int64) + y74)) else (if x13 = (2 : Int32) then ((((0 : Int64) + y76) + y75) - ((0 : Int64) + y75)) else (if x13 = (3 : Int32) then (((0 : Int64) + y77) - (((0 : Int64) + y76) + y75)) else ((((0 : Int64) + y78) + y77) - ((0 : Int64) + y77)))))) := ⟨_, rfl⟩
  have G89 : ∀ t, Steps p.tables e below (T87.setTop (mkF m 264 A86 [(.int (lcmpW x88 x17))])) t → Steps p.tables e below (T85.setTop (mkF m 252 A52 [(.int v84)])) t := by
    intro t k
    show Steps p.tables e below (T85.setTop (mkF m 252 A52 [(.int v84)])) _
    refine XS.istore X85.here hx rfl (hb hby at_252) rfl (l' := A86) rfl ?_
    refine XS.aload X85.here hx rfl (hb hby at_254) rfl rfl ?_
    refine XS.iload X85.here hx rfl (hb hby at_256) rfl ?_
    show Steps p.tables e below (T85.setTop (mkF m 258 A86 [(.int x13), (.ref b50)])) _
    refine st87.trans ?_
    show Steps p.tables e below (T87.setTop (mkF m 261 #[.val (.long q0_0), .second, .val (.long q0_1), .second, .val (.long q0_2), .second, .val (.long q0_3), .second, .val (.int p0_4), .val (.long q0_5), .second, .val (.long (288230376151711743 : Int64)), .second, .val (.long x3), .second, .val (.long x5), .second, .val (.long x7), .second, .val (.long x9), .second, .val (.long x11), .second, .val (.int x13), .val (.int x15), .val (.long x17), .second, .val (.long x20), .second, .val (.long (x17 - x20)), .second, .val (.long v25), .second, .val (.long v30), .second, .val (.long v35), .second, .val (.long v40), .second, .val (.long v45), .second, .val (.long x48), .second, .val (.ref b50), .val (.int v84), .unset, .unset, .unset] [(.long (if x13 = (0 : Int32) then (((0 : Int64) + y74) - (0 : Int64)) else (if x13 = (1 : Int32) then (((0 : Int64) + y75) - ((0 : Int64) + y74)) else (if x13 = (2 : Int32) then ((((0 : Int64) + y76) + y75) - ((0 : Int64) + y75)) else (if x13 = (3 : Int32) then (((0 : Int64) + y77) - (((0 : Int64) + y76) + y75)) else ((((0 : Int64) + y78) + y77) - ((0 : Int64) + y77)))))))])) _
    rw [← hx88]
    refine XS.lload X87.here hx rfl (hb hby at_261) rfl ?_
    refine XS.lcmp X87.here hx rfl (hb hby at_263) rfl ?_
    exact k
  obtain ⟨v91, hv91⟩ : ∃ z : Int32, z = (if x88 = x17 then (1 : Int32) else (0 : Int32)) := ⟨_, rfl⟩
  obtain ⟨T92, Lo92, X92, N92, e92, G92⟩ := own_join X87 N87 (h := T73.heap) (mkF m 264 A86 [(.int (lcmpW x88 x17))]) (mkF m 272 A86 [(.int v91)]) (by
    by_cases h264_90 : x88 = x17
    · refine ⟨T87, _, X87, N87, e87, fun t k => ?_⟩
      rw [show v91 = (1 : Int32) from hv91.trans (if_pos h264_90)] at k
      show Steps p.tables e below (T87.setTop (mkF m 264 A86 [(.int (lcmpW x88 x17))])) _
      refine XS.ifNo X87.here hx rfl (hb hby at_264) rfl ((if0 _ _).trans (teq ((lw_eq _ _).mpr h264_90)).2) ?_
      refine XS.iconst X87.here hx rfl (hb hby at_267) ?_
      refine XS.goto X87.here hx rfl (pc0 := 268) (pc' := 272) rfl (hb hby at_268) (by decide) (by decide) ?_
      exact k
    · refine ⟨T87, _, X87, N87, e87, fun t k => ?_⟩
      rw [show v91 = (0 : Int32) from hv91.trans (if_neg h264_90)] at k
      show Steps p.tables e below (T87.setTop (mkF m 264 A86 [(.int (lcmpW x88 x17))])) _
      refine XS.ifYes X87.here hx rfl (pc0 := 264) (pc' := 271) rfl (hb hby at_264) rfl ((if0 _ _).trans (feq (fun q => h264_90 ((lw_eq _ _).mp q))).2) (by decide) (by decide) ?_
      refine XS.iconst X87.here hx rfl (hb hby at_271) ?_
      exact k)
  let A93 : Array Slot := #[.val (.long q0_0), .second, .val (.long q0_1), .second, .val (.long q0_2), .second, .val (.long q0_3), .second, .val (.int p0_4), .val (.long q0_5), .second, .val (.long (288230376151711743 : Int64)), .second, .val (.long x3), .second, .val (.long x5), .second, .val (.long x7), .second, .val (.long x9), .second, .val (.long x11), .second, .val (.int x13), .val (.int x15), .val (.long x17), .second, .val (.long x20), .second, .val (.long (x17 - x20)), .second, .val (.long v25), .second, .val (.long v30), .second, .val (.long v35), .second, .val (.long v40), .second, .val (.long v45), .second, .val (.long x48), .second, .val (.ref b50), .val (.int v84), .val (.int v91), .unset, .unset]
  obtain ⟨cq94, kq94, q94a, q94b, q94c⟩ := isOf hZ e92 P73_0
  obtain ⟨_, _, ⟨T94, L94, k94, n94⟩, -, X94, ⟨Lc94, hQ94, l94, y94, z94⟩, st94⟩ := X92.virtualBack hx (y := (⟨"com/example/motley/motley/CountTree", "sumBefore", "(I)J"⟩ : MethodName)) (z := (⟨"com/example/motley/motley/CountTree", "sumBefore", "(I)J"⟩ : MethodName)) hown (mvT hZ (ow68 hw)) (mvT hZ (ow53 hw)) (notFace_of_selects (args := #[]) (mvT hZ (ow55 hw))) (mvT hZ (ow55 hw)) (mvT hZ (ow54 hw)) (by decide) (backOf (W := 0) (rm10_10 l Z a0 hw [] b50 x15 bx4_0_66 (y70 + (x17 - x20)) kx4_0_66 y74 y75 y76 y77 y78 y78 (0 : Int64) y79 T73.heap n0 Z73 (own_p9 ((p0_4.toUInt32 >>> ((8 : Int32) &&& 31).toUInt32).toInt32) x15 hx15) P73_0 P73_1 P73_2 P73_3 P73_4) hZ (ow56 hw) (ow8 hw) (by decide) (by decide)) q94a q94c (g := (mkF m 278 A93 [(.int x15), (.ref b50)])) rfl (by rw [hml]; rfl) (Steps.refl _) (argsL := [(.int x15)]) (rest := []) (lenOf pd__I_J rfl) rfl (by show 2 * 0 + _ ≤ _; exact Nat.le_of_eq rfl) (hb hby at_278) (fun _ _ => ⟨rfl, e92, (by decide : 6 + 0 ≤ _), (by decide : 18 + 0 ≤ _)⟩)
  dsimp only [Pt.U, Pt.locs, Pt.cells, Pt.slots] at X94 l94 y94 z94 st94 hQ94
  subst l94 y94 z94
  obtain ⟨rfl, Nq94, e94⟩ := hQ94
  have N94 := Fr.app N92 Nq94
  obtain ⟨x95, hx95⟩ : ∃ z : Int64, z = (if x15 = (0 : Int32) then (0 : Int64) else (if x15 = (1 : Int32) then ((0 : Int64) + y74) else (if x15 = (2 : Int32) then ((0 : Int64) + y75) else (if x15 = (3 : Int32) then (((0 : Int64) + y76) + y75) else (if x15 = (4 : Int32) then ((0 : Int64) + y77) else (if x15 = (5 : Int32) then (((0 : Int64) + y78) + y77) else (if x15 = (6 : Int32) then (((0 : Int64) + y78) + y77) else (if x15 = (7 : Int32) then ((((0 : Int64) + (0 : Int64)) + y78) + y77) else ((0 : Int64) + y79))))))))) := ⟨_, rfl⟩
  obtain ⟨_, _, ⟨T96, L96, k96, n96⟩, -, X96, ⟨Lc96, hQ96, l96, y96, z96⟩, st96⟩ := Jvm.LawKit.callS X94 hx (y := (⟨"com/example/motley/motley/CountTreeAddPinLaw", "prefix", "(IJJJJJ)J"⟩ : MethodName)) hown (mvT hZ (ow69 hw)) (mvT hZ (ow70 hw)) (mvT hZ (ow4 hw)) (mvT hZ (ow71 hw)) (by decide) (backOf (W := 2) (rm13 l Z a0 hw [] x15 v25 v30 v35 v40 v45 T73.heap n0 Z73 ) hZ (ow71 hw) (ow4 hw) (by decide) (by decide)) (g := (mkF m 293 A93 [(.long v45), (.long v40), (.long v35), (.long v30), (.long v25), (.int x15), (.long x95)])) rfl (by rw [hml]; rfl) (argsL := [(.int x15), (.long v25), (.long v30), (.long v35), (.long v40), (.long v45)]) (rest := [(.long x95)]) (lenOf pd__IJJJJJ_J rfl) rfl (by show 2 * 0 + _ ≤ _; exact Nat.le_of_eq rfl) (hb hby at_293) (fun _ _ => ⟨rfl, e94, (by decide : 6 + 0 ≤ _), (by decide : 18 + 0 ≤ _)⟩)
  dsimp only [Pt.U, Pt.locs, Pt.cells, Pt.slots] at X96 l96 y96 z96 st96 hQ96
  subst l96 y96 z96
  obtain ⟨rfl, Nq96, e96⟩ := hQ96
  have N96 := Fr.app N94 Nq96
  obtain ⟨x97, hx97⟩ : ∃ z : Int64, z = (if (4 : Int32) < x15 then ((if (3 : Int32) < x15 then ((if (2 : Int32) < x15 then ((if (1 : Int32) < x15 then ((if (0 : Int32) < x15 then ((0 : Int64) + v25) else (0 : Int64)) + v30) else (if (0 : Int32) < x15 then ((0 : Int64) + v25) else (0 : Int64))) + v35) else (if (1 : Int32) < x15 then ((if (0 : Int32) < x15 then ((0 : Int64) + v25) else (0 : Int64)) + v30) else (if (0 : Int32) < x15 then ((0 : Int64) + v25) else (0 : Int64)))) + v40) else (if (2 : Int32) < x15 then ((if (1 : Int32) < x15 then ((if (0 : Int32) < x15 then ((0 : Int64) + v25) else (0 : Int64)) + v30) else (if (0 : Int32) < x15 then ((0 : Int64) + v25) else (0 : Int64))) + v35) else (if (1 : Int32) < x15 then ((if (0 : Int32) < x15 then ((0 : Int64) + v25) else (0 : Int64)) + v30) else (if (0 : Int32) < x15 then ((0 : Int64) + v25) else (0 : Int64))))) + v45) else (if (3 : Int32) < x15 then ((if (2 : Int32) < x15 then ((if (1 : Int32) < x15 then ((if (0 : Int32) < x15 then ((0 : Int64) + v25) else (0 : Int64)) + v30) else (if (0 : Int32) < x15 then ((0 : Int64) + v25) else (0 : Int64))) + v35) else (if (1 : Int32) < x15 then ((if (0 : Int32) < x15 then ((0 : Int64) + v25) else (0 : Int64)) + v30) else (if (0 : Int32) < x15 then ((0 : Int64) + v25) else (0 : Int64)))) + v40) else (if (2 : Int32) < x15 then ((if (1 : Int32) < x15 then ((if (0 : Int32) < x15 then ((0 : Int64) + v25) else (0 : Int64)) + v30) else (if (0 : Int32) < x15 then ((0 : Int64) + v25) else (0 : Int64))) + v35) else (if (1 : Int32) < x15 then ((if (0 : Int32) < x15 then ((0 : Int64) + v25) else (0 : Int64)) + v30) else (if (0 : Int32) < x15 then ((0 : Int64) + v25) else (0 : Int64)))))) := ⟨_, rfl⟩
  have G98 : ∀ t, Steps p.tables e below (T96.setTop (mkF m 297 A93 [(.int (lcmpW x95 x97))])) t → Steps p.tables e below (T92.setTop (mkF m 272 A86 [(.int v91)])) t := by
    intro t k
    show Steps p.tables e below (T92.setTop (mkF m 272 A86 [(.int v91)])) _
    refine XS.istore X92.here hx rfl (hb hby at_272) rfl (l' := A93) rfl ?_
    refine XS.aload X92.here hx rfl (hb hby at_274) rfl rfl ?_
    refine XS.iload X92.here hx rfl (hb hby at_276) rfl ?_
    show Steps p.tables e below (T92.setTop (mkF m 278 A93 [(.int x15), (.ref b50)])) _
    refine st94.trans ?_
    show Steps p.tables e below (T94.setTop (mkF m 281 #[.val (.long q0_0), .second, .val (.long q0_1), .second, .val (.long q0_2), .second, .val (.long q0_3), .second, .val (.int p0_4), .val (.long q0_5), .second, .val (.long (288230376151711743 : Int64)), .second, .val (.long x3), .second, .val (.long x5), .second, .val (.long x7), .second, .val (.long x9), .second, .val (.long x11), .second, .val (.int x13), .val (.int x15), .val (.long x17), .second, .val (.long x20), .second, .val (.long (x17 - x20)), .second, .val (.long v25), .second, .val (.long v30), .second, .val (.long v35), .second, .val (.long v40), .second, .val (.long v45), .second, .val (.long x48), .second, .val (.ref b50), .val (.int v84), .val (.int v91), .unset, .unset] [(.long (if x15 = (0 : Int32) then (0 : Int64) else (if x15 = (1 : Int32) then ((0 : Int64) + y74) else (if x15 = (2 : Int32) then ((0 : Int64) + y75) else (if x15 = (3 : Int32) then (((0 : Int64) + y76) + y75) else (if x15 = (4 : Int32) then ((0 : Int64) + y77) else (if x15 = (5 : Int32) then (((0 : Int64) + y78) + y77) else (if x15 = (6 : Int32) then (((0 : Int64) + y78) + y77) else (if x15 = (7 : Int32) then ((((0 : Int64) + (0 : Int64)) + y78) + y77) else ((0 : Int64) + y79))))))))))])) _
    rw [← hx95]
    refine XS.iload X94.here hx rfl (hb hby at_281) rfl ?_
    refine XS.lload X94.here hx rfl (hb hby at_283) rfl ?_
    show Steps p.tables e below (T94.setTop (mkF m 285 A93 [(.long v25), (.int x15), (.long x95)])) _
    refine XS.lload X94.here hx rfl (hb hby at_285) rfl ?_
    refine XS.lload X94.here hx rfl (hb hby at_287) rfl ?_
    refine XS.lload X94.here hx rfl (hb hby at_289) rfl ?_
    show Steps p.tables e below (T94.setTop (mkF m 291 A93 [(.long v40), (.long v35), (.long v30), (.long v25), (.int x15), (.long x95)])) _
    refine XS.lload X94.here hx rfl (hb hby at_291) rfl ?_
    refine st96 _ ?_
    show Steps p.tables e below (T96.setTop (mkF m 296 #[.val (.long q0_0), .second, .val (.long q0_1), .second, .val (.long q0_2), .second, .val (.long q0_3), .second, .val (.int p0_4), .val (.long q0_5), .second, .val (.long (288230376151711743 : Int64)), .second, .val (.long x3), .second, .val (.long x5), .second, .val (.long x7), .second, .val (.long x9), .second, .val (.long x11), .second, .val (.int x13), .val (.int x15), .val (.long x17), .second, .val (.long x20), .second, .val (.long (x17 - x20)), .second, .val (.long v25), .second, .val (.long v30), .second, .val (.long v35), .second, .val (.long v40), .second, .val (.long v45), .second, .val (.long x48), .second, .val (.ref b50), .val (.int v84), .val (.int v91), .unset, .unset] [(.long (if (4 : Int32) < x15 then ((if (3 : Int32) < x15 then ((if (2 : Int32) < x15 then ((if (1 : Int32) < x15 then ((if (0 : Int32) < x15 then ((0 : Int64) + v25) else (0 : Int64)) + v30) else (if (0 : Int32) < x15 then ((0 : Int64) + v25) else (0 : Int64))) + v35) else (if (1 : Int32) < x15 then ((if (0 : Int32) < x15 then ((0 : Int64) + v25) else (0 : Int64)) + v30) else (if (0 : Int32) < x15 then ((0 : Int64) + v25) else (0 : Int64)))) + v40) else (if (2 : Int32) < x15 then ((if (1 : Int32) < x15 then ((if (0 : Int32) < x15 then ((0 : Int64) + v25) else (0 : Int64)) + v30) else (if (0 : Int32) < x15 then ((0 : Int64) + v25) else (0 : Int64))) + v35) else (if (1 : Int32) < x15 then ((if (0 : Int32) < x15 then ((0 : Int64) + v25) else (0 : Int64)) + v30) else (if (0 : Int32) < x15 then ((0 : Int64) + v25) else (0 : Int64))))) + v45) else (if (3 : Int32) < x15 then ((if (2 : Int32) < x15 then ((if (1 : Int32) < x15 then ((if (0 : Int32) < x15 then ((0 : Int64) + v25) else (0 : Int64)) + v30) else (if (0 : Int32) < x15 then ((0 : Int64) + v25) else (0 : Int64))) + v35) else (if (1 : Int32) < x15 then ((if (0 : Int32) < x15 then ((0 : Int64) + v25) else (0 : Int64)) + v30) else (if (0 : Int32) < x15 then ((0 : Int64) + v25) else (0 : Int64)))) + v40) else (if (2 : Int32) < x15 then ((if (1 : Int32) < x15 then ((if (0 : Int32) < x15 then ((0 : Int64) + v25) else (0 : Int64)) + v30) else (if (0 : Int32) < x15 then ((0 : Int64) + v25) else (0 : Int64))) + v35) else (if (1 : Int32) < x15 then ((if (0 : Int32) < x15 then ((0 : Int64) + v25) else (0 : Int64)) + v30) else (if (0 : Int32) < x15 then ((0 : Int64) + v25) else (0 : Int64))))))), (.long x95)])) _
    rw [← hx97]
    refine XS.lcmp X96.here hx rfl (hb hby at_296) rfl ?_
    exact k
  obtain ⟨v100, hv100⟩ : ∃ z : Int32, z = (if x95 = x97 then (1 : Int32) else (0 : Int32)) := ⟨_, rfl⟩
  obtain ⟨T101, Lo101, X101, N101, e101, G101⟩ := own_join X96 N96 (h := T73.heap) (mkF m 297 A93 [(.int (lcmpW x95 x97))]) (mkF m 305 A93 [(.int v100)]) (by
    by_cases h297_99 : x95 = x97
    · refine ⟨T96, _, X96, N96, e96, fun t k => ?_⟩
      rw [show v100 = (1 : Int32) from hv100.trans (if_pos h297_99)] at k
      show Steps p.tables e below (T96.setTop (mkF m 297 A93 [(.int (lcmpW x95 x97))])) _
      refine XS.ifNo X96.here hx rfl (hb hby at_297) rfl ((if0 _ _).trans (teq ((lw_eq _ _).mpr h297_99)).2) ?_
      refine XS.iconst X96.here hx rfl (hb hby at_300) ?_
      refine XS.goto X96.here hx rfl (pc0 := 301) (pc' := 305) rfl (hb hby at_301) (by decide) (by decide) ?_
      exact k
    · refine ⟨T96, _, X96, N96, e96, fun t k => ?_⟩
      rw [show v100 = (0 : Int32) from hv100.trans (if_neg h297_99)] at k
      show Steps p.tables e below (T96.setTop (mkF m 297 A93 [(.int (lcmpW x95 x97))])) _
      refine XS.ifYes X96.here hx rfl (pc0 := 297) (pc' := 304) rfl (hb hby at_297) rfl ((if0 _ _).trans (feq (fun q => h297_99 ((lw_eq _ _).mp q))).2) (by decide) (by decide) ?_
      refine XS.iconst X96.here hx rfl (hb hby at_304) ?_
      exact k)
  let A102 : Array Slot := #[.val (.long q0_0), .second, .val (.long q0_1), .second, .val (.long q0_2), .second, .val (.long q0_3), .second, .val (.int p0_4), .val (.long q0_5), .second, .val (.long (288230376151711743 : Int64)), .second, .val (.long x3), .second, .val (.long x5), .second, .val (.long x7), .second, .val (.long x9), .second, .val (.long x11), .second, .val (.int x13), .val (.int x15), .val (.long x17), .second, .val (.long x20), .second, .val (.long (x17 - x20)), .second, .val (.long v25), .second, .val (.long v30), .second, .val (.long v35), .second, .val (.long v40), .second, .val (.long v45), .second, .val (.long x48), .second, .val (.ref b50), .val (.int v84), .val (.int v91), .val (.int v100), .unset]
  obtain ⟨cq103, kq103, q103a, q103b, q103c⟩ := isOf hZ e101 P73_0
  obtain ⟨_, _, ⟨T103, L103, k103, n103⟩, -, X103, ⟨Lc103, hQ103, l103, y103, z103⟩, st103⟩ := X101.virtualBack hx (y := (⟨"com/example/motley/motley/CountTree", "sumBefore", "(I)J"⟩ : MethodName)) (z := (⟨"com/example/motley/motley/CountTree", "sumBefore", "(I)J"⟩ : MethodName)) hown (mvT hZ (ow68 hw)) (mvT hZ (ow53 hw)) (notFace_of_selects (args := #[]) (mvT hZ (ow55 hw))) (mvT hZ (ow55 hw)) (mvT hZ (ow54 hw)) (by decide) (backOf (W := 0) (rm10_11 l Z a0 hw [] b50 bx4_0_66 (y70 + (x17 - x20)) kx4_0_66 y74 y75 y76 y77 y78 y78 (0 : Int64) y79 T73.heap n0 Z73 P73_0 P73_1 P73_2 P73_3 P73_4) hZ (ow56 hw) (ow8 hw) (by decide) (by decide)) q103a q103c (g := (mkF m 311 A102 [(.int (8 : Int32)), (.ref b50)])) rfl (by rw [hml]; rfl) (Steps.refl _) (argsL := [(.int (8 : Int32))]) (rest := []) (lenOf pd__I_J rfl) rfl (by show 2 * 0 + _ ≤ _; exact Nat.le_of_eq rfl) (hb hby at_311) (fun _ _ => ⟨rfl, e101, (by decide : 6 + 0 ≤ _), (by decide : 18 + 0 ≤ _)⟩)
  dsimp only [Pt.U, Pt.locs, Pt.cells, Pt.slots] at X103 l103 y103 z103 st103 hQ103
  subst l103 y103 z103
  obtain ⟨rfl, Nq103, e103⟩ := hQ103
  have N103 := Fr.app N101 Nq103
  obtain ⟨x104, hx104⟩ : ∃ z : Int64, z = ((0 : Int64) + y79) := ⟨_, rfl⟩
  have G105 : ∀ t, Steps p.tables e below (T103.setTop (mkF m 317 A102 [(.int (lcmpW x104 x48))])) t → Steps p.tables e below (T101.setTop (mkF m 305 A93 [(.int v100)])) t := by
    intro t k
    show Steps p.tables e below (T101.setTop (mkF m 305 A93 [(.int v100)])) _
    refine XS.istore X101.here hx rfl (hb hby at_305) rfl (l' := A102) rfl ?_
    refine XS.aload X101.here hx rfl (hb hby at_307) rfl rfl ?_
    refine XS.bipush X101.here hx rfl (hb hby at_309) ?_
    show Steps p.tables e below (T101.setTop (mkF m 311 A102 [(.int (8 : Int32)), (.ref b50)])) _
    refine st103.trans ?_
    show Steps p.tables e below (T103.setTop (mkF m 314 #[.val (.long q0_0), .second, .val (.long q0_1), .second, .val (.long q0_2), .second, .val (.long q0_3), .second, .val (.int p0_4), .val (.long q0_5), .second, .val (.long (288230376151711743 : Int64)), .second, .val (.long x3), .second, .val (.long x5), .second, .val (.long x7), .second, .val (.long x9), .second, .val (.long x11), .second, .val (.int x13), .val (.int x15), .val (.long x17), .second, .val (.long x20), .second, .val (.long (x17 - x20)), .second, .val (.long v25), .second, .val (.long v30), .second, .val (.long v35), .second, .val (.long v40), .second, .val (.long v45), .second, .val (.long x48), .second, .val (.ref b50), .val (.int v84), .val (.int v91), .val (.int v100), .unset] [(.long ((0 : Int64) + y79))])) _
    rw [← hx104]
    refine XS.lload X103.here hx rfl (hb hby at_314) rfl ?_
    refine XS.lcmp X103.here hx rfl (hb hby at_316) rfl ?_
    exact k
  obtain ⟨v107, hv107⟩ : ∃ z : Int32, z = (if x104 = x48 then (1 : Int32) else (0 : Int32)) := ⟨_, rfl⟩
  obtain ⟨T108, Lo108, X108, N108, e108, G108⟩ := own_join X103 N103 (h := T73.heap) (mkF m 317 A102 [(.int (lcmpW x104 x48))]) (mkF m 325 A102 [(.int v107)]) (by
    by_cases h317_106 : x104 = x48
    · refine ⟨T103, _, X103, N103, e103, fun t k => ?_⟩
      rw [show v107 = (1 : Int32) from hv107.trans (if_pos h317_106)] at k
      show Steps p.tables e below (T103.setTop (mkF m 317 A102 [(.int (lcmpW x104 x48))])) _
      refine XS.ifNo X103.here hx rfl (hb hby at_317) rfl ((if0 _ _).trans (teq ((lw_eq _ _).mpr h317_106)).2) ?_
      refine XS.iconst X103.here hx rfl (hb hby at_320) ?_
      refine XS.goto X103.here hx rfl (pc0 := 321) (pc' := 325) rfl (hb hby at_321) (by decide) (by decide) ?_
      exact k
    · refine ⟨T103, _, X103, N103, e103, fun t k => ?_⟩
      rw [show v107 = (0 : Int32) from hv107.trans (if_neg h317_106)] at k
      show Steps p.tables e below (T103.setTop (mkF m 317 A102 [(.int (lcmpW x104 x48))])) _
      refine XS.ifYes X103.here hx rfl (pc0 := 317) (pc' := 324) rfl (hb hby at_317) rfl ((if0 _ _).trans (feq (fun q => h317_106 ((lw_eq _ _).mp q))).2) (by decide) (by decide) ?_
      refine XS.iconst X103.here hx rfl (hb hby at_324) ?_
      exact k)
  let A109 : Array Slot := #[.val (.long q0_0), .second, .val (.long q0_1), .second, .val (.long q0_2), .second, .val (.long q0_3), .second, .val (.int p0_4), .val (.long q0_5), .second, .val (.long (288230376151711743 : Int64)), .second, .val (.long x3), .second, .val (.long x5), .second, .val (.long x7), .second, .val (.long x9), .second, .val (.long x11), .second, .val (.int x13), .val (.int x15), .val (.long x17), .second, .val (.long x20), .second, .val (.long (x17 - x20)), .second, .val (.long v25), .second, .val (.long v30), .second, .val (.long v35), .second, .val (.long v40), .second, .val (.long v45), .second, .val (.long x48), .second, .val (.ref b50), .val (.int v84), .val (.int v91), .val (.int v100), .val (.int v107)]
  have G110 : ∀ t, Steps p.tables e below (T108.setTop (mkF m 329 A109 [(.int v84)])) t → Steps p.tables e below (T108.setTop (mkF m 325 A102 [(.int v107)])) t := by
    intro t k
    show Steps p.tables e below (T108.setTop (mkF m 325 A102 [(.int v107)])) _
    refine XS.istore X108.here hx rfl (hb hby at_325) rfl (l' := A109) rfl ?_
    refine XS.iload X108.here hx rfl (hb hby at_327) rfl ?_
    exact k
  obtain ⟨v118, hv118⟩ : ∃ z : Int32, z = (if v84 = (0 : Int32) then (0 : Int32) else (if v91 = (0 : Int32) then (0 : Int32) else (if v100 = (0 : Int32) then (0 : Int32) else (if v107 = (0 : Int32) then (0 : Int32) else (1 : Int32))))) := ⟨_, rfl⟩
  obtain ⟨T119, Lo119, X119, N119, e119, G119⟩ := own_join X108 N108 (h := T73.heap) (mkF m 329 A109 [(.int v84)]) (mkF m 352 A109 [(.int v118)]) (by
    by_cases h329_111 : v84 = (0 : Int32)
    · refine ⟨T108, _, X108, N108, e108, fun t k => ?_⟩
      rw [show v118 = (0 : Int32) from hv118.trans (if_pos h329_111)] at k
      show Steps p.tables e below (T108.setTop (mkF m 329 A109 [(.int v84)])) _
      refine XS.ifYes X108.here hx rfl (pc0 := 329) (pc' := 351) rfl (hb hby at_329) rfl ((if0 _ _).trans (teq h329_111).1) (by decide) (by decide) ?_
      refine XS.iconst X108.here hx rfl (hb hby at_351) ?_
      exact k
    · have G112 : ∀ t, Steps p.tables e below (T108.setTop (mkF m 334 A109 [(.int v91)])) t → Steps p.tables e below (T108.setTop (mkF m 329 A109 [(.int v84)])) t := by
        intro t k
        show Steps p.tables e below (T108.setTop (mkF m 329 A109 [(.int v84)])) _
        refine XS.ifNo X108.here hx rfl (hb hby at_329) rfl ((if0 _ _).trans (feq h329_111).1) ?_
        refine XS.iload X108.here hx rfl (hb hby at_332) rfl ?_
        exact k
      by_cases h334_113 : v91 = (0 : Int32)
      · refine ⟨T108, _, X108, N108, e108, fun t k => ?_⟩
        rw [show v118 = (0 : Int32) from hv118.trans ((if_neg h329_111).trans (if_pos h334_113))] at k
        refine G112 _ ?_
        show Steps p.tables e below (T108.setTop (mkF m 334 A109 [(.int v91)])) _
        refine XS.ifYes X108.here hx rfl (pc0 := 334) (pc' := 351) rfl (hb hby at_334) rfl ((if0 _ _).trans (teq h334_113).1) (by decide) (by decide) ?_
        refine XS.iconst X108.here hx rfl (hb hby at_351) ?_
        exact k
      · have G114 : ∀ t, Steps p.tables e below (T108.setTop (mkF m 339 A109 [(.int v100)])) t → Steps p.tables e below (T108.setTop (mkF m 334 A109 [(.int v91)])) t := by
          intro t k
          show Steps p.tables e below (T108.setTop (mkF m 334 A109 [(.int v91)])) _
          refine XS.ifNo X108.here hx rfl (hb hby at_334) rfl ((if0 _ _).trans (feq h334_113).1) ?_
          refine XS.iload X108.here hx rfl (hb hby at_337) rfl ?_
          exact k
        by_cases h339_115 : v100 = (0 : Int32)
        · refine ⟨T108, _, X108, N108, e108, fun t k => ?_⟩
          rw [show v118 = (0 : Int32) from hv118.trans ((if_neg h329_111).trans ((if_neg h334_113).trans (if_pos h339_115)))] at k
          refine G112 _ ?_
          refine G114 _ ?_
          show Steps p.tables e below (T108.setTop (mkF m 339 A109 [(.int v100)])) _
          refine XS.ifYes X108.here hx rfl (pc0 := 339) (pc' := 351) rfl (hb hby at_339) rfl ((if0 _ _).trans (teq h339_115).1) (by decide) (by decide) ?_
          refine XS.iconst X108.here hx rfl (hb hby at_351) ?_
          exact k
        · have G116 : ∀ t, Steps p.tables e below (T108.setTop (mkF m 344 A109 [(.int v107)])) t → Steps p.tables e below (T108.setTop (mkF m 339 A109 [(.int v100)])) t := by
            intro t k
            show Steps p.tables e below (T108.setTop (mkF m 339 A109 [(.int v100)])) _
            refine XS.ifNo X108.here hx rfl (hb hby at_339) rfl ((if0 _ _).trans (feq h339_115).1) ?_
            refine XS.iload X108.here hx rfl (hb hby at_342) rfl ?_
            exact k
          by_cases h344_117 : v107 = (0 : Int32)
          · refine ⟨T108, _, X108, N108, e108, fun t k => ?_⟩
            rw [show v118 = (0 : Int32) from hv118.trans ((if_neg h329_111).trans ((if_neg h334_113).trans ((if_neg h339_115).trans (if_pos h344_117))))] at k
            refine G112 _ ?_
            refine G114 _ ?_
            refine G116 _ ?_
            show Steps p.tables e below (T108.setTop (mkF m 344 A109 [(.int v107)])) _
            refine XS.ifYes X108.here hx rfl (pc0 := 344) (pc' := 351) rfl (hb hby at_344) rfl ((if0 _ _).trans (teq h344_117).1) (by decide) (by decide) ?_
            refine XS.iconst X108.here hx rfl (hb hby at_351) ?_
            exact k
          · refine ⟨T108, _, X108, N108, e108, fun t k => ?_⟩
            rw [show v118 = (1 : Int32) from hv118.trans ((if_neg h329_111).trans ((if_neg h334_113).trans ((if_neg h339_115).trans (if_neg h344_117))))] at k
            refine G112 _ ?_
            refine G114 _ ?_
            refine G116 _ ?_
            show Steps p.tables e below (T108.setTop (mkF m 344 A109 [(.int v107)])) _
            refine XS.ifNo X108.here hx rfl (hb hby at_344) rfl ((if0 _ _).trans (feq h344_117).1) ?_
            refine XS.iconst X108.here hx rfl (hb hby at_347) ?_
            refine XS.goto X108.here hx rfl (pc0 := 348) (pc' := 352) rfl (hb hby at_348) (by decide) (by decide) ?_
            exact k)
  have fin : v118 = (1 : Int32) := by
    exact own_fin q0_0 q0_1 q0_2 q0_3 p0_4 q0_5 x3 hx3 x5 hx5 x7 hx7 x9 hx9 x11 hx11 x13 hx13 x15 hx15 x17 hx17 x20 hx20 v25 hv25 v30 hv30 v35 hv35 v40 hv40 v45 hv45 x48 hx48 y54 hy54 y57 hy57 y58 hy58 y62 hy62 y63 hy63 y65 hy65 y70 hy70 y71 hy71 y72 hy72 y74 hy74 y75 hy75 y76 hy76 y77 hy77 y78 hy78 y79 hy79 x81 hx81 v84 hv84 x88 hx88 v91 hv91 x95 hx95 x97 hx97 v100 hv100 x104 hx104 v107 hv107 v118 hv118
  obtain ⟨fs, hr, hrun, hended, hW, hsame⟩ := X119.leave (v := some (.int (1 : Int32))) (fun h => by rw [Bd.returns] at h; cases h)
  refine ⟨_, _, pre0 _ ?_, hrun, hended, _, _, rfl, ?_, ⟨_, rfl⟩, hW, hsame.mono (by decide) (by decide)⟩
  · refine G23 _ ?_
    refine G26 _ ?_
    refine G28 _ ?_
    refine G31 _ ?_
    refine G33 _ ?_
    refine G36 _ ?_
    refine G38 _ ?_
    refine G41 _ ?_
    refine G43 _ ?_
    refine G46 _ ?_
    refine G82 _ ?_
    refine G85 _ ?_
    refine G89 _ ?_
    refine G92 _ ?_
    refine G98 _ ?_
    refine G101 _ ?_
    refine G105 _ ?_
    refine G108 _ ?_
    refine G110 _ ?_
    refine G119 _ ?_
    show Steps p.tables e below (T119.setTop (mkF m 352 A109 [(.int v118)])) _
    rw [fin]
    exact retN X119 hx (t := .boolean) Bd.returns (by simp) (hb hby at_352) hr
  · exact ⟨rfl, N119⟩
set_option maxRecDepth 65536 in
set_option maxHeartbeats 40000000 in
theorem comes_1 {Post : Tables → Env → Array Value → State → Outcome → State → Prop} (hpost : ∀ tb e args s v u, (limb_1_1.after args s (.returned v) u = true ∧ limb_1_2.after args s (.returned v) u = true ∧ True) → FrameEnd s (.returned v) u (Jvm.fieldLocs frame_1_writes args s ++ Jvm.arrayLocs frame_1_arrays args s ++ Jvm.staticLocs frame_1_statics s) 24 128 → Post tb e args s (.returned v) u) :
    ArmFor flags0 classFile x code maxLocals ret World_1 tables_1 room_1 Calls_1 rest_1 Pre_1 Post := by
  intro l hfl _ _ p e ha hc hk s m args below hf hA hF happ hP
  obtain ⟨hcalls, hrest, hpre⟩ := hP
  obtain ⟨-, -, -, hnamed, -, -, -, hat⟩ := (Spec.applies_iff hf).mp happ
  obtain ⟨hg, hn⟩ := and_e (Cond.before_iff.mp (show (Jvm.Cond.and given_1 narrow_1).before args s = true from hpre))
  obtain ⟨g1, g2⟩ := and_e hg
  obtain ⟨g3, g4⟩ := and_e g2
  obtain ⟨g5, g6⟩ := and_e g4
  obtain ⟨g7, g8⟩ := and_e g6
  obtain ⟨g9, g10⟩ := and_e g8
  obtain ⟨g11, g12⟩ := and_e g10
  obtain ⟨w0, w1, w2, w3, w4, w5, rfl⟩ : ∃ w0 w1 w2 w3 w4 w5 : Value, args = #[w0, w1, w2, w3, w4, w5] := by
    have hs : args.size = 6 := by simpa [Cond.value, given_1] using g1
    obtain ⟨L⟩ := args
    match L, hs with
    | [w0, w1, w2, w3, w4, w5], _ => exact ⟨w0, w1, w2, w3, w4, w5, rfl⟩
  have hw := fun d (hd : d ∈ tables_1) => atoms_spec (ws := Jvm.Cond.code x code maxLocals ret :: tables_1) hat d (List.mem_cons_of_mem _ hd)
  have hfit : Fit s := fun {y c} hc i hi => by
    obtain ⟨ha, rfl⟩ := Array.getElem?_eq_some_iff.mp hc
    have q := List.all_eq_true.mp ((Array.all_eq_true_iff_forall_mem.mp hF) _ (Array.getElem_mem ha)) i (List.mem_range.mpr hi)
    simpa [Array.getElem?_eq_getElem hi] using q
  obtain ⟨i0, ei0⟩ := isL_v g3
  obtain rfl : w0 = (.long i0) := Option.some.inj ei0
  obtain ⟨i1, ei1⟩ := isL_v g5
  obtain rfl : w1 = (.long i1) := Option.some.inj ei1
  obtain ⟨i2, ei2⟩ := isL_v g7
  obtain rfl : w2 = (.long i2) := Option.some.inj ei2
  obtain ⟨i3, ei3⟩ := isL_v g9
  obtain rfl : w3 = (.long i3) := Option.some.inj ei3
  obtain ⟨i4, ei4⟩ := is_v g11
  obtain rfl : w4 = (.int i4) := Option.some.inj ei4
  obtain ⟨i5, ei5⟩ := isL_v g12
  obtain rfl : w5 = (.long i5) := Option.some.inj ei5
  obtain ⟨n, o, h1, h2, h3, _, L, rfl, ⟨rfl, N⟩, hq⟩ := rm0 l s _ hw tables_1 i0 i1 i2 i3 i4 i5 s.heap s.heap.size (Nat.le_refl _) p e ha hc hk s m _ below hf ((Spec.applies_iff_loose hf).mp happ).1 ⟨rfl, State.Warmed39.refl s, rfl⟩ trivial
  refine ⟨n, _, h1, h2, h3, hpost _ _ _ _ _ _ ⟨Cond.after_iff.mpr rfl, Cond.after_iff.mpr (eq_i res_at (Term.int_eval (1)) rfl), trivial⟩ ⟨hq.1, hq.2.1, (hq.2.2.sift fun y hy => Or.inr (N y hy)).mono (by decide) (by decide)⟩⟩
theorem main_1_1 : Claimed_1_1 := comes_1 fun _ _ _ _ _ _ h hF => ⟨h.1, hF⟩
theorem main_1_2 : Claimed_1_2 := comes_1 fun _ _ _ _ _ _ h hF => ⟨h.2.1, hF⟩
end Jvm.Pilot.@@N@@
namespace Jvm.Pilot.@@N@@
open Jvm Jvm.ClassFile Sem Op Lib Jvm.Free Jvm.Stand Jvm.Pilot.@@N@@.Jvm.D
/-! MADE BY PROGRAM (witnessworld.py) out of the Statement's table words and the real class files: 14 classes; the members and pool entries that the words name. The judged class is class 1, her method 3. -/
namespace start1
open Jvm.ClassFile
def u (s : String) : CpInfo := .utf8 (stringToUtf16 s)
/-- a pool by its gaps: so many unusable entries, then the entry; so many at the end -/
def gap : Nat → List CpInfo → List CpInfo
  | 0, r => r
  | n + 1, r => .unusable :: gap n r
def poolList (es : List (Nat × CpInfo)) (last : Nat) : List CpInfo := es.foldr (fun e r => gap e.1 (e.2 :: r)) (gap last [])
def pool (es : List (Nat × CpInfo)) (last : Nat) : Array CpInfo := ⟨poolList es last⟩
def fileOf (pool : Array CpInfo) (this : Nat) (attrs : Array Attribute := #[]) (ms : Array MethodInfo := #[]) (fl : Nat := 33) (sup : Nat := 0) (ifs : Array Nat := #[]) (fds : Array FieldInfo := #[]) : ClassFile where
  minorVersion := 0
  majorVersion := 65
  constantPool := pool
  accessFlags := fl
  thisClass := this
  superClass := sup
  interfaces := ifs
  fields := fds
  methods := ms
  attributes := attrs
def plain (name : String) (sup : Option ClassId) : Class where
  name := name
  kind := .ordinary
  loader := none
  accessFlags := 33
  super := sup
  interfaces := #[]
  cf := none
  fields := #[]
  methods := #[]
  instanceTypes := #[]
  staticTypes := #[]
  resolved := #[]
  callSites := []
  init := .initialized
  statics := none
  mirror := none

def pool0 : Array CpInfo := pool [(5, u "<init>"), (0, u "()V"), (1, .class_ 10), (1, u "java/lang/Object")] 113

def k0c0 : Code := { maxStack := 0, maxLocals := 1, code := object_method_1_code, exceptionTable := #[], attributes := #[] }
def k0m0 : Method := { name := "<init>", desc := "()V", sig := { parameters := [], returnType := none }, accessFlags := 1, code := some k0c0 }
/-- java/lang/Object -/
def k0 : Class := { plain "java/lang/Object" none with
  accessFlags := 33
  interfaces := #[]
  cf := some (fileOf pool0 8 #[] #[{ accessFlags := 1, nameIndex := 5, descriptorIndex := 6, attributes := #[] }] 33 0 #[] #[])
  fields := #[]
  methods := #[k0m0]
  instanceTypes := #[]
  staticTypes := #[]
  resolved := Array.replicate 124 none
  statics := none }

def pool1 : Array CpInfo := pool [(2, .class_ 4), (0, .nameAndType 5 6), (0, u "java/lang/Object"), (0, u "<init>"), (0, u "()V"), (0, .long 288230376151711743), (1, .integer 2147483647), (0, .methodref 11 12), (0, .class_ 13), (0, .nameAndType 14 15), (0, u "com/example/motley/motley/CountTreeAddPinLaw"), (0, u "pick"), (0, u "(IJJJJJ)J"), (0, .class_ 17), (0, u "com/example/motley/motley/CountTree"), (0, .methodref 16 3), (0, .methodref 16 20), (0, .nameAndType 21 22), (0, u "append"), (0, u "(J)V"), (0, .methodref 16 24), (0, .nameAndType 25 26), (0, u "add"), (0, u "(IJ)V"), (0, .methodref 16 28), (0, .nameAndType 29 30), (0, u "total"), (0, u "()J"), (0, .methodref 16 32), (0, .nameAndType 33 34), (0, u "get"), (0, u "(I)J"), (0, .methodref 16 36), (0, .nameAndType 37 34), (0, u "sumBefore"), (0, .methodref 11 39), (0, .nameAndType 40 15), (0, u "prefix"), (3, u "law"), (0, u "(JJJJIJ)Z")] 2

def k1m0 : Method := { name := "<init>", desc := "()V", sig := { parameters := [], returnType := none }, accessFlags := 1, code := none }
def k1c1 : Code := { maxStack := 2, maxLocals := 11, code := method_2_code, exceptionTable := #[], attributes := #[] }
def k1m1 : Method := { name := "pick", desc := "(IJJJJJ)J", sig := { parameters := [.int, .long, .long, .long, .long, .long], returnType := some .long }, accessFlags := 10, code := some k1c1 }
def k1c2 : Code := { maxStack := 4, maxLocals := 13, code := method_3_code, exceptionTable := #[], attributes := #[] }
def k1m2 : Method := { name := "prefix", desc := "(IJJJJJ)J", sig := { parameters := [.int, .long, .long, .long, .long, .long], returnType := some .long }, accessFlags := 10, code := some k1c2 }
def k1c3 : Code := { maxStack := 13, maxLocals := 48, code := code, exceptionTable := #[], attributes := #[] }
def k1m3 : Method := { name := "law", desc := "(JJJJIJ)Z", sig := { parameters := [.long, .long, .long, .long, .int, .long], returnType := some .boolean }, accessFlags := 9, code := some k1c3 }
/-- com/example/motley/motley/CountTreeAddPinLaw -/
def k1 : Class := { plain "com/example/motley/motley/CountTreeAddPinLaw" (some 0) with
  accessFlags := 49
  interfaces := #[]
  cf := some (fileOf pool1 11 #[] #[{ accessFlags := 1, nameIndex := 5, descriptorIndex := 6, attributes := #[] }, { accessFlags := 10, nameIndex := 14, descriptorIndex := 15, attributes := #[] }, { accessFlags := 10, nameIndex := 40, descriptorIndex := 15, attributes := #[] }, { accessFlags := 9, nameIndex := 44, descriptorIndex := 45, attributes := #[] }] 49 2 #[] #[])
  fields := #[]
  methods := #[k1m0, k1m1, k1m2, k1m3]
  instanceTypes := #[]
  staticTypes := #[]
  resolved := Array.replicate 48 none
  statics := none }

def pool2 : Array CpInfo := pool [(1, .methodref 2 3), (0, .class_ 4), (0, .nameAndType 5 6), (0, u "java/lang/Object"), (0, u "<init>"), (0, u "()V"), (0, .fieldref 8 9), (0, .class_ 10), (0, .nameAndType 11 12), (0, u "com/example/motley/motley/CountTree"), (0, u "tree"), (0, u "[J"), (0, .fieldref 8 14), (0, .nameAndType 15 16), (0, u "size"), (0, u "I"), (0, .methodref 18 19), (0, .class_ 20), (0, .nameAndType 21 22), (0, u "java/lang/Math"), (0, u "max"), (0, u "(II)I"), (0, .methodref 24 25), (0, .class_ 26), (0, .nameAndType 27 28), (0, u "java/util/Arrays"), (0, u "copyOf"), (0, u "([JI)[J"), (0, .fieldref 8 30), (0, .nameAndType 31 32), (0, u "total"), (0, u "J"), (0, .methodref 8 34), (0, .nameAndType 35 36), (0, u "sumBefore"), (0, u "(I)J"), (0, .methodref 8 38), (0, .nameAndType 39 40), (0, u "reserve"), (0, u "(I)V"), (0, .methodref 8 42), (0, .nameAndType 43 44), (0, u "add"), (0, u "(IJ)V"), (11, u "append"), (0, u "(J)V"), (0, u "()J"), (0, u "get")] 4

def k2c0 : Code := { maxStack := 2, maxLocals := 1, code := prog_14_method_1_code, exceptionTable := #[], attributes := #[] }
def k2m0 : Method := { name := "<init>", desc := "()V", sig := { parameters := [], returnType := none }, accessFlags := 0, code := some k2c0 }
def k2c1 : Code := { maxStack := 6, maxLocals := 7, code := prog_14_method_3_code, exceptionTable := #[], attributes := #[] }
def k2m1 : Method := { name := "reserve", desc := "(I)V", sig := { parameters := [.int], returnType := none }, accessFlags := 0, code := some k2c1 }
def k2c2 : Code := { maxStack := 4, maxLocals := 3, code := prog_14_method_4_code, exceptionTable := #[], attributes := #[] }
def k2m2 : Method := { name := "append", desc := "(J)V", sig := { parameters := [.long], returnType := none }, accessFlags := 0, code := some k2c2 }
def k2c3 : Code := { maxStack := 2, maxLocals := 1, code := prog_14_method_5_code, exceptionTable := #[], attributes := #[] }
def k2m3 : Method := { name := "total", desc := "()J", sig := { parameters := [], returnType := some .long }, accessFlags := 0, code := some k2c3 }
def k2c4 : Code := { maxStack := 4, maxLocals := 2, code := prog_14_method_6_code, exceptionTable := #[], attributes := #[] }
def k2m4 : Method := { name := "get", desc := "(I)J", sig := { parameters := [.int], returnType := some .long }, accessFlags := 0, code := some k2c4 }
def k2c5 : Code := { maxStack := 6, maxLocals := 5, code := prog_14_method_7_code, exceptionTable := #[], attributes := #[] }
def k2m5 : Method := { name := "add", desc := "(IJ)V", sig := { parameters := [.int, .long], returnType := none }, accessFlags := 0, code := some k2c5 }
def k2c6 : Code := { maxStack := 5, maxLocals := 5, code := prog_14_method_8_code, exceptionTable := #[], attributes := #[] }
def k2m6 : Method := { name := "sumBefore", desc := "(I)J", sig := { parameters := [.int], returnType := some .long }, accessFlags := 0, code := some k2c6 }
/-- com/example/motley/motley/CountTree -/
def k2 : Class := { plain "com/example/motley/motley/CountTree" (some 0) with
  accessFlags := 48
  interfaces := #[]
  cf := some (fileOf pool2 8 #[] #[{ accessFlags := 0, nameIndex := 5, descriptorIndex := 6, attributes := #[] }, { accessFlags := 0, nameIndex := 39, descriptorIndex := 40, attributes := #[] }, { accessFlags := 0, nameIndex := 56, descriptorIndex := 57, attributes := #[] }, { accessFlags := 0, nameIndex := 31, descriptorIndex := 58, attributes := #[] }, { accessFlags := 0, nameIndex := 59, descriptorIndex := 36, attributes := #[] }, { accessFlags := 0, nameIndex := 43, descriptorIndex := 44, attributes := #[] }, { accessFlags := 0, nameIndex := 35, descriptorIndex := 36, attributes := #[] }] 48 2 #[] #[{ accessFlags := 2, nameIndex := 11, descriptorIndex := 12, attributes := #[] }, { accessFlags := 2, nameIndex := 15, descriptorIndex := 16, attributes := #[] }, { accessFlags := 2, nameIndex := 31, descriptorIndex := 32, attributes := #[] }])
  fields := #[{ name := "tree", type := (.array .long), accessFlags := 2, slot := 0, constantValue := 0 }, { name := "size", type := .int, accessFlags := 2, slot := 1, constantValue := 0 }, { name := "total", type := .long, accessFlags := 2, slot := 2, constantValue := 0 }]
  methods := #[k2m0, k2m1, k2m2, k2m3, k2m4, k2m5, k2m6]
  instanceTypes := #[(.array .long), .int, .long]
  staticTypes := #[]
  resolved := Array.replicate 64 none
  statics := none }

def pool3 : Array CpInfo := pool [(1, .class_ 2), (0, u "java/lang/Math"), (1, .class_ 6), (1, u "java/lang/Object"), (0, u "<init>"), (0, u "()V"), (89, .class_ 100), (1, u "java/lang/Math$RandomNumberGeneratorHolder"), (71, u "negativeZeroFloatBits"), (0, u "J"), (2, u "negativeZeroDoubleBits"), (21, u "max"), (2, u "min"), (43, u "$assertionsDisabled"), (0, u "Z"), (88, u "(II)I"), (2, u "twoToTheDoubleScaleDown"), (0, u "D"), (4, u "twoToTheDoubleScaleUp"), (9, u "E"), (3, u "PI"), (2, u "TAU"), (2, u "DEGREES_TO_RADIANS"), (0, u "RADIANS_TO_DEGREES")] 94

def k3m0 : Method := { name := "<init>", desc := "()V", sig := { parameters := [], returnType := none }, accessFlags := 2, code := none }
def k3c1 : Code := { maxStack := 2, maxLocals := 2, code := jdk_29_method_65_code, exceptionTable := #[], attributes := #[] }
def k3m1 : Method := { name := "max", desc := "(II)I", sig := { parameters := [.int, .int], returnType := some .int }, accessFlags := 9, code := some k3c1 }
def k3c2 : Code := { maxStack := 2, maxLocals := 2, code := jdk_29_method_69_code, exceptionTable := #[], attributes := #[] }
def k3m2 : Method := { name := "min", desc := "(II)I", sig := { parameters := [.int, .int], returnType := some .int }, accessFlags := 9, code := some k3c2 }
/-- java/lang/Math -/
def k3 : Class := { plain "java/lang/Math" (some 0) with
  accessFlags := 49
  interfaces := #[]
  cf := some (fileOf pool3 1 #[.nestMembers #[98]] #[{ accessFlags := 2, nameIndex := 7, descriptorIndex := 8, attributes := #[] }, { accessFlags := 9, nameIndex := 198, descriptorIndex := 335, attributes := #[] }, { accessFlags := 9, nameIndex := 201, descriptorIndex := 335, attributes := #[] }] 49 4 #[] #[{ accessFlags := 25, nameIndex := 354, descriptorIndex := 339, attributes := #[] }, { accessFlags := 25, nameIndex := 358, descriptorIndex := 339, attributes := #[] }, { accessFlags := 25, nameIndex := 361, descriptorIndex := 339, attributes := #[] }, { accessFlags := 26, nameIndex := 364, descriptorIndex := 339, attributes := #[] }, { accessFlags := 26, nameIndex := 365, descriptorIndex := 339, attributes := #[] }, { accessFlags := 26, nameIndex := 172, descriptorIndex := 173, attributes := #[] }, { accessFlags := 26, nameIndex := 176, descriptorIndex := 173, attributes := #[] }, { accessFlags := 8, nameIndex := 344, descriptorIndex := 339, attributes := #[] }, { accessFlags := 8, nameIndex := 338, descriptorIndex := 339, attributes := #[] }, { accessFlags := 4120, nameIndex := 245, descriptorIndex := 246, attributes := #[] }])
  fields := #[{ name := "E", type := .double, accessFlags := 25, slot := 0, constantValue := 0 }, { name := "PI", type := .double, accessFlags := 25, slot := 1, constantValue := 0 }, { name := "TAU", type := .double, accessFlags := 25, slot := 2, constantValue := 0 }, { name := "DEGREES_TO_RADIANS", type := .double, accessFlags := 26, slot := 3, constantValue := 0 }, { name := "RADIANS_TO_DEGREES", type := .double, accessFlags := 26, slot := 4, constantValue := 0 }, { name := "negativeZeroFloatBits", type := .long, accessFlags := 26, slot := 5, constantValue := 0 }, { name := "negativeZeroDoubleBits", type := .long, accessFlags := 26, slot := 6, constantValue := 0 }, { name := "twoToTheDoubleScaleUp", type := .double, accessFlags := 8, slot := 7, constantValue := 0 }, { name := "twoToTheDoubleScaleDown", type := .double, accessFlags := 8, slot := 8, constantValue := 0 }, { name := "$assertionsDisabled", type := .boolean, accessFlags := 4120, slot := 9, constantValue := 0 }]
  methods := #[k3m0, k3m1, k3m2]
  instanceTypes := #[]
  staticTypes := #[.double, .double, .double, .double, .double, .long, .long, .double, .double, .boolean]
  resolved := Array.replicate 460 none
  statics := none }

def pool4 : Array CpInfo := pool [(2, .class_ 4), (1, u "java/lang/Object"), (0, u "<init>"), (0, u "()V"), (7, .class_ 16), (1, u "java/util/Arrays"), (57, .class_ 76), (1, u "java/util/Arrays$NaturalOrder"), (36, .class_ 115), (1, u "java/util/Arrays$LegacyMergeSort"), (1, u "Z"), (32, .methodref 151 152), (0, .class_ 153), (0, .nameAndType 154 155), (0, u "java/lang/System"), (0, u "arraycopy"), (0, u "(Ljava/lang/Object;ILjava/lang/Object;II)V"), (146, u "copyOf"), (1, .methodref 305 306), (0, .class_ 307), (0, .nameAndType 308 309), (0, u "java/lang/Math"), (0, u "min"), (0, u "(II)I"), (65, .class_ 376), (0, u "java/util/Arrays$ArrayList"), (68, u "$assertionsDisabled"), (269, u "MIN_ARRAY_SORT_GRAN"), (0, u "I"), (2, u "INSERTIONSORT_THRESHOLD"), (152, u "([JI)[J"), (102, .class_ 976), (0, u "java/util/Arrays$ArrayItr")] 52

def k4m0 : Method := { name := "<init>", desc := "()V", sig := { parameters := [], returnType := none }, accessFlags := 2, code := none }
def k4c1 : Code := { maxStack := 6, maxLocals := 3, code := jdk_65_method_124_code, exceptionTable := #[], attributes := #[] }
def k4m1 : Method := { name := "copyOf", desc := "([JI)[J", sig := { parameters := [(.array .long), .int], returnType := some (.array .long) }, accessFlags := 9, code := some k4c1 }
/-- java/util/Arrays -/
def k4 : Class := { plain "java/util/Arrays" (some 0) with
  accessFlags := 49
  interfaces := #[]
  cf := some (fileOf pool4 14 #[.nestMembers #[975, 375, 113, 74]] #[{ accessFlags := 2, nameIndex := 5, descriptorIndex := 6, attributes := #[] }, { accessFlags := 9, nameIndex := 302, descriptorIndex := 872, attributes := #[] }] 49 2 #[] #[{ accessFlags := 26, nameIndex := 715, descriptorIndex := 716, attributes := #[] }, { accessFlags := 26, nameIndex := 719, descriptorIndex := 716, attributes := #[] }, { accessFlags := 4120, nameIndex := 445, descriptorIndex := 117, attributes := #[] }])
  fields := #[{ name := "MIN_ARRAY_SORT_GRAN", type := .int, accessFlags := 26, slot := 0, constantValue := 0 }, { name := "INSERTIONSORT_THRESHOLD", type := .int, accessFlags := 26, slot := 1, constantValue := 0 }, { name := "$assertionsDisabled", type := .boolean, accessFlags := 4120, slot := 2, constantValue := 0 }]
  methods := #[k4m0, k4m1]
  instanceTypes := #[]
  staticTypes := #[.int, .int, .boolean]
  resolved := Array.replicate 1029 none
  statics := none }

def pool5 : Array CpInfo := pool [(2, .class_ 4), (1, u "java/lang/Object"), (0, u "<init>"), (0, u "()V"), (1, .class_ 10), (1, u "java/lang/System"), (0, u "allowSecurityManager"), (0, u "I"), (16, u "cons"), (0, u "Ljava/io/Console;"), (77, .class_ 110), (1, u "java/lang/System$CallersHolder"), (43, u "initialErrStream"), (0, u "Ljava/io/PrintStream;"), (19, u "security"), (0, u "Ljava/lang/SecurityManager;"), (31, .class_ 209), (0, u "java/lang/System$1"), (7, u "props"), (0, u "Ljava/util/Properties;"), (2, u "lineSeparator"), (0, u "Ljava/lang/String;"), (96, .class_ 321), (1, u "java/lang/System$LoggerFinder"), (5, .class_ 328), (0, u "java/lang/System$Logger"), (67, u "err"), (2, u "out"), (91, u "notSupportedJnuEncoding"), (15, u "in"), (17, u "initialIn"), (0, u "Ljava/io/InputStream;"), (35, u "bootLayer"), (0, u "Ljava/lang/ModuleLayer;"), (99, .class_ 664), (0, u "java/lang/System$2"), (9, u "NEVER"), (2, u "MAYBE"), (49, u "arraycopy"), (0, u "(Ljava/lang/Object;ILjava/lang/Object;II)V"), (72, .class_ 802), (0, u "java/lang/System$Logger$Level")] 31

def k5m0 : Method := { name := "<init>", desc := "()V", sig := { parameters := [], returnType := none }, accessFlags := 2, code := none }
def k5m1 : Method := { name := "arraycopy", desc := "(Ljava/lang/Object;ILjava/lang/Object;II)V", sig := { parameters := [(.object "java/lang/Object"), .int, (.object "java/lang/Object"), .int, .int], returnType := none }, accessFlags := 265, code := none }
/-- java/lang/System -/
def k5 : Class := { plain "java/lang/System" (some 0) with
  accessFlags := 49
  interfaces := #[]
  cf := some (fileOf pool5 8 #[.nestMembers #[319, 327, 801, 108, 663, 208]] #[{ accessFlags := 2, nameIndex := 5, descriptorIndex := 6, attributes := #[] }, { accessFlags := 265, nameIndex := 727, descriptorIndex := 728, attributes := #[] }] 49 2 #[] #[{ accessFlags := 25, nameIndex := 507, descriptorIndex := 526, attributes := #[] }, { accessFlags := 25, nameIndex := 399, descriptorIndex := 155, attributes := #[] }, { accessFlags := 25, nameIndex := 396, descriptorIndex := 155, attributes := #[] }, { accessFlags := 10, nameIndex := 525, descriptorIndex := 526, attributes := #[] }, { accessFlags := 26, nameIndex := 674, descriptorIndex := 12, attributes := #[] }, { accessFlags := 26, nameIndex := 677, descriptorIndex := 12, attributes := #[] }, { accessFlags := 10, nameIndex := 11, descriptorIndex := 12, attributes := #[] }, { accessFlags := 74, nameIndex := 175, descriptorIndex := 176, attributes := #[] }, { accessFlags := 10, nameIndex := 491, descriptorIndex := 222, attributes := #[] }, { accessFlags := 74, nameIndex := 29, descriptorIndex := 30, attributes := #[] }, { accessFlags := 74, nameIndex := 154, descriptorIndex := 155, attributes := #[] }, { accessFlags := 10, nameIndex := 217, descriptorIndex := 218, attributes := #[] }, { accessFlags := 10, nameIndex := 221, descriptorIndex := 222, attributes := #[] }, { accessFlags := 8, nameIndex := 562, descriptorIndex := 563, attributes := #[] }])
  fields := #[{ name := "in", type := (.object "java/io/InputStream"), accessFlags := 25, slot := 0, constantValue := 0 }, { name := "out", type := (.object "java/io/PrintStream"), accessFlags := 25, slot := 1, constantValue := 0 }, { name := "err", type := (.object "java/io/PrintStream"), accessFlags := 25, slot := 2, constantValue := 0 }, { name := "initialIn", type := (.object "java/io/InputStream"), accessFlags := 10, slot := 3, constantValue := 0 }, { name := "NEVER", type := .int, accessFlags := 26, slot := 4, constantValue := 0 }, { name := "MAYBE", type := .int, accessFlags := 26, slot := 5, constantValue := 0 }, { name := "allowSecurityManager", type := .int, accessFlags := 10, slot := 6, constantValue := 0 }, { name := "security", type := (.object "java/lang/SecurityManager"), accessFlags := 74, slot := 7, constantValue := 0 }, { name := "notSupportedJnuEncoding", type := (.object "java/lang/String"), accessFlags := 10, slot := 8, constantValue := 0 }, { name := "cons", type := (.object "java/io/Console"), accessFlags := 74, slot := 9, constantValue := 0 }, { name := "initialErrStream", type := (.object "java/io/PrintStream"), accessFlags := 74, slot := 10, constantValue := 0 }, { name := "props", type := (.object "java/util/Properties"), accessFlags := 10, slot := 11, constantValue := 0 }, { name := "lineSeparator", type := (.object "java/lang/String"), accessFlags := 10, slot := 12, constantValue := 0 }, { name := "bootLayer", type := (.object "java/lang/ModuleLayer"), accessFlags := 8, slot := 13, constantValue := 0 }]
  methods := #[k5m0, k5m1]
  instanceTypes := #[]
  staticTypes := #[(.object "java/io/InputStream"), (.object "java/io/PrintStream"), (.object "java/io/PrintStream"), (.object "java/io/InputStream"), .int, .int, .int, (.object "java/lang/SecurityManager"), (.object "java/lang/String"), (.object "java/io/Console"), (.object "java/io/PrintStream"), (.object "java/util/Properties"), (.object "java/lang/String"), (.object "java/lang/ModuleLayer")]
  resolved := Array.replicate 834 none
  statics := none }

def pool6 : Array CpInfo := pool [(1, u "java/lang/Cloneable"), (0, .class_ 1), (0, u "java/lang/Object"), (0, .class_ 3)] 3

/-- java/lang/Cloneable -/
def k6 : Class := { plain "java/lang/Cloneable" (some 0) with
  accessFlags := 1537
  interfaces := #[]
  cf := some (fileOf pool6 2 #[] #[] 1537 4 #[] #[])
  fields := #[]
  methods := #[]
  instanceTypes := #[]
  staticTypes := #[]
  resolved := Array.replicate 8 none
  statics := none }

def pool7 : Array CpInfo := pool [(1, u "java/io/Serializable"), (0, .class_ 1), (0, u "java/lang/Object"), (0, .class_ 3)] 3

/-- java/io/Serializable -/
def k7 : Class := { plain "java/io/Serializable" (some 0) with
  accessFlags := 1537
  interfaces := #[]
  cf := some (fileOf pool7 2 #[] #[] 1537 4 #[] #[])
  fields := #[]
  methods := #[]
  instanceTypes := #[]
  staticTypes := #[]
  resolved := Array.replicate 8 none
  statics := none }

/-- the primitive byte -/
def k8 : Class := { plain "byte" none with kind := .primitive 'B', accessFlags := 0x411 }
/-- [B -/
def k9 : Class := { plain "[B" (some 0) with kind := .array 8 .byte, interfaces := #[6, 7], accessFlags := 1041 }

/-- the primitive int -/
def k10 : Class := { plain "int" none with kind := .primitive 'I', accessFlags := 0x411 }
/-- [I -/
def k11 : Class := { plain "[I" (some 0) with kind := .array 10 .int, interfaces := #[6, 7], accessFlags := 1041 }

/-- the primitive long -/
def k12 : Class := { plain "long" none with kind := .primitive 'J', accessFlags := 0x411 }
/-- [J -/
def k13 : Class := { plain "[J" (some 0) with kind := .array 12 .long, interfaces := #[6, 7], accessFlags := 1041 }

def heap : Heap := #[]
def classes : Array Class := #[k0, k1, k2, k3, k4, k5, k6, k7, k8, k9, k10, k11, k12, k13]
def interned : List (Array UInt16 × Addr) := []
def slotsUsed : Nat := 0
def theMethod : MethodId := ⟨1, 3⟩
def args0 : Array Value := #[.long 5, .long 5, .long 5, .long 5, .int 5, .long 5]
def aboutOver (below : List Frame) : State where
  vm := { classes := classes, interned := interned.toArray }
  heap := heap
  slotsUsed := slotsUsed
  threads := #[{ frames := .invoking theMethod args0 :: below }]
def below0 : List Frame := [.native { method := ⟨0, 0⟩, args := #[] }]
def about1 : State := aboutOver below0
def p0 : Program := .bare "" "" ""
def e0 : Env := launch0.env 0 0 0
theorem w_frames : about1.frames = Frame.invoking theMethod args0 :: below0 := rfl
set_option maxRecDepth 65536 in
theorem w_args : argsFit about1.vm theMethod args0 = true := by decide +kernel
set_option maxRecDepth 65536 in
theorem w_heap : heapFits about1 = true := by decide +kernel
set_option maxRecDepth 65536 in
theorem w_runnable : about1.curStatus? = some .runnable := by decide +kernel
set_option maxRecDepth 65536 in
theorem w_alone : about1.alone = true := by decide +kernel
set_option maxRecDepth 65536 in
theorem w_named : about1.methodNamed? x = some theMethod := by decide +kernel
set_option maxRecDepth 65536 in
theorem w_hears : about1.hears theMethod below0 = true := by decide +kernel
set_option maxRecDepth 65536 in
theorem w_ripe : about1.ripe theMethod args0 below0 = true := by decide +kernel
theorem w_running : about1.status = .running := rfl
set_option maxRecDepth 65536 in
theorem w_room : about1.hasRoom e0.platform room_1 = true :=
  launch0.hasRoom_least _ room_1 (by decide +kernel) (by decide +kernel) (by decide +kernel) (by decide +kernel) (by decide +kernel) (by decide +kernel)
theorem allAtoms_all (ts : List Jvm.Cond) (a : Array Jvm.Value) (st : Jvm.State) : (allAtoms ts).before a st = ts.all (fun c => c.before a st) := by
  induction ts with
  | nil => rfl
  | cons c t ih =>
    show (Jvm.Cond.and c (allAtoms t)).before a st = _
    rw [Jvm.Cond.before_and, ih, List.all_cons]
def words1 : List Jvm.Cond := Jvm.Cond.code x code maxLocals ret :: tables_1
/-- a 'code' word, met by the world's own term for the bytes: nothing is compared byte by byte -/
theorem code_word {y : MethodName} {bytes : ByteArray} {mx : Nat} {rt : Option FieldType} {a : Array Value} {s : State} {m : MethodId} {meth : Method} {c : Code} (h1 : s.methodNamed? y = some m) (h2 : s.vm.method? m = some meth) (h3 : meth.code = some c) (h4 : c.code = bytes)
    (h5 : (c.maxLocals == mx && c.exceptionTable.isEmpty && decide (c.maxStack ≤ mostOperands) && decide (meth.sig.returnType = rt) && !meth.locks && decide (parseMethodDescriptor y.desc = some meth.sig)) = true) : (Jvm.Cond.code y bytes mx rt).before a s = true := by
  simp only [Bool.and_eq_true, beq_iff_eq, Bool.not_eq_true', decide_eq_true_eq] at h5
  obtain ⟨⟨⟨⟨⟨g1, g2⟩, g3⟩, g4⟩, g5⟩, g6⟩ := h5
  simp [Cond.before, Cond.holds, Cond.value, h1, h2, h3, h4, g1, g2, g3, g4, g5, g6]
def isCode : Jvm.Cond → Bool
  | .code _ _ _ _ => true
  | _ => false
theorem all_split {L : List Jvm.Cond} {P : Jvm.Cond → Bool} (h1 : L.all (fun c => isCode c || P c) = true) (h2 : ∀ c ∈ L.filter isCode, P c = true) : L.all P = true := by
  refine List.all_eq_true.mpr fun c hc => ?_
  have h := List.all_eq_true.mp h1 c hc
  rcases Bool.eq_false_or_eq_true (isCode c) with hi | hi
  · exact h2 c (List.mem_filter.mpr ⟨hc, hi⟩)
  · simpa [hi] using h
set_option maxRecDepth 65536 in
theorem w_c0 : (Jvm.Cond.code x code maxLocals ret).before args0 about1 = true := code_word (m := ⟨1, 3⟩) (meth := k1m3) (c := k1c3) (by decide +kernel) rfl rfl rfl (by decide +kernel)
set_option maxRecDepth 65536 in
theorem w_c1 : (Jvm.Cond.code ({ cls := "com/example/motley/motley/CountTreeAddPinLaw", name := "pick", desc := "(IJJJJJ)J" } : Jvm.MethodName) method_2_code (11 : Nat) (Option.some Jvm.ClassFile.FieldType.long)).before args0 about1 = true := code_word (m := ⟨1, 1⟩) (meth := k1m1) (c := k1c1) (by decide +kernel) rfl rfl rfl (by decide +kernel)
set_option maxRecDepth 65536 in
theorem w_c2 : (Jvm.Cond.code ({ cls := "com/example/motley/motley/CountTree", name := "<init>", desc := "()V" } : Jvm.MethodName) prog_14_method_1_code (1 : Nat) (Option.none : Option Jvm.ClassFile.FieldType)).before args0 about1 = true := code_word (m := ⟨2, 0⟩) (meth := k2m0) (c := k2c0) (by decide +kernel) rfl rfl rfl (by decide +kernel)
set_option maxRecDepth 65536 in
theorem w_c3 : (Jvm.Cond.code ({ cls := "java/lang/Object", name := "<init>", desc := "()V" } : Jvm.MethodName) object_method_1_code (1 : Nat) (Option.none : Option Jvm.ClassFile.FieldType)).before args0 about1 = true := code_word (m := ⟨0, 0⟩) (meth := k0m0) (c := k0c0) (by decide +kernel) rfl rfl rfl (by decide +kernel)
set_option maxRecDepth 65536 in
theorem w_c4 : (Jvm.Cond.code ({ cls := "com/example/motley/motley/CountTree", name := "append", desc := "(J)V" } : Jvm.MethodName) prog_14_method_4_code (3 : Nat) (Option.none : Option Jvm.ClassFile.FieldType)).before args0 about1 = true := code_word (m := ⟨2, 2⟩) (meth := k2m2) (c := k2c2) (by decide +kernel) rfl rfl rfl (by decide +kernel)
set_option maxRecDepth 65536 in
theorem w_c5 : (Jvm.Cond.code ({ cls := "com/example/motley/motley/CountTree", name := "reserve", desc := "(I)V" } : Jvm.MethodName) prog_14_method_3_code (7 : Nat) (Option.none : Option Jvm.ClassFile.FieldType)).before args0 about1 = true := code_word (m := ⟨2, 1⟩) (meth := k2m1) (c := k2c1) (by decide +kernel) rfl rfl rfl (by decide +kernel)
set_option maxRecDepth 65536 in
theorem w_c6 : (Jvm.Cond.code ({ cls := "java/lang/Math", name := "max", desc := "(II)I" } : Jvm.MethodName) jdk_29_method_65_code (2 : Nat) (Option.some Jvm.ClassFile.FieldType.int)).before args0 about1 = true := code_word (m := ⟨3, 1⟩) (meth := k3m1) (c := k3c1) (by decide +kernel) rfl rfl rfl (by decide +kernel)
set_option maxRecDepth 65536 in
theorem w_c7 : (Jvm.Cond.code ({ cls := "java/util/Arrays", name := "copyOf", desc := "([JI)[J" } : Jvm.MethodName) jdk_65_method_124_code (3 : Nat) (Option.some (Jvm.ClassFile.FieldType.array Jvm.ClassFile.FieldType.long))).before args0 about1 = true := code_word (m := ⟨4, 1⟩) (meth := k4m1) (c := k4c1) (by decide +kernel) rfl rfl rfl (by decide +kernel)
set_option maxRecDepth 65536 in
theorem w_c8 : (Jvm.Cond.code ({ cls := "java/lang/Math", name := "min", desc := "(II)I" } : Jvm.MethodName) jdk_29_method_69_code (2 : Nat) (Option.some Jvm.ClassFile.FieldType.int)).before args0 about1 = true := code_word (m := ⟨3, 2⟩) (meth := k3m2) (c := k3c2) (by decide +kernel) rfl rfl rfl (by decide +kernel)
set_option maxRecDepth 65536 in
theorem w_c9 : (Jvm.Cond.code ({ cls := "com/example/motley/motley/CountTree", name := "add", desc := "(IJ)V" } : Jvm.MethodName) prog_14_method_7_code (5 : Nat) (Option.none : Option Jvm.ClassFile.FieldType)).before args0 about1 = true := code_word (m := ⟨2, 5⟩) (meth := k2m5) (c := k2c5) (by decide +kernel) rfl rfl rfl (by decide +kernel)
set_option maxRecDepth 65536 in
theorem w_c10 : (Jvm.Cond.code ({ cls := "com/example/motley/motley/CountTree", name := "sumBefore", desc := "(I)J" } : Jvm.MethodName) prog_14_method_8_code (5 : Nat) (Option.some Jvm.ClassFile.FieldType.long)).before args0 about1 = true := code_word (m := ⟨2, 6⟩) (meth := k2m6) (c := k2c6) (by decide +kernel) rfl rfl rfl (by decide +kernel)
set_option maxRecDepth 65536 in
theorem w_c11 : (Jvm.Cond.code ({ cls := "com/example/motley/motley/CountTree", name := "total", desc := "()J" } : Jvm.MethodName) prog_14_method_5_code (1 : Nat) (Option.some Jvm.ClassFile.FieldType.long)).before args0 about1 = true := code_word (m := ⟨2, 3⟩) (meth := k2m3) (c := k2c3) (by decide +kernel) rfl rfl rfl (by decide +kernel)
set_option maxRecDepth 65536 in
theorem w_c12 : (Jvm.Cond.code ({ cls := "com/example/motley/motley/CountTree", name := "get", desc := "(I)J" } : Jvm.MethodName) prog_14_method_6_code (2 : Nat) (Option.some Jvm.ClassFile.FieldType.long)).before args0 about1 = true := code_word (m := ⟨2, 4⟩) (meth := k2m4) (c := k2c4) (by decide +kernel) rfl rfl rfl (by decide +kernel)
set_option maxRecDepth 65536 in
theorem w_c13 : (Jvm.Cond.code ({ cls := "com/example/motley/motley/CountTreeAddPinLaw", name := "prefix", desc := "(IJJJJJ)J" } : Jvm.MethodName) method_3_code (13 : Nat) (Option.some Jvm.ClassFile.FieldType.long)).before args0 about1 = true := code_word (m := ⟨1, 2⟩) (meth := k1m2) (c := k1c2) (by decide +kernel) rfl rfl rfl (by decide +kernel)
def codes1 : List Jvm.Cond := [Jvm.Cond.code x code maxLocals ret, Jvm.Cond.code ({ cls := "com/example/motley/motley/CountTreeAddPinLaw", name := "pick", desc := "(IJJJJJ)J" } : Jvm.MethodName) method_2_code (11 : Nat) (Option.some Jvm.ClassFile.FieldType.long), Jvm.Cond.code ({ cls := "com/example/motley/motley/CountTree", name := "<init>", desc := "()V" } : Jvm.MethodName) prog_14_method_1_code (1 : Nat) (Option.none : Option Jvm.ClassFile.FieldType), Jvm.Cond.code ({ cls := "java/lang/Object", name := "<init>", desc := "()V" } : Jvm.MethodName) object_method_1_code (1 : Nat) (Option.none : Option Jvm.ClassFile.FieldType), Jvm.Cond.code ({ cls := "com/example/motley/motley/CountTree", name := "append", desc := "(J)V" } : Jvm.MethodName) prog_14_method_4_code (3 : Nat) (Option.none : Option Jvm.ClassFile.FieldType), Jvm.Cond.code ({ cls := "com/example/motley/motley/CountTree", name := "reserve", desc := "(I)V" } : Jvm.MethodName) prog_14_method_3_code (7 : Nat) (Option.none : Option Jvm.ClassFile.FieldType), Jvm.Cond.code ({ cls := "java/lang/Math", name := "max", desc := "(II)I" } : Jvm.MethodName) jdk_29_method_65_code (2 : Nat) (Option.some Jvm.ClassFile.FieldType.int), Jvm.Cond.code ({ cls := "java/util/Arrays", name := "copyOf", desc := "([JI)[J" } : Jvm.MethodName) jdk_65_method_124_code (3 : Nat) (Option.some (Jvm.ClassFile.FieldType.array Jvm.ClassFile.FieldType.long)), Jvm.Cond.code ({ cls := "java/lang/Math", name := "min", desc := "(II)I" } : Jvm.MethodName) jdk_29_method_69_code (2 : Nat) (Option.some Jvm.ClassFile.FieldType.int), Jvm.Cond.code ({ cls := "com/example/motley/motley/CountTree", name := "add", desc := "(IJ)V" } : Jvm.MethodName) prog_14_method_7_code (5 : Nat) (Option.none : Option Jvm.ClassFile.FieldType), Jvm.Cond.code ({ cls := "com/example/motley/motley/CountTree", name := "sumBefore", desc := "(I)J" } : Jvm.MethodName) prog_14_method_8_code (5 : Nat) (Option.some Jvm.ClassFile.FieldType.long), Jvm.Cond.code ({ cls := "com/example/motley/motley/CountTree", name := "total", desc := "()J" } : Jvm.MethodName) prog_14_method_5_code (1 : Nat) (Option.some Jvm.ClassFile.FieldType.long), Jvm.Cond.code ({ cls := "com/example/motley/motley/CountTree", name := "get", desc := "(I)J" } : Jvm.MethodName) prog_14_method_6_code (2 : Nat) (Option.some Jvm.ClassFile.FieldType.long), Jvm.Cond.code ({ cls := "com/example/motley/motley/CountTreeAddPinLaw", name := "prefix", desc := "(IJJJJJ)J" } : Jvm.MethodName) method_3_code (13 : Nat) (Option.some Jvm.ClassFile.FieldType.long)]
set_option maxRecDepth 65536 in
theorem codes_eq : words1.filter isCode = codes1 := rfl
theorem w_codes : ∀ c ∈ words1.filter isCode, c.before args0 about1 = true := by
  rw [codes_eq]
  intro c hc
  simp only [codes1, List.mem_cons, List.not_mem_nil, or_false] at hc
  rcases hc with rfl | rfl | rfl | rfl | rfl | rfl | rfl | rfl | rfl | rfl | rfl | rfl | rfl | rfl
  · exact w_c0
  · exact w_c1
  · exact w_c2
  · exact w_c3
  · exact w_c4
  · exact w_c5
  · exact w_c6
  · exact w_c7
  · exact w_c8
  · exact w_c9
  · exact w_c10
  · exact w_c11
  · exact w_c12
  · exact w_c13
set_option maxRecDepth 65536 in
theorem w_t1 : (words1.take 24).all (fun c => isCode c || c.before args0 about1) = true := by decide +kernel
set_option maxRecDepth 65536 in
theorem w_t2 : ((words1.drop 24).take 24).all (fun c => isCode c || c.before args0 about1) = true := by decide +kernel
set_option maxRecDepth 65536 in
theorem w_t3 : (((words1.drop 24).drop 24).take 24).all (fun c => isCode c || c.before args0 about1) = true := by decide +kernel
set_option maxRecDepth 65536 in
theorem w_t4 : (((words1.drop 24).drop 24).drop 24).all (fun c => isCode c || c.before args0 about1) = true := by decide +kernel
theorem w_tables : (allAtoms (Jvm.Cond.code x code maxLocals ret :: tables_1)).before args0 about1 = true := by
  rw [allAtoms_all]
  show words1.all (fun c => c.before args0 about1) = true
  refine all_split ?_ w_codes
  rw [← List.take_append_drop 24 words1, List.all_append, w_t1, ← List.take_append_drop 24 (words1.drop 24), List.all_append, w_t2, ← List.take_append_drop 24 ((words1.drop 24).drop 24), List.all_append, w_t3, w_t4]
  rfl
set_option maxRecDepth 65536 in
theorem w_case : (Jvm.Cond.and given_1 narrow_1).before args0 about1 = true := by decide +kernel
theorem w_applies : (headSpec (Jvm.Cond.code x code maxLocals ret :: tables_1) room_1).applies x e0.platform about1 = true :=
  (Spec.applies_iff w_frames).mpr ⟨w_running, w_runnable, w_alone, w_named, w_hears, w_ripe, w_room, w_tables⟩
theorem atStart : AtStart classFile x code maxLocals ret World_1 tables_1 room_1 Calls_1 rest_1 Pre_1 launch0 p0 e0 about1 theMethod args0 below0 :=
  ⟨lists_1, trivial, launch0.admits_env _ _ _, launch0.least_env, fairChoices_fair.cas, fairChoices_fair.clock, w_frames, w_args, w_heap, w_applies, trivial, trivial, w_case⟩
end start1
theorem witness_1 : WitnessClaimed_1 := ⟨start1.p0, start1.e0, start1.about1, start1.theMethod, start1.args0, start1.below0, start1.atStart⟩
end Jvm.Pilot.@@N@@
