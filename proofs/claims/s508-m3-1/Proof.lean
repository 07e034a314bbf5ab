import JvmDerived
import JvmDerived.Pilot.@@N@@Statement
import JvmDerived.Pilot.@@N@@Code
set_option linter.unusedVariables false
set_option linter.unusedSimpArgs false
namespace Jvm.RoadKit
open Sem ClassFile Op Lib Jvm.Stand Jvm.Free Jvm.LawKit
section New
variable {p : Program} {l : Launch} {e : Env} {R : Room} {s : State} {m : MethodId} {args : Array Value} {below : List Frame} {meth : Method} {c : Code} {T : State} {locs : List Loc} {cells slots : Nat}
theorem retI (X : Stand p l e R s m args below meth c T locs cells slots) (hx : p.tables.exec = Jvm.exec) {pc : Nat} {Ls : Array Slot} {z : Int32} {rest : List Value} (hret : meth.sig.returnType = some .int) (hd : decode c.code pc = .ok (.ireturn, 1)) {fs : List Frame}
    (hl : ∀ (f : JFrame) (acts : List Action), f.method = m → f.locked = none → f.entered = [] → (doReturn e (T.setTop f) acts (some (.int z))).1 = T.setFrames fs) : Steps p.tables e below (T.setTop (mkF m pc Ls (.int z :: rest))) (T.setFrames fs) := by
  have hm' : T.vm.method? m = some meth := X.method'
  have hn : narrow .int (.int z) = .int z := rfl
  show Steps p.tables e below (T.setTop { method := m, pc := pc, locals := Ls, stack := _ :: rest, locked := none }) _
  jvm_step X.here [X.here.top, hx, hd, hm', hret, hn]
  first | (intro acts; rw [hl _ acts rfl rfl rfl]) | rw [hl _ _ rfl rfl rfl]
  exact Steps.refl _
theorem own_retJ (X : Stand p l e R s m args below meth c T locs cells slots) (hx : p.tables.exec = Jvm.exec) {pc : Nat} {Ls : Array Slot} {z : Int64} {rest : List Value} (hret : meth.sig.returnType = some .long) (hd : decode c.code pc = .ok (.lreturn, 1)) {fs : List Frame}
    (hl : ∀ (f : JFrame) (acts : List Action), f.method = m → f.locked = none → f.entered = [] → (doReturn e (T.setTop f) acts (some (.long z))).1 = T.setFrames fs) : Steps p.tables e below (T.setTop (mkF m pc Ls (.long z :: rest))) (T.setFrames fs) := by
  have hm' : T.vm.method? m = some meth := X.method'
  show Steps p.tables e below (T.setTop { method := m, pc := pc, locals := Ls, stack := _ :: rest, locked := none }) _
  jvm_step X.here [X.here.top, hx, hd, hm', hret, narrow]
  first | (intro acts; rw [hl _ acts rfl rfl rfl]) | rw [hl _ _ rfl rfl rfl]
  exact Steps.refl _
theorem own_join {n0 : Nat} (X : Stand p l e R s m args below meth c T locs cells slots) (N : Fr n0 locs) {h : Heap} (g g' : JFrame)
    (H : ∃ (T' : State) (locs' : List Loc), Stand p l e R s m args below meth c T' locs' cells slots ∧ Fr n0 locs' ∧ T'.heap = h ∧ ∀ t, Steps p.tables e below (T'.setTop g') t → Steps p.tables e below (T.setTop g) t) :
    ∃ (T' : State) (locs' : List Loc), Stand p l e R s m args below meth c T' locs' cells slots ∧ Fr n0 locs' ∧ T'.heap = h ∧ ∀ t, Steps p.tables e below (T'.setTop g') t → Steps p.tables e below (T.setTop g) t := H
theorem own_mono (X : Stand p l e R s m args below meth c T locs cells slots) {c' s' : Nat} (h1 : cells ≤ c') (h2 : slots ≤ s') : Stand p l e R s m args below meth c T locs c' s' :=
  ⟨X.admits, X.cas, X.clock, X.frames, X.room, X.hears, X.method, X.code, X.here, X.tail, X.warmed, X.limits, X.bytes, X.same.mono h1 h2⟩
theorem own_lrem {g : JFrame} {target : State} (X : Stand p l e R s m args below meth c T locs cells slots) (hx : p.tables.exec = Jvm.exec) (hg : g.method = m) {x y : Int64} {rest : List Value} (hd : decode c.code g.pc = .ok (.lrem, 1)) (hs : g.stack = .long y :: .long x :: rest) (hy : y ≠ 0)
    (hr : Steps p.tables e below (T.setTop { g with pc := g.pc + 1, stack := .long (x % y) :: rest }) target) : Steps p.tables e below (T.setTop g) target :=
  Jvm.Free.XS.lrem X.here hx hg hd hs hy (by rw [lrem_mod x y]; exact hr)
def Bya (Z : State) (h : Heap) (a : Addr) (z : Int32) (f : Int32 → Int32) : Prop := ∃ c : Cell, Arr Z h a c .byte ∧ c.slots.size = z.toNatClampNeg ∧ ∀ j : Int32, ¬ j < 0 → j < z → c.slots[j.toNatClampNeg]? = some (.int (f j))
theorem Bya.lt {Z : State} {h : Heap} {a : Addr} {z : Int32} {f : Int32 → Int32} (F : Bya Z h a z f) : a < h.size := by obtain ⟨c, A, -⟩ := F; exact A.lt
theorem Bya.ext {Z : State} {h h' : Heap} {a : Addr} {z : Int32} {f : Int32 → Int32} (F : Bya Z h a z f) (E : Ext h h') : Bya Z h' a z f := by obtain ⟨c, A, r⟩ := F; exact ⟨c, A.ext E, r⟩
theorem Bya.other {Z : State} {h h' : Heap} {a b : Addr} {z : Int32} {f : Int32 → Int32} {sl : Nat} {v : Value} (F : Bya Z h b z f) (W : Wr h h' a sl v) (q : b ≠ a) : Bya Z h' b z f := by obtain ⟨c, A, r⟩ := F; exact ⟨c, A.other W q, r⟩
theorem Bya.keep {Z : State} {h h' : Heap} {a : Addr} {z : Int32} {f : Int32 → Int32} {ws : List Addr} (F : Bya Z h a z f) (K : Keep h h' ws) (q : a ∉ ws) : Bya Z h' a z f := by obtain ⟨c, A, r⟩ := F; exact ⟨c, ⟨K.2.1 a c A.1 q, A.2⟩, r⟩
theorem Bya.set {Z : State} {h h' : Heap} {a : Addr} {z j v : Int32} {f : Int32 → Int32} {c : Cell} (A : Arr Z h a c .byte) (S : c.slots.size = z.toNatClampNeg) (H : ∀ j : Int32, ¬ j < 0 → j < z → c.slots[j.toNatClampNeg]? = some (.int (f j))) (hj : ¬ j < 0 ∧ j < z) (W : Wr h h' a j.toNatClampNeg (.int v)) : Bya Z h' a z (fun i => if i = j then v else f i) := by
  refine ⟨_, A.same W, by rw [sz_set]; exact S, fun i h1 h2 => ?_⟩
  by_cases q : i = j
  · rw [get_hit (inb_of S hj) q]; simp [q]
  · rw [get_miss hj.1 h1 q, H i h1 h2]; simp [q]
theorem Bya.of_arv {Z : State} {h : Heap} {a : Addr} {k : ClassId} {z : Int32} {vs : List Value} {es : List Int32} (F : Arv Z h a k .byte z vs (.int (0 : Int32))) (e : vs = es.map Value.int) : Bya Z h a z (fun i => es.getD i.toNatClampNeg 0) := by
  obtain ⟨c, A, -, S, -, H, -⟩ := F
  refine ⟨c, A, S, fun j h1 h2 => ?_⟩
  refine H.at (inb_of S ⟨h1, h2⟩) ?_
  subst e
  simp only [List.getD_eq_getElem?_getD, List.getElem?_map]
  cases es[j.toNatClampNeg]? <;> rfl
theorem own_b1 {x : Int32} (h : x = 1) : ¬ x = 0 := by rw [h]; decide
theorem own_cons {α : Type} {a b : α} {l m : List α} (h1 : a = b) (h2 : l = m) : a :: l = b :: m := by rw [h1, h2]
theorem own_arv {Z : State} {h : Heap} {a : Addr} {k : ClassId} {ty : FieldType} {z : Int32} {vs ws : List Value} {d : Value} (A : Arv Z h a k ty z vs d) (q : ws = vs) : Arv Z h a k ty z ws d := q ▸ A
theorem own_fld {Z : State} {h : Heap} {a : Addr} {C n d : String} {v w : Value} (F : Fld Z h a C n d v) (q : w = v) : Fld Z h a C n d w := q ▸ F
end New
end Jvm.RoadKit
namespace Jvm.Pilot.@@N@@
open Jvm Jvm.ClassFile Sem Op Lib Jvm.Free Jvm.Stand Jvm.LawKit Jvm.RoadKit Bundle Jvm.Pilot.@@N@@.Jvm.D
set_option maxRecDepth 65536
set_option maxHeartbeats 40000000
theorem ow0 {Z : State} {a0 : Array Value} (hw : ∀ d ∈ tables_1, d.before a0 Z = true) : (Jvm.Cond.classLink "com/example/holdback/holdback/util/StringIndexClearPinLaw" (12 : Nat) "com/example/holdback/holdback/util/StringIndex").before a0 Z = true := hw _ (List.mem_of_getElem? (i := 0) rfl)
theorem ow1 {Z : State} {a0 : Array Value} (hw : ∀ d ∈ tables_1, d.before a0 Z = true) : (Jvm.Cond.instantiable "com/example/holdback/holdback/util/StringIndex" (6 : Nat)).before a0 Z = true := hw _ (List.mem_of_getElem? (i := 1) rfl)
theorem ow2 {Z : State} {a0 : Array Value} (hw : ∀ d ∈ tables_1, d.before a0 Z = true) : (Jvm.Cond.initialized "com/example/holdback/holdback/util/StringIndex").before a0 Z = true := hw _ (List.mem_of_getElem? (i := 2) rfl)
theorem ow3 {Z : State} {a0 : Array Value} (hw : ∀ d ∈ tables_1, d.before a0 Z = true) : (Jvm.Cond.methodLink "com/example/holdback/holdback/util/StringIndexClearPinLaw" (14 : Nat) ({ cls := "com/example/holdback/holdback/util/StringIndex", name := "<init>", desc := "()V" } : Jvm.MethodName)).before a0 Z = true := hw _ (List.mem_of_getElem? (i := 3) rfl)
theorem ow4 {Z : State} {a0 : Array Value} (hw : ∀ d ∈ tables_1, d.before a0 Z = true) : (Jvm.Cond.instanceMethod ({ cls := "com/example/holdback/holdback/util/StringIndex", name := "<init>", desc := "()V" } : Jvm.MethodName)).before a0 Z = true := hw _ (List.mem_of_getElem? (i := 4) rfl)
theorem ow5 {Z : State} {a0 : Array Value} (hw : ∀ d ∈ tables_1, d.before a0 Z = true) : (Jvm.Cond.code ({ cls := "com/example/holdback/holdback/util/StringIndex", name := "<init>", desc := "()V" } : Jvm.MethodName) prog_76_method_1_code (1 : Nat) (Option.none : Option Jvm.ClassFile.FieldType)).before a0 Z = true := hw _ (List.mem_of_getElem? (i := 5) rfl)
theorem ow6 {Z : State} {a0 : Array Value} (hw : ∀ d ∈ tables_1, d.before a0 Z = true) : (Jvm.Cond.methodLink "com/example/holdback/holdback/util/StringIndex" (1 : Nat) ({ cls := "java/lang/Object", name := "<init>", desc := "()V" } : Jvm.MethodName)).before a0 Z = true := hw _ (List.mem_of_getElem? (i := 6) rfl)
theorem ow7 {Z : State} {a0 : Array Value} (hw : ∀ d ∈ tables_1, d.before a0 Z = true) : (Jvm.Cond.instanceMethod ({ cls := "java/lang/Object", name := "<init>", desc := "()V" } : Jvm.MethodName)).before a0 Z = true := hw _ (List.mem_of_getElem? (i := 7) rfl)
theorem ow8 {Z : State} {a0 : Array Value} (hw : ∀ d ∈ tables_1, d.before a0 Z = true) : (Jvm.Cond.code ({ cls := "java/lang/Object", name := "<init>", desc := "()V" } : Jvm.MethodName) object_method_1_code (1 : Nat) (Option.none : Option Jvm.ClassFile.FieldType)).before a0 Z = true := hw _ (List.mem_of_getElem? (i := 8) rfl)
theorem ow9 {Z : State} {a0 : Array Value} (hw : ∀ d ∈ tables_1, d.before a0 Z = true) : (Jvm.Cond.arrayClass Jvm.ClassFile.FieldType.char).before a0 Z = true := hw _ (List.mem_of_getElem? (i := 9) rfl)
theorem ow10 {Z : State} {a0 : Array Value} (hw : ∀ d ∈ tables_1, d.before a0 Z = true) : (Jvm.Cond.fieldLink "com/example/holdback/holdback/util/StringIndex" (9 : Nat) "com/example/holdback/holdback/util/StringIndex" "chars" "[C").before a0 Z = true := hw _ (List.mem_of_getElem? (i := 10) rfl)
theorem ow11 {Z : State} {a0 : Array Value} (hw : ∀ d ∈ tables_1, d.before a0 Z = true) : (Jvm.Cond.lays "com/example/holdback/holdback/util/StringIndex" "com/example/holdback/holdback/util/StringIndex" "chars" "[C").before a0 Z = true := hw _ (List.mem_of_getElem? (i := 11) rfl)
theorem ow12 {Z : State} {a0 : Array Value} (hw : ∀ d ∈ tables_1, d.before a0 Z = true) : (Jvm.Cond.arrayClass Jvm.ClassFile.FieldType.int).before a0 Z = true := hw _ (List.mem_of_getElem? (i := 12) rfl)
theorem ow13 {Z : State} {a0 : Array Value} (hw : ∀ d ∈ tables_1, d.before a0 Z = true) : (Jvm.Cond.fieldLink "com/example/holdback/holdback/util/StringIndex" (13 : Nat) "com/example/holdback/holdback/util/StringIndex" "starts" "[I").before a0 Z = true := hw _ (List.mem_of_getElem? (i := 13) rfl)
theorem ow14 {Z : State} {a0 : Array Value} (hw : ∀ d ∈ tables_1, d.before a0 Z = true) : (Jvm.Cond.lays "com/example/holdback/holdback/util/StringIndex" "com/example/holdback/holdback/util/StringIndex" "starts" "[I").before a0 Z = true := hw _ (List.mem_of_getElem? (i := 14) rfl)
theorem ow15 {Z : State} {a0 : Array Value} (hw : ∀ d ∈ tables_1, d.before a0 Z = true) : (Jvm.Cond.fieldLink "com/example/holdback/holdback/util/StringIndex" (17 : Nat) "com/example/holdback/holdback/util/StringIndex" "hashes" "[I").before a0 Z = true := hw _ (List.mem_of_getElem? (i := 15) rfl)
theorem ow16 {Z : State} {a0 : Array Value} (hw : ∀ d ∈ tables_1, d.before a0 Z = true) : (Jvm.Cond.lays "com/example/holdback/holdback/util/StringIndex" "com/example/holdback/holdback/util/StringIndex" "hashes" "[I").before a0 Z = true := hw _ (List.mem_of_getElem? (i := 16) rfl)
theorem ow17 {Z : State} {a0 : Array Value} (hw : ∀ d ∈ tables_1, d.before a0 Z = true) : (Jvm.Cond.fieldLink "com/example/holdback/holdback/util/StringIndex" (20 : Nat) "com/example/holdback/holdback/util/StringIndex" "slots" "[I").before a0 Z = true := hw _ (List.mem_of_getElem? (i := 17) rfl)
theorem ow18 {Z : State} {a0 : Array Value} (hw : ∀ d ∈ tables_1, d.before a0 Z = true) : (Jvm.Cond.lays "com/example/holdback/holdback/util/StringIndex" "com/example/holdback/holdback/util/StringIndex" "slots" "[I").before a0 Z = true := hw _ (List.mem_of_getElem? (i := 18) rfl)
theorem ow19 {Z : State} {a0 : Array Value} (hw : ∀ d ∈ tables_1, d.before a0 Z = true) : (Jvm.Cond.methodLink "com/example/holdback/holdback/util/StringIndexClearPinLaw" (15 : Nat) ({ cls := "com/example/holdback/holdback/util/StringIndexClearPinLaw", name := "mk", desc := "(I)Ljava/lang/String;" } : Jvm.MethodName)).before a0 Z = true := hw _ (List.mem_of_getElem? (i := 19) rfl)
theorem ow20 {Z : State} {a0 : Array Value} (hw : ∀ d ∈ tables_1, d.before a0 Z = true) : (Jvm.Cond.static ({ cls := "com/example/holdback/holdback/util/StringIndexClearPinLaw", name := "mk", desc := "(I)Ljava/lang/String;" } : Jvm.MethodName)).before a0 Z = true := hw _ (List.mem_of_getElem? (i := 20) rfl)
theorem ow21 {Z : State} {a0 : Array Value} (hw : ∀ d ∈ tables_1, d.before a0 Z = true) : (Jvm.Cond.initialized "com/example/holdback/holdback/util/StringIndexClearPinLaw").before a0 Z = true := hw _ (List.mem_of_getElem? (i := 21) rfl)
theorem ow22 {Z : State} {a0 : Array Value} (hw : ∀ d ∈ tables_1, d.before a0 Z = true) : (Jvm.Cond.code ({ cls := "com/example/holdback/holdback/util/StringIndexClearPinLaw", name := "mk", desc := "(I)Ljava/lang/String;" } : Jvm.MethodName) method_2_code (4 : Nat) (Option.some (Jvm.ClassFile.FieldType.object "java/lang/String"))).before a0 Z = true := hw _ (List.mem_of_getElem? (i := 22) rfl)
theorem ow23 {Z : State} {a0 : Array Value} (hw : ∀ d ∈ tables_1, d.before a0 Z = true) : (Jvm.Cond.classLink "com/example/holdback/holdback/util/StringIndexClearPinLaw" (7 : Nat) "java/lang/String").before a0 Z = true := hw _ (List.mem_of_getElem? (i := 23) rfl)
theorem ow24 {Z : State} {a0 : Array Value} (hw : ∀ d ∈ tables_1, d.before a0 Z = true) : (Jvm.Cond.instantiable "java/lang/String" (4 : Nat)).before a0 Z = true := hw _ (List.mem_of_getElem? (i := 24) rfl)
theorem ow25 {Z : State} {a0 : Array Value} (hw : ∀ d ∈ tables_1, d.before a0 Z = true) : (Jvm.Cond.initialized "java/lang/String").before a0 Z = true := hw _ (List.mem_of_getElem? (i := 25) rfl)
theorem ow26 {Z : State} {a0 : Array Value} (hw : ∀ d ∈ tables_1, d.before a0 Z = true) : (Jvm.Cond.methodLink "com/example/holdback/holdback/util/StringIndexClearPinLaw" (9 : Nat) ({ cls := "java/lang/String", name := "<init>", desc := "([C)V" } : Jvm.MethodName)).before a0 Z = true := hw _ (List.mem_of_getElem? (i := 26) rfl)
theorem ow27 {Z : State} {a0 : Array Value} (hw : ∀ d ∈ tables_1, d.before a0 Z = true) : (Jvm.Cond.instanceMethod ({ cls := "java/lang/String", name := "<init>", desc := "([C)V" } : Jvm.MethodName)).before a0 Z = true := hw _ (List.mem_of_getElem? (i := 27) rfl)
theorem ow28 {Z : State} {a0 : Array Value} (hw : ∀ d ∈ tables_1, d.before a0 Z = true) : (Jvm.Cond.code ({ cls := "java/lang/String", name := "<init>", desc := "([C)V" } : Jvm.MethodName) jdk_42_method_3_code (2 : Nat) (Option.none : Option Jvm.ClassFile.FieldType)).before a0 Z = true := hw _ (List.mem_of_getElem? (i := 28) rfl)
theorem ow29 {Z : State} {a0 : Array Value} (hw : ∀ d ∈ tables_1, d.before a0 Z = true) : (Jvm.Cond.methodLink "java/lang/String" (27 : Nat) ({ cls := "java/lang/String", name := "<init>", desc := "([CIILjava/lang/Void;)V" } : Jvm.MethodName)).before a0 Z = true := hw _ (List.mem_of_getElem? (i := 29) rfl)
theorem ow30 {Z : State} {a0 : Array Value} (hw : ∀ d ∈ tables_1, d.before a0 Z = true) : (Jvm.Cond.instanceMethod ({ cls := "java/lang/String", name := "<init>", desc := "([CIILjava/lang/Void;)V" } : Jvm.MethodName)).before a0 Z = true := hw _ (List.mem_of_getElem? (i := 30) rfl)
theorem ow32 {Z : State} {a0 : Array Value} (hw : ∀ d ∈ tables_1, d.before a0 Z = true) : (Jvm.Cond.code ({ cls := "java/lang/String", name := "<init>", desc := "([CIILjava/lang/Void;)V" } : Jvm.MethodName) jdk_42_method_149_code (6 : Nat) (Option.none : Option Jvm.ClassFile.FieldType)).before a0 Z = true := hw _ (List.mem_of_getElem? (i := 32) rfl)
theorem ow33 {Z : State} {a0 : Array Value} (hw : ∀ d ∈ tables_1, d.before a0 Z = true) : (Jvm.Cond.methodLink "java/lang/String" (1 : Nat) ({ cls := "java/lang/Object", name := "<init>", desc := "()V" } : Jvm.MethodName)).before a0 Z = true := hw _ (List.mem_of_getElem? (i := 33) rfl)
theorem ow34 {Z : State} {a0 : Array Value} (hw : ∀ d ∈ tables_1, d.before a0 Z = true) : (Jvm.Cond.stringLink "java/lang/String" (7 : Nat) "").before a0 Z = true := hw _ (List.mem_of_getElem? (i := 34) rfl)
theorem ow35 {Z : State} {a0 : Array Value} (hw : ∀ d ∈ tables_1, d.before a0 Z = true) : (Jvm.Cond.arrayClass Jvm.ClassFile.FieldType.byte).before a0 Z = true := hw _ (List.mem_of_getElem? (i := 35) rfl)
theorem ow36 {Z : State} {a0 : Array Value} (hw : ∀ d ∈ tables_1, d.before a0 Z = true) : (Jvm.Cond.laysFinal "java/lang/String" "java/lang/String" "value" "[B").before a0 Z = true := hw _ (List.mem_of_getElem? (i := 36) rfl)
theorem ow37 {Z : State} {a0 : Array Value} (hw : ∀ d ∈ tables_1, d.before a0 Z = true) : (Jvm.Cond.laysFinal "java/lang/String" "java/lang/String" "coder" "B").before a0 Z = true := hw _ (List.mem_of_getElem? (i := 37) rfl)
theorem ow38 {Z : State} {a0 : Array Value} (hw : ∀ d ∈ tables_1, d.before a0 Z = true) : (Jvm.Cond.soleField "java/lang/String" "value").before a0 Z = true := hw _ (List.mem_of_getElem? (i := 38) rfl)
theorem ow39 {Z : State} {a0 : Array Value} (hw : ∀ d ∈ tables_1, d.before a0 Z = true) : (Jvm.Cond.soleField "java/lang/String" "coder").before a0 Z = true := hw _ (List.mem_of_getElem? (i := 39) rfl)
theorem ow40 {Z : State} {a0 : Array Value} (hw : ∀ d ∈ tables_1, d.before a0 Z = true) : (Jvm.Cond.fieldLink "java/lang/String" (9 : Nat) "java/lang/String" "value" "[B").before a0 Z = true := hw _ (List.mem_of_getElem? (i := 40) rfl)
theorem ow41 {Z : State} {a0 : Array Value} (hw : ∀ d ∈ tables_1, d.before a0 Z = true) : (Jvm.Cond.fieldLink "java/lang/String" (15 : Nat) "java/lang/String" "coder" "B").before a0 Z = true := hw _ (List.mem_of_getElem? (i := 41) rfl)
theorem ow42 {Z : State} {a0 : Array Value} (hw : ∀ d ∈ tables_1, d.before a0 Z = true) : (Jvm.Cond.methodLink "com/example/holdback/holdback/util/StringIndexClearPinLaw" (21 : Nat) ({ cls := "com/example/holdback/holdback/util/StringIndex", name := "add", desc := "(Ljava/lang/String;)I" } : Jvm.MethodName)).before a0 Z = true := hw _ (List.mem_of_getElem? (i := 42) rfl)
theorem ow43 {Z : State} {a0 : Array Value} (hw : ∀ d ∈ tables_1, d.before a0 Z = true) : (Jvm.Cond.declares ({ cls := "com/example/holdback/holdback/util/StringIndex", name := "add", desc := "(Ljava/lang/String;)I" } : Jvm.MethodName)).before a0 Z = true := hw _ (List.mem_of_getElem? (i := 43) rfl)
theorem ow44 {Z : State} {a0 : Array Value} (hw : ∀ d ∈ tables_1, d.before a0 Z = true) : (Jvm.Cond.instanceMethod ({ cls := "com/example/holdback/holdback/util/StringIndex", name := "add", desc := "(Ljava/lang/String;)I" } : Jvm.MethodName)).before a0 Z = true := hw _ (List.mem_of_getElem? (i := 44) rfl)
theorem ow45 {Z : State} {a0 : Array Value} (hw : ∀ d ∈ tables_1, d.before a0 Z = true) : (Jvm.Cond.selects "com/example/holdback/holdback/util/StringIndex" ({ cls := "com/example/holdback/holdback/util/StringIndex", name := "add", desc := "(Ljava/lang/String;)I" } : Jvm.MethodName) ({ cls := "com/example/holdback/holdback/util/StringIndex", name := "add", desc := "(Ljava/lang/String;)I" } : Jvm.MethodName)).before a0 Z = true := hw _ (List.mem_of_getElem? (i := 45) rfl)
theorem ow46 {Z : State} {a0 : Array Value} (hw : ∀ d ∈ tables_1, d.before a0 Z = true) : (Jvm.Cond.code ({ cls := "com/example/holdback/holdback/util/StringIndex", name := "add", desc := "(Ljava/lang/String;)I" } : Jvm.MethodName) prog_76_method_7_code (5 : Nat) (Option.some Jvm.ClassFile.FieldType.int)).before a0 Z = true := hw _ (List.mem_of_getElem? (i := 46) rfl)
theorem ow47 {Z : State} {a0 : Array Value} (hw : ∀ d ∈ tables_1, d.before a0 Z = true) : (Jvm.Cond.methodLink "com/example/holdback/holdback/util/StringIndex" (57 : Nat) ({ cls := "java/lang/String", name := "hashCode", desc := "()I" } : Jvm.MethodName)).before a0 Z = true := hw _ (List.mem_of_getElem? (i := 47) rfl)
theorem ow48 {Z : State} {a0 : Array Value} (hw : ∀ d ∈ tables_1, d.before a0 Z = true) : (Jvm.Cond.declares ({ cls := "java/lang/String", name := "hashCode", desc := "()I" } : Jvm.MethodName)).before a0 Z = true := hw _ (List.mem_of_getElem? (i := 48) rfl)
theorem ow49 {Z : State} {a0 : Array Value} (hw : ∀ d ∈ tables_1, d.before a0 Z = true) : (Jvm.Cond.instanceMethod ({ cls := "java/lang/String", name := "hashCode", desc := "()I" } : Jvm.MethodName)).before a0 Z = true := hw _ (List.mem_of_getElem? (i := 49) rfl)
theorem ow50 {Z : State} {a0 : Array Value} (hw : ∀ d ∈ tables_1, d.before a0 Z = true) : (Jvm.Cond.selects "java/lang/String" ({ cls := "java/lang/String", name := "hashCode", desc := "()I" } : Jvm.MethodName) ({ cls := "java/lang/String", name := "hashCode", desc := "()I" } : Jvm.MethodName)).before a0 Z = true := hw _ (List.mem_of_getElem? (i := 50) rfl)
theorem ow51 {Z : State} {a0 : Array Value} (hw : ∀ d ∈ tables_1, d.before a0 Z = true) : (Jvm.Cond.code ({ cls := "java/lang/String", name := "hashCode", desc := "()I" } : Jvm.MethodName) jdk_42_method_78_code (2 : Nat) (Option.some Jvm.ClassFile.FieldType.int)).before a0 Z = true := hw _ (List.mem_of_getElem? (i := 51) rfl)
theorem ow52 {Z : State} {a0 : Array Value} (hw : ∀ d ∈ tables_1, d.before a0 Z = true) : (Jvm.Cond.fieldLink "java/lang/String" (19 : Nat) "java/lang/String" "hash" "I").before a0 Z = true := hw _ (List.mem_of_getElem? (i := 52) rfl)
theorem ow53 {Z : State} {a0 : Array Value} (hw : ∀ d ∈ tables_1, d.before a0 Z = true) : (Jvm.Cond.lays "java/lang/String" "java/lang/String" "hash" "I").before a0 Z = true := hw _ (List.mem_of_getElem? (i := 53) rfl)
theorem ow54 {Z : State} {a0 : Array Value} (hw : ∀ d ∈ tables_1, d.before a0 Z = true) : (Jvm.Cond.fieldLink "java/lang/String" (23 : Nat) "java/lang/String" "hashIsZero" "Z").before a0 Z = true := hw _ (List.mem_of_getElem? (i := 54) rfl)
theorem ow55 {Z : State} {a0 : Array Value} (hw : ∀ d ∈ tables_1, d.before a0 Z = true) : (Jvm.Cond.lays "java/lang/String" "java/lang/String" "hashIsZero" "Z").before a0 Z = true := hw _ (List.mem_of_getElem? (i := 55) rfl)
theorem ow56 {Z : State} {a0 : Array Value} (hw : ∀ d ∈ tables_1, d.before a0 Z = true) : (Jvm.Cond.methodLink "java/lang/String" (492 : Nat) ({ cls := "java/lang/String", name := "isLatin1", desc := "()Z" } : Jvm.MethodName)).before a0 Z = true := hw _ (List.mem_of_getElem? (i := 56) rfl)
theorem ow57 {Z : State} {a0 : Array Value} (hw : ∀ d ∈ tables_1, d.before a0 Z = true) : (Jvm.Cond.declares ({ cls := "java/lang/String", name := "isLatin1", desc := "()Z" } : Jvm.MethodName)).before a0 Z = true := hw _ (List.mem_of_getElem? (i := 57) rfl)
theorem ow58 {Z : State} {a0 : Array Value} (hw : ∀ d ∈ tables_1, d.before a0 Z = true) : (Jvm.Cond.instanceMethod ({ cls := "java/lang/String", name := "isLatin1", desc := "()Z" } : Jvm.MethodName)).before a0 Z = true := hw _ (List.mem_of_getElem? (i := 58) rfl)
theorem ow59 {Z : State} {a0 : Array Value} (hw : ∀ d ∈ tables_1, d.before a0 Z = true) : (Jvm.Cond.selects "java/lang/String" ({ cls := "java/lang/String", name := "isLatin1", desc := "()Z" } : Jvm.MethodName) ({ cls := "java/lang/String", name := "isLatin1", desc := "()Z" } : Jvm.MethodName)).before a0 Z = true := hw _ (List.mem_of_getElem? (i := 59) rfl)
theorem ow60 {Z : State} {a0 : Array Value} (hw : ∀ d ∈ tables_1, d.before a0 Z = true) : (Jvm.Cond.code ({ cls := "java/lang/String", name := "isLatin1", desc := "()Z" } : Jvm.MethodName) jdk_42_method_154_code (1 : Nat) (Option.some Jvm.ClassFile.FieldType.boolean)).before a0 Z = true := hw _ (List.mem_of_getElem? (i := 60) rfl)
theorem ow61 {Z : State} {a0 : Array Value} (hw : ∀ d ∈ tables_1, d.before a0 Z = true) : (Jvm.Cond.fieldLink "java/lang/String" (38 : Nat) "java/lang/String" "COMPACT_STRINGS" "Z").before a0 Z = true := hw _ (List.mem_of_getElem? (i := 61) rfl)
theorem ow62 {Z : State} {a0 : Array Value} (hw : ∀ d ∈ tables_1, d.before a0 Z = true) : (Jvm.Cond.methodLink "java/lang/String" (628 : Nat) ({ cls := "java/lang/StringLatin1", name := "hashCode", desc := "([B)I" } : Jvm.MethodName)).before a0 Z = true := hw _ (List.mem_of_getElem? (i := 62) rfl)
theorem ow63 {Z : State} {a0 : Array Value} (hw : ∀ d ∈ tables_1, d.before a0 Z = true) : (Jvm.Cond.static ({ cls := "java/lang/StringLatin1", name := "hashCode", desc := "([B)I" } : Jvm.MethodName)).before a0 Z = true := hw _ (List.mem_of_getElem? (i := 63) rfl)
theorem ow64 {Z : State} {a0 : Array Value} (hw : ∀ d ∈ tables_1, d.before a0 Z = true) : (Jvm.Cond.initialized "java/lang/StringLatin1").before a0 Z = true := hw _ (List.mem_of_getElem? (i := 64) rfl)
theorem ow65 {Z : State} {a0 : Array Value} (hw : ∀ d ∈ tables_1, d.before a0 Z = true) : (Jvm.Cond.code ({ cls := "java/lang/StringLatin1", name := "hashCode", desc := "([B)I" } : Jvm.MethodName) jdk_43_method_21_code (1 : Nat) (Option.some Jvm.ClassFile.FieldType.int)).before a0 Z = true := hw _ (List.mem_of_getElem? (i := 65) rfl)
theorem ow66 {Z : State} {a0 : Array Value} (hw : ∀ d ∈ tables_1, d.before a0 Z = true) : (Jvm.Cond.methodLink "com/example/holdback/holdback/util/StringIndex" (62 : Nat) ({ cls := "com/example/holdback/holdback/util/StringIndex", name := "find", desc := "(Ljava/lang/String;I)I" } : Jvm.MethodName)).before a0 Z = true := hw _ (List.mem_of_getElem? (i := 66) rfl)
theorem ow67 {Z : State} {a0 : Array Value} (hw : ∀ d ∈ tables_1, d.before a0 Z = true) : (Jvm.Cond.instanceMethod ({ cls := "com/example/holdback/holdback/util/StringIndex", name := "find", desc := "(Ljava/lang/String;I)I" } : Jvm.MethodName)).before a0 Z = true := hw _ (List.mem_of_getElem? (i := 67) rfl)
theorem ow68 {Z : State} {a0 : Array Value} (hw : ∀ d ∈ tables_1, d.before a0 Z = true) : (Jvm.Cond.privateMethod ({ cls := "com/example/holdback/holdback/util/StringIndex", name := "find", desc := "(Ljava/lang/String;I)I" } : Jvm.MethodName)).before a0 Z = true := hw _ (List.mem_of_getElem? (i := 68) rfl)
theorem ow69 {Z : State} {a0 : Array Value} (hw : ∀ d ∈ tables_1, d.before a0 Z = true) : (Jvm.Cond.code ({ cls := "com/example/holdback/holdback/util/StringIndex", name := "find", desc := "(Ljava/lang/String;I)I" } : Jvm.MethodName) prog_76_method_9_code (6 : Nat) (Option.some Jvm.ClassFile.FieldType.int)).before a0 Z = true := hw _ (List.mem_of_getElem? (i := 69) rfl)
theorem ow70 {Z : State} {a0 : Array Value} (hw : ∀ d ∈ tables_1, d.before a0 Z = true) : (Jvm.Cond.methodLink "com/example/holdback/holdback/util/StringIndex" (83 : Nat) ({ cls := "com/example/holdback/holdback/util/StringIndex", name := "spread", desc := "(I)I" } : Jvm.MethodName)).before a0 Z = true := hw _ (List.mem_of_getElem? (i := 70) rfl)
theorem ow71 {Z : State} {a0 : Array Value} (hw : ∀ d ∈ tables_1, d.before a0 Z = true) : (Jvm.Cond.static ({ cls := "com/example/holdback/holdback/util/StringIndex", name := "spread", desc := "(I)I" } : Jvm.MethodName)).before a0 Z = true := hw _ (List.mem_of_getElem? (i := 71) rfl)
theorem ow72 {Z : State} {a0 : Array Value} (hw : ∀ d ∈ tables_1, d.before a0 Z = true) : (Jvm.Cond.code ({ cls := "com/example/holdback/holdback/util/StringIndex", name := "spread", desc := "(I)I" } : Jvm.MethodName) prog_76_method_13_code (2 : Nat) (Option.some Jvm.ClassFile.FieldType.int)).before a0 Z = true := hw _ (List.mem_of_getElem? (i := 72) rfl)
theorem ow73 {Z : State} {a0 : Array Value} (hw : ∀ d ∈ tables_1, d.before a0 Z = true) : (Jvm.Cond.constant "com/example/holdback/holdback/util/StringIndex" (114 : Nat) (-2048144789 : Int32)).before a0 Z = true := hw _ (List.mem_of_getElem? (i := 73) rfl)
theorem ow74 {Z : State} {a0 : Array Value} (hw : ∀ d ∈ tables_1, d.before a0 Z = true) : (Jvm.Cond.fieldLink "com/example/holdback/holdback/util/StringIndex" (23 : Nat) "com/example/holdback/holdback/util/StringIndex" "size" "I").before a0 Z = true := hw _ (List.mem_of_getElem? (i := 74) rfl)
theorem ow75 {Z : State} {a0 : Array Value} (hw : ∀ d ∈ tables_1, d.before a0 Z = true) : (Jvm.Cond.lays "com/example/holdback/holdback/util/StringIndex" "com/example/holdback/holdback/util/StringIndex" "size" "I").before a0 Z = true := hw _ (List.mem_of_getElem? (i := 75) rfl)
theorem ow76 {Z : State} {a0 : Array Value} (hw : ∀ d ∈ tables_1, d.before a0 Z = true) : (Jvm.Cond.methodLink "com/example/holdback/holdback/util/StringIndex" (66 : Nat) ({ cls := "com/example/holdback/holdback/util/StringIndex", name := "append", desc := "(Ljava/lang/String;I)V" } : Jvm.MethodName)).before a0 Z = true := hw _ (List.mem_of_getElem? (i := 76) rfl)
theorem ow77 {Z : State} {a0 : Array Value} (hw : ∀ d ∈ tables_1, d.before a0 Z = true) : (Jvm.Cond.instanceMethod ({ cls := "com/example/holdback/holdback/util/StringIndex", name := "append", desc := "(Ljava/lang/String;I)V" } : Jvm.MethodName)).before a0 Z = true := hw _ (List.mem_of_getElem? (i := 77) rfl)
theorem ow78 {Z : State} {a0 : Array Value} (hw : ∀ d ∈ tables_1, d.before a0 Z = true) : (Jvm.Cond.privateMethod ({ cls := "com/example/holdback/holdback/util/StringIndex", name := "append", desc := "(Ljava/lang/String;I)V" } : Jvm.MethodName)).before a0 Z = true := hw _ (List.mem_of_getElem? (i := 78) rfl)
theorem ow79 {Z : State} {a0 : Array Value} (hw : ∀ d ∈ tables_1, d.before a0 Z = true) : (Jvm.Cond.code ({ cls := "com/example/holdback/holdback/util/StringIndex", name := "append", desc := "(Ljava/lang/String;I)V" } : Jvm.MethodName) prog_76_method_11_code (3 : Nat) (Option.none : Option Jvm.ClassFile.FieldType)).before a0 Z = true := hw _ (List.mem_of_getElem? (i := 79) rfl)
theorem ow80 {Z : State} {a0 : Array Value} (hw : ∀ d ∈ tables_1, d.before a0 Z = true) : (Jvm.Cond.fieldLink "com/example/holdback/holdback/util/StringIndex" (80 : Nat) "com/example/holdback/holdback/util/StringIndex" "charCount" "I").before a0 Z = true := hw _ (List.mem_of_getElem? (i := 80) rfl)
theorem ow81 {Z : State} {a0 : Array Value} (hw : ∀ d ∈ tables_1, d.before a0 Z = true) : (Jvm.Cond.lays "com/example/holdback/holdback/util/StringIndex" "com/example/holdback/holdback/util/StringIndex" "charCount" "I").before a0 Z = true := hw _ (List.mem_of_getElem? (i := 81) rfl)
theorem ow82 {Z : State} {a0 : Array Value} (hw : ∀ d ∈ tables_1, d.before a0 Z = true) : (Jvm.Cond.methodLink "com/example/holdback/holdback/util/StringIndex" (91 : Nat) ({ cls := "java/lang/String", name := "length", desc := "()I" } : Jvm.MethodName)).before a0 Z = true := hw _ (List.mem_of_getElem? (i := 82) rfl)
theorem ow83 {Z : State} {a0 : Array Value} (hw : ∀ d ∈ tables_1, d.before a0 Z = true) : (Jvm.Cond.declares ({ cls := "java/lang/String", name := "length", desc := "()I" } : Jvm.MethodName)).before a0 Z = true := hw _ (List.mem_of_getElem? (i := 83) rfl)
theorem ow84 {Z : State} {a0 : Array Value} (hw : ∀ d ∈ tables_1, d.before a0 Z = true) : (Jvm.Cond.instanceMethod ({ cls := "java/lang/String", name := "length", desc := "()I" } : Jvm.MethodName)).before a0 Z = true := hw _ (List.mem_of_getElem? (i := 84) rfl)
theorem ow85 {Z : State} {a0 : Array Value} (hw : ∀ d ∈ tables_1, d.before a0 Z = true) : (Jvm.Cond.selects "java/lang/String" ({ cls := "java/lang/String", name := "length", desc := "()I" } : Jvm.MethodName) ({ cls := "java/lang/String", name := "length", desc := "()I" } : Jvm.MethodName)).before a0 Z = true := hw _ (List.mem_of_getElem? (i := 85) rfl)
theorem ow86 {Z : State} {a0 : Array Value} (hw : ∀ d ∈ tables_1, d.before a0 Z = true) : (Jvm.Cond.code ({ cls := "java/lang/String", name := "length", desc := "()I" } : Jvm.MethodName) jdk_42_method_54_code (1 : Nat) (Option.some Jvm.ClassFile.FieldType.int)).before a0 Z = true := hw _ (List.mem_of_getElem? (i := 86) rfl)
theorem ow87 {Z : State} {a0 : Array Value} (hw : ∀ d ∈ tables_1, d.before a0 Z = true) : (Jvm.Cond.methodLink "java/lang/String" (335 : Nat) ({ cls := "java/lang/String", name := "coder", desc := "()B" } : Jvm.MethodName)).before a0 Z = true := hw _ (List.mem_of_getElem? (i := 87) rfl)
theorem ow88 {Z : State} {a0 : Array Value} (hw : ∀ d ∈ tables_1, d.before a0 Z = true) : (Jvm.Cond.declares ({ cls := "java/lang/String", name := "coder", desc := "()B" } : Jvm.MethodName)).before a0 Z = true := hw _ (List.mem_of_getElem? (i := 88) rfl)
theorem ow89 {Z : State} {a0 : Array Value} (hw : ∀ d ∈ tables_1, d.before a0 Z = true) : (Jvm.Cond.instanceMethod ({ cls := "java/lang/String", name := "coder", desc := "()B" } : Jvm.MethodName)).before a0 Z = true := hw _ (List.mem_of_getElem? (i := 89) rfl)
theorem ow90 {Z : State} {a0 : Array Value} (hw : ∀ d ∈ tables_1, d.before a0 Z = true) : (Jvm.Cond.selects "java/lang/String" ({ cls := "java/lang/String", name := "coder", desc := "()B" } : Jvm.MethodName) ({ cls := "java/lang/String", name := "coder", desc := "()B" } : Jvm.MethodName)).before a0 Z = true := hw _ (List.mem_of_getElem? (i := 90) rfl)
theorem ow91 {Z : State} {a0 : Array Value} (hw : ∀ d ∈ tables_1, d.before a0 Z = true) : (Jvm.Cond.code ({ cls := "java/lang/String", name := "coder", desc := "()B" } : Jvm.MethodName) jdk_42_method_152_code (1 : Nat) (Option.some Jvm.ClassFile.FieldType.byte)).before a0 Z = true := hw _ (List.mem_of_getElem? (i := 91) rfl)
theorem ow92 {Z : State} {a0 : Array Value} (hw : ∀ d ∈ tables_1, d.before a0 Z = true) : (Jvm.Cond.methodLink "com/example/holdback/holdback/util/StringIndex" (110 : Nat) ({ cls := "java/lang/String", name := "getChars", desc := "(II[CI)V" } : Jvm.MethodName)).before a0 Z = true := hw _ (List.mem_of_getElem? (i := 92) rfl)
theorem ow93 {Z : State} {a0 : Array Value} (hw : ∀ d ∈ tables_1, d.before a0 Z = true) : (Jvm.Cond.declares ({ cls := "java/lang/String", name := "getChars", desc := "(II[CI)V" } : Jvm.MethodName)).before a0 Z = true := hw _ (List.mem_of_getElem? (i := 93) rfl)
theorem ow94 {Z : State} {a0 : Array Value} (hw : ∀ d ∈ tables_1, d.before a0 Z = true) : (Jvm.Cond.instanceMethod ({ cls := "java/lang/String", name := "getChars", desc := "(II[CI)V" } : Jvm.MethodName)).before a0 Z = true := hw _ (List.mem_of_getElem? (i := 94) rfl)
theorem ow95 {Z : State} {a0 : Array Value} (hw : ∀ d ∈ tables_1, d.before a0 Z = true) : (Jvm.Cond.selects "java/lang/String" ({ cls := "java/lang/String", name := "getChars", desc := "(II[CI)V" } : Jvm.MethodName) ({ cls := "java/lang/String", name := "getChars", desc := "(II[CI)V" } : Jvm.MethodName)).before a0 Z = true := hw _ (List.mem_of_getElem? (i := 95) rfl)
theorem ow96 {Z : State} {a0 : Array Value} (hw : ∀ d ∈ tables_1, d.before a0 Z = true) : (Jvm.Cond.code ({ cls := "java/lang/String", name := "getChars", desc := "(II[CI)V" } : Jvm.MethodName) jdk_42_method_61_code (5 : Nat) (Option.none : Option Jvm.ClassFile.FieldType)).before a0 Z = true := hw _ (List.mem_of_getElem? (i := 96) rfl)
theorem ow97 {Z : State} {a0 : Array Value} (hw : ∀ d ∈ tables_1, d.before a0 Z = true) : (Jvm.Cond.methodLink "java/lang/String" (505 : Nat) ({ cls := "java/lang/String", name := "length", desc := "()I" } : Jvm.MethodName)).before a0 Z = true := hw _ (List.mem_of_getElem? (i := 97) rfl)
theorem ow98 {Z : State} {a0 : Array Value} (hw : ∀ d ∈ tables_1, d.before a0 Z = true) : (Jvm.Cond.methodLink "java/lang/String" (521 : Nat) ({ cls := "java/lang/String", name := "checkBoundsBeginEnd", desc := "(III)V" } : Jvm.MethodName)).before a0 Z = true := hw _ (List.mem_of_getElem? (i := 98) rfl)
theorem ow99 {Z : State} {a0 : Array Value} (hw : ∀ d ∈ tables_1, d.before a0 Z = true) : (Jvm.Cond.static ({ cls := "java/lang/String", name := "checkBoundsBeginEnd", desc := "(III)V" } : Jvm.MethodName)).before a0 Z = true := hw _ (List.mem_of_getElem? (i := 99) rfl)
theorem ow100 {Z : State} {a0 : Array Value} (hw : ∀ d ∈ tables_1, d.before a0 Z = true) : (Jvm.Cond.code ({ cls := "java/lang/String", name := "checkBoundsBeginEnd", desc := "(III)V" } : Jvm.MethodName) jdk_42_method_158_code (3 : Nat) (Option.none : Option Jvm.ClassFile.FieldType)).before a0 Z = true := hw _ (List.mem_of_getElem? (i := 100) rfl)
theorem ow101 {Z : State} {a0 : Array Value} (hw : ∀ d ∈ tables_1, d.before a0 Z = true) : (Jvm.Cond.fieldLink "java/lang/String" (1053 : Nat) "jdk/internal/util/Preconditions" "SIOOBE_FORMATTER" "Ljava/util/function/BiFunction;").before a0 Z = true := hw _ (List.mem_of_getElem? (i := 101) rfl)
theorem ow102 {Z : State} {a0 : Array Value} (hw : ∀ d ∈ tables_1, d.before a0 Z = true) : (Jvm.Cond.initialized "jdk/internal/util/Preconditions").before a0 Z = true := hw _ (List.mem_of_getElem? (i := 102) rfl)
theorem ow103 {Z : State} {a0 : Array Value} (hw : ∀ d ∈ tables_1, d.before a0 Z = true) : (Jvm.Cond.methodLink "java/lang/String" (1062 : Nat) ({ cls := "jdk/internal/util/Preconditions", name := "checkFromToIndex", desc := "(IIILjava/util/function/BiFunction;)I" } : Jvm.MethodName)).before a0 Z = true := hw _ (List.mem_of_getElem? (i := 103) rfl)
theorem ow104 {Z : State} {a0 : Array Value} (hw : ∀ d ∈ tables_1, d.before a0 Z = true) : (Jvm.Cond.static ({ cls := "jdk/internal/util/Preconditions", name := "checkFromToIndex", desc := "(IIILjava/util/function/BiFunction;)I" } : Jvm.MethodName)).before a0 Z = true := hw _ (List.mem_of_getElem? (i := 104) rfl)
theorem ow105 {Z : State} {a0 : Array Value} (hw : ∀ d ∈ tables_1, d.before a0 Z = true) : (Jvm.Cond.code ({ cls := "jdk/internal/util/Preconditions", name := "checkFromToIndex", desc := "(IIILjava/util/function/BiFunction;)I" } : Jvm.MethodName) jdk_41_method_12_code (4 : Nat) (Option.some Jvm.ClassFile.FieldType.int)).before a0 Z = true := hw _ (List.mem_of_getElem? (i := 105) rfl)
theorem ow106 {Z : State} {a0 : Array Value} (hw : ∀ d ∈ tables_1, d.before a0 Z = true) : (Jvm.Cond.methodLink "java/lang/String" (34 : Nat) ({ cls := "java/lang/String", name := "checkBoundsOffCount", desc := "(III)I" } : Jvm.MethodName)).before a0 Z = true := hw _ (List.mem_of_getElem? (i := 106) rfl)
theorem ow107 {Z : State} {a0 : Array Value} (hw : ∀ d ∈ tables_1, d.before a0 Z = true) : (Jvm.Cond.static ({ cls := "java/lang/String", name := "checkBoundsOffCount", desc := "(III)I" } : Jvm.MethodName)).before a0 Z = true := hw _ (List.mem_of_getElem? (i := 107) rfl)
theorem ow108 {Z : State} {a0 : Array Value} (hw : ∀ d ∈ tables_1, d.before a0 Z = true) : (Jvm.Cond.code ({ cls := "java/lang/String", name := "checkBoundsOffCount", desc := "(III)I" } : Jvm.MethodName) jdk_42_method_157_code (3 : Nat) (Option.some Jvm.ClassFile.FieldType.int)).before a0 Z = true := hw _ (List.mem_of_getElem? (i := 108) rfl)
theorem ow109 {Z : State} {a0 : Array Value} (hw : ∀ d ∈ tables_1, d.before a0 Z = true) : (Jvm.Cond.methodLink "java/lang/String" (1065 : Nat) ({ cls := "jdk/internal/util/Preconditions", name := "checkFromIndexSize", desc := "(IIILjava/util/function/BiFunction;)I" } : Jvm.MethodName)).before a0 Z = true := hw _ (List.mem_of_getElem? (i := 109) rfl)
theorem ow110 {Z : State} {a0 : Array Value} (hw : ∀ d ∈ tables_1, d.before a0 Z = true) : (Jvm.Cond.static ({ cls := "jdk/internal/util/Preconditions", name := "checkFromIndexSize", desc := "(IIILjava/util/function/BiFunction;)I" } : Jvm.MethodName)).before a0 Z = true := hw _ (List.mem_of_getElem? (i := 110) rfl)
theorem ow111 {Z : State} {a0 : Array Value} (hw : ∀ d ∈ tables_1, d.before a0 Z = true) : (Jvm.Cond.code ({ cls := "jdk/internal/util/Preconditions", name := "checkFromIndexSize", desc := "(IIILjava/util/function/BiFunction;)I" } : Jvm.MethodName) jdk_41_method_13_code (4 : Nat) (Option.some Jvm.ClassFile.FieldType.int)).before a0 Z = true := hw _ (List.mem_of_getElem? (i := 111) rfl)
theorem ow112 {Z : State} {a0 : Array Value} (hw : ∀ d ∈ tables_1, d.before a0 Z = true) : (Jvm.Cond.methodLink "java/lang/String" (525 : Nat) ({ cls := "java/lang/StringLatin1", name := "getChars", desc := "([BII[CI)V" } : Jvm.MethodName)).before a0 Z = true := hw _ (List.mem_of_getElem? (i := 112) rfl)
theorem ow113 {Z : State} {a0 : Array Value} (hw : ∀ d ∈ tables_1, d.before a0 Z = true) : (Jvm.Cond.static ({ cls := "java/lang/StringLatin1", name := "getChars", desc := "([BII[CI)V" } : Jvm.MethodName)).before a0 Z = true := hw _ (List.mem_of_getElem? (i := 113) rfl)
theorem ow114 {Z : State} {a0 : Array Value} (hw : ∀ d ∈ tables_1, d.before a0 Z = true) : (Jvm.Cond.code ({ cls := "java/lang/StringLatin1", name := "getChars", desc := "([BII[CI)V" } : Jvm.MethodName) jdk_43_method_11_code (5 : Nat) (Option.none : Option Jvm.ClassFile.FieldType)).before a0 Z = true := hw _ (List.mem_of_getElem? (i := 114) rfl)
theorem ow115 {Z : State} {a0 : Array Value} (hw : ∀ d ∈ tables_1, d.before a0 Z = true) : (Jvm.Cond.methodLink "java/lang/StringLatin1" (13 : Nat) ({ cls := "java/lang/StringLatin1", name := "inflate", desc := "([BI[CII)V" } : Jvm.MethodName)).before a0 Z = true := hw _ (List.mem_of_getElem? (i := 115) rfl)
theorem ow116 {Z : State} {a0 : Array Value} (hw : ∀ d ∈ tables_1, d.before a0 Z = true) : (Jvm.Cond.static ({ cls := "java/lang/StringLatin1", name := "inflate", desc := "([BI[CII)V" } : Jvm.MethodName)).before a0 Z = true := hw _ (List.mem_of_getElem? (i := 116) rfl)
theorem ow117 {Z : State} {a0 : Array Value} (hw : ∀ d ∈ tables_1, d.before a0 Z = true) : (Jvm.Cond.code ({ cls := "java/lang/StringLatin1", name := "inflate", desc := "([BI[CII)V" } : Jvm.MethodName) jdk_43_method_49_code (6 : Nat) (Option.none : Option Jvm.ClassFile.FieldType)).before a0 Z = true := hw _ (List.mem_of_getElem? (i := 117) rfl)
theorem ow118 {Z : State} {a0 : Array Value} (hw : ∀ d ∈ tables_1, d.before a0 Z = true) : (Jvm.Cond.methodLink "com/example/holdback/holdback/util/StringIndexClearPinLaw" (25 : Nat) ({ cls := "com/example/holdback/holdback/util/StringIndex", name := "clear", desc := "()V" } : Jvm.MethodName)).before a0 Z = true := hw _ (List.mem_of_getElem? (i := 118) rfl)
theorem ow119 {Z : State} {a0 : Array Value} (hw : ∀ d ∈ tables_1, d.before a0 Z = true) : (Jvm.Cond.declares ({ cls := "com/example/holdback/holdback/util/StringIndex", name := "clear", desc := "()V" } : Jvm.MethodName)).before a0 Z = true := hw _ (List.mem_of_getElem? (i := 119) rfl)
theorem ow120 {Z : State} {a0 : Array Value} (hw : ∀ d ∈ tables_1, d.before a0 Z = true) : (Jvm.Cond.instanceMethod ({ cls := "com/example/holdback/holdback/util/StringIndex", name := "clear", desc := "()V" } : Jvm.MethodName)).before a0 Z = true := hw _ (List.mem_of_getElem? (i := 120) rfl)
theorem ow121 {Z : State} {a0 : Array Value} (hw : ∀ d ∈ tables_1, d.before a0 Z = true) : (Jvm.Cond.selects "com/example/holdback/holdback/util/StringIndex" ({ cls := "com/example/holdback/holdback/util/StringIndex", name := "clear", desc := "()V" } : Jvm.MethodName) ({ cls := "com/example/holdback/holdback/util/StringIndex", name := "clear", desc := "()V" } : Jvm.MethodName)).before a0 Z = true := hw _ (List.mem_of_getElem? (i := 121) rfl)
theorem ow122 {Z : State} {a0 : Array Value} (hw : ∀ d ∈ tables_1, d.before a0 Z = true) : (Jvm.Cond.code ({ cls := "com/example/holdback/holdback/util/StringIndex", name := "clear", desc := "()V" } : Jvm.MethodName) prog_76_method_8_code (1 : Nat) (Option.none : Option Jvm.ClassFile.FieldType)).before a0 Z = true := hw _ (List.mem_of_getElem? (i := 122) rfl)
theorem ow123 {Z : State} {a0 : Array Value} (hw : ∀ d ∈ tables_1, d.before a0 Z = true) : (Jvm.Cond.methodLink "com/example/holdback/holdback/util/StringIndex" (74 : Nat) ({ cls := "java/util/Arrays", name := "fill", desc := "([II)V" } : Jvm.MethodName)).before a0 Z = true := hw _ (List.mem_of_getElem? (i := 123) rfl)
theorem ow124 {Z : State} {a0 : Array Value} (hw : ∀ d ∈ tables_1, d.before a0 Z = true) : (Jvm.Cond.static ({ cls := "java/util/Arrays", name := "fill", desc := "([II)V" } : Jvm.MethodName)).before a0 Z = true := hw _ (List.mem_of_getElem? (i := 124) rfl)
theorem ow125 {Z : State} {a0 : Array Value} (hw : ∀ d ∈ tables_1, d.before a0 Z = true) : (Jvm.Cond.initialized "java/util/Arrays").before a0 Z = true := hw _ (List.mem_of_getElem? (i := 125) rfl)
theorem ow126 {Z : State} {a0 : Array Value} (hw : ∀ d ∈ tables_1, d.before a0 Z = true) : (Jvm.Cond.code ({ cls := "java/util/Arrays", name := "fill", desc := "([II)V" } : Jvm.MethodName) jdk_65_method_103_code (4 : Nat) (Option.none : Option Jvm.ClassFile.FieldType)).before a0 Z = true := hw _ (List.mem_of_getElem? (i := 126) rfl)
theorem ow127 {Z : State} {a0 : Array Value} (hw : ∀ d ∈ tables_1, d.before a0 Z = true) : (Jvm.Cond.methodLink "com/example/holdback/holdback/util/StringIndexClearPinLaw" (28 : Nat) ({ cls := "com/example/holdback/holdback/util/StringIndex", name := "size", desc := "()I" } : Jvm.MethodName)).before a0 Z = true := hw _ (List.mem_of_getElem? (i := 127) rfl)
theorem ow128 {Z : State} {a0 : Array Value} (hw : ∀ d ∈ tables_1, d.before a0 Z = true) : (Jvm.Cond.declares ({ cls := "com/example/holdback/holdback/util/StringIndex", name := "size", desc := "()I" } : Jvm.MethodName)).before a0 Z = true := hw _ (List.mem_of_getElem? (i := 128) rfl)
theorem ow129 {Z : State} {a0 : Array Value} (hw : ∀ d ∈ tables_1, d.before a0 Z = true) : (Jvm.Cond.instanceMethod ({ cls := "com/example/holdback/holdback/util/StringIndex", name := "size", desc := "()I" } : Jvm.MethodName)).before a0 Z = true := hw _ (List.mem_of_getElem? (i := 129) rfl)
theorem ow130 {Z : State} {a0 : Array Value} (hw : ∀ d ∈ tables_1, d.before a0 Z = true) : (Jvm.Cond.selects "com/example/holdback/holdback/util/StringIndex" ({ cls := "com/example/holdback/holdback/util/StringIndex", name := "size", desc := "()I" } : Jvm.MethodName) ({ cls := "com/example/holdback/holdback/util/StringIndex", name := "size", desc := "()I" } : Jvm.MethodName)).before a0 Z = true := hw _ (List.mem_of_getElem? (i := 130) rfl)
theorem ow131 {Z : State} {a0 : Array Value} (hw : ∀ d ∈ tables_1, d.before a0 Z = true) : (Jvm.Cond.code ({ cls := "com/example/holdback/holdback/util/StringIndex", name := "size", desc := "()I" } : Jvm.MethodName) prog_76_method_2_code (1 : Nat) (Option.some Jvm.ClassFile.FieldType.int)).before a0 Z = true := hw _ (List.mem_of_getElem? (i := 131) rfl)
theorem ow132 {Z : State} {a0 : Array Value} (hw : ∀ d ∈ tables_1, d.before a0 Z = true) : (Jvm.Cond.methodLink "com/example/holdback/holdback/util/StringIndexClearPinLaw" (32 : Nat) ({ cls := "com/example/holdback/holdback/util/StringIndex", name := "indexOf", desc := "(Ljava/lang/String;)I" } : Jvm.MethodName)).before a0 Z = true := hw _ (List.mem_of_getElem? (i := 132) rfl)
theorem ow133 {Z : State} {a0 : Array Value} (hw : ∀ d ∈ tables_1, d.before a0 Z = true) : (Jvm.Cond.declares ({ cls := "com/example/holdback/holdback/util/StringIndex", name := "indexOf", desc := "(Ljava/lang/String;)I" } : Jvm.MethodName)).before a0 Z = true := hw _ (List.mem_of_getElem? (i := 133) rfl)
theorem ow134 {Z : State} {a0 : Array Value} (hw : ∀ d ∈ tables_1, d.before a0 Z = true) : (Jvm.Cond.instanceMethod ({ cls := "com/example/holdback/holdback/util/StringIndex", name := "indexOf", desc := "(Ljava/lang/String;)I" } : Jvm.MethodName)).before a0 Z = true := hw _ (List.mem_of_getElem? (i := 134) rfl)
theorem ow135 {Z : State} {a0 : Array Value} (hw : ∀ d ∈ tables_1, d.before a0 Z = true) : (Jvm.Cond.selects "com/example/holdback/holdback/util/StringIndex" ({ cls := "com/example/holdback/holdback/util/StringIndex", name := "indexOf", desc := "(Ljava/lang/String;)I" } : Jvm.MethodName) ({ cls := "com/example/holdback/holdback/util/StringIndex", name := "indexOf", desc := "(Ljava/lang/String;)I" } : Jvm.MethodName)).before a0 Z = true := hw _ (List.mem_of_getElem? (i := 135) rfl)
theorem ow136 {Z : State} {a0 : Array Value} (hw : ∀ d ∈ tables_1, d.before a0 Z = true) : (Jvm.Cond.code ({ cls := "com/example/holdback/holdback/util/StringIndex", name := "indexOf", desc := "(Ljava/lang/String;)I" } : Jvm.MethodName) prog_76_method_6_code (4 : Nat) (Option.some Jvm.ClassFile.FieldType.int)).before a0 Z = true := hw _ (List.mem_of_getElem? (i := 136) rfl)
theorem ow137 {Z : State} {a0 : Array Value} (hw : ∀ d ∈ tables_1, d.before a0 Z = true) : (Jvm.Cond.methodLink "com/example/holdback/holdback/util/StringIndexClearPinLaw" (35 : Nat) ({ cls := "com/example/holdback/holdback/util/StringIndex", name := "length", desc := "(I)I" } : Jvm.MethodName)).before a0 Z = true := hw _ (List.mem_of_getElem? (i := 137) rfl)
theorem ow138 {Z : State} {a0 : Array Value} (hw : ∀ d ∈ tables_1, d.before a0 Z = true) : (Jvm.Cond.declares ({ cls := "com/example/holdback/holdback/util/StringIndex", name := "length", desc := "(I)I" } : Jvm.MethodName)).before a0 Z = true := hw _ (List.mem_of_getElem? (i := 138) rfl)
theorem ow139 {Z : State} {a0 : Array Value} (hw : ∀ d ∈ tables_1, d.before a0 Z = true) : (Jvm.Cond.instanceMethod ({ cls := "com/example/holdback/holdback/util/StringIndex", name := "length", desc := "(I)I" } : Jvm.MethodName)).before a0 Z = true := hw _ (List.mem_of_getElem? (i := 139) rfl)
theorem ow140 {Z : State} {a0 : Array Value} (hw : ∀ d ∈ tables_1, d.before a0 Z = true) : (Jvm.Cond.selects "com/example/holdback/holdback/util/StringIndex" ({ cls := "com/example/holdback/holdback/util/StringIndex", name := "length", desc := "(I)I" } : Jvm.MethodName) ({ cls := "com/example/holdback/holdback/util/StringIndex", name := "length", desc := "(I)I" } : Jvm.MethodName)).before a0 Z = true := hw _ (List.mem_of_getElem? (i := 140) rfl)
theorem ow141 {Z : State} {a0 : Array Value} (hw : ∀ d ∈ tables_1, d.before a0 Z = true) : (Jvm.Cond.code ({ cls := "com/example/holdback/holdback/util/StringIndex", name := "length", desc := "(I)I" } : Jvm.MethodName) prog_76_method_3_code (2 : Nat) (Option.some Jvm.ClassFile.FieldType.int)).before a0 Z = true := hw _ (List.mem_of_getElem? (i := 141) rfl)
theorem ow142 {Z : State} {a0 : Array Value} (hw : ∀ d ∈ tables_1, d.before a0 Z = true) : (Jvm.Cond.methodLink "com/example/holdback/holdback/util/StringIndex" (27 : Nat) ({ cls := "java/util/Objects", name := "checkIndex", desc := "(II)I" } : Jvm.MethodName)).before a0 Z = true := hw _ (List.mem_of_getElem? (i := 142) rfl)
theorem ow143 {Z : State} {a0 : Array Value} (hw : ∀ d ∈ tables_1, d.before a0 Z = true) : (Jvm.Cond.static ({ cls := "java/util/Objects", name := "checkIndex", desc := "(II)I" } : Jvm.MethodName)).before a0 Z = true := hw _ (List.mem_of_getElem? (i := 143) rfl)
theorem ow144 {Z : State} {a0 : Array Value} (hw : ∀ d ∈ tables_1, d.before a0 Z = true) : (Jvm.Cond.initialized "java/util/Objects").before a0 Z = true := hw _ (List.mem_of_getElem? (i := 144) rfl)
theorem ow145 {Z : State} {a0 : Array Value} (hw : ∀ d ∈ tables_1, d.before a0 Z = true) : (Jvm.Cond.code ({ cls := "java/util/Objects", name := "checkIndex", desc := "(II)I" } : Jvm.MethodName) jdk_31_method_17_code (2 : Nat) (Option.some Jvm.ClassFile.FieldType.int)).before a0 Z = true := hw _ (List.mem_of_getElem? (i := 145) rfl)
theorem ow146 {Z : State} {a0 : Array Value} (hw : ∀ d ∈ tables_1, d.before a0 Z = true) : (Jvm.Cond.methodLink "java/util/Objects" (105 : Nat) ({ cls := "jdk/internal/util/Preconditions", name := "checkIndex", desc := "(IILjava/util/function/BiFunction;)I" } : Jvm.MethodName)).before a0 Z = true := hw _ (List.mem_of_getElem? (i := 146) rfl)
theorem ow147 {Z : State} {a0 : Array Value} (hw : ∀ d ∈ tables_1, d.before a0 Z = true) : (Jvm.Cond.static ({ cls := "jdk/internal/util/Preconditions", name := "checkIndex", desc := "(IILjava/util/function/BiFunction;)I" } : Jvm.MethodName)).before a0 Z = true := hw _ (List.mem_of_getElem? (i := 147) rfl)
theorem ow148 {Z : State} {a0 : Array Value} (hw : ∀ d ∈ tables_1, d.before a0 Z = true) : (Jvm.Cond.code ({ cls := "jdk/internal/util/Preconditions", name := "checkIndex", desc := "(IILjava/util/function/BiFunction;)I" } : Jvm.MethodName) jdk_41_method_11_code (3 : Nat) (Option.some Jvm.ClassFile.FieldType.int)).before a0 Z = true := hw _ (List.mem_of_getElem? (i := 148) rfl)
theorem ow149 {Z : State} {a0 : Array Value} (hw : ∀ d ∈ tables_1, d.before a0 Z = true) : (Jvm.Cond.methodLink "com/example/holdback/holdback/util/StringIndexClearPinLaw" (39 : Nat) ({ cls := "java/lang/String", name := "length", desc := "()I" } : Jvm.MethodName)).before a0 Z = true := hw _ (List.mem_of_getElem? (i := 149) rfl)
theorem ow150 {Z : State} {a0 : Array Value} (hw : ∀ d ∈ tables_1, d.before a0 Z = true) : (Jvm.Cond.methodLink "com/example/holdback/holdback/util/StringIndexClearPinLaw" (41 : Nat) ({ cls := "com/example/holdback/holdback/util/StringIndex", name := "hash", desc := "(I)I" } : Jvm.MethodName)).before a0 Z = true := hw _ (List.mem_of_getElem? (i := 150) rfl)
theorem ow151 {Z : State} {a0 : Array Value} (hw : ∀ d ∈ tables_1, d.before a0 Z = true) : (Jvm.Cond.declares ({ cls := "com/example/holdback/holdback/util/StringIndex", name := "hash", desc := "(I)I" } : Jvm.MethodName)).before a0 Z = true := hw _ (List.mem_of_getElem? (i := 151) rfl)
theorem ow152 {Z : State} {a0 : Array Value} (hw : ∀ d ∈ tables_1, d.before a0 Z = true) : (Jvm.Cond.instanceMethod ({ cls := "com/example/holdback/holdback/util/StringIndex", name := "hash", desc := "(I)I" } : Jvm.MethodName)).before a0 Z = true := hw _ (List.mem_of_getElem? (i := 152) rfl)
theorem ow153 {Z : State} {a0 : Array Value} (hw : ∀ d ∈ tables_1, d.before a0 Z = true) : (Jvm.Cond.selects "com/example/holdback/holdback/util/StringIndex" ({ cls := "com/example/holdback/holdback/util/StringIndex", name := "hash", desc := "(I)I" } : Jvm.MethodName) ({ cls := "com/example/holdback/holdback/util/StringIndex", name := "hash", desc := "(I)I" } : Jvm.MethodName)).before a0 Z = true := hw _ (List.mem_of_getElem? (i := 153) rfl)
theorem ow154 {Z : State} {a0 : Array Value} (hw : ∀ d ∈ tables_1, d.before a0 Z = true) : (Jvm.Cond.code ({ cls := "com/example/holdback/holdback/util/StringIndex", name := "hash", desc := "(I)I" } : Jvm.MethodName) prog_76_method_4_code (2 : Nat) (Option.some Jvm.ClassFile.FieldType.int)).before a0 Z = true := hw _ (List.mem_of_getElem? (i := 154) rfl)
theorem ow155 {Z : State} {a0 : Array Value} (hw : ∀ d ∈ tables_1, d.before a0 Z = true) : (Jvm.Cond.methodLink "com/example/holdback/holdback/util/StringIndexClearPinLaw" (44 : Nat) ({ cls := "com/example/holdback/holdback/util/StringIndexClearPinLaw", name := "hashRef", desc := "(I)I" } : Jvm.MethodName)).before a0 Z = true := hw _ (List.mem_of_getElem? (i := 155) rfl)
theorem ow156 {Z : State} {a0 : Array Value} (hw : ∀ d ∈ tables_1, d.before a0 Z = true) : (Jvm.Cond.static ({ cls := "com/example/holdback/holdback/util/StringIndexClearPinLaw", name := "hashRef", desc := "(I)I" } : Jvm.MethodName)).before a0 Z = true := hw _ (List.mem_of_getElem? (i := 156) rfl)
theorem ow157 {Z : State} {a0 : Array Value} (hw : ∀ d ∈ tables_1, d.before a0 Z = true) : (Jvm.Cond.code ({ cls := "com/example/holdback/holdback/util/StringIndexClearPinLaw", name := "hashRef", desc := "(I)I" } : Jvm.MethodName) method_3_code (4 : Nat) (Option.some Jvm.ClassFile.FieldType.int)).before a0 Z = true := hw _ (List.mem_of_getElem? (i := 157) rfl)
theorem ow158 {Z : State} {a0 : Array Value} (hw : ∀ d ∈ tables_1, d.before a0 Z = true) : (Jvm.Cond.methodLink "com/example/holdback/holdback/util/StringIndex" (87 : Nat) ({ cls := "com/example/holdback/holdback/util/StringIndex", name := "equalsAt", desc := "(ILjava/lang/String;)Z" } : Jvm.MethodName)).before a0 Z = true := hw _ (List.mem_of_getElem? (i := 158) rfl)
theorem ow159 {Z : State} {a0 : Array Value} (hw : ∀ d ∈ tables_1, d.before a0 Z = true) : (Jvm.Cond.instanceMethod ({ cls := "com/example/holdback/holdback/util/StringIndex", name := "equalsAt", desc := "(ILjava/lang/String;)Z" } : Jvm.MethodName)).before a0 Z = true := hw _ (List.mem_of_getElem? (i := 159) rfl)
theorem ow160 {Z : State} {a0 : Array Value} (hw : ∀ d ∈ tables_1, d.before a0 Z = true) : (Jvm.Cond.privateMethod ({ cls := "com/example/holdback/holdback/util/StringIndex", name := "equalsAt", desc := "(ILjava/lang/String;)Z" } : Jvm.MethodName)).before a0 Z = true := hw _ (List.mem_of_getElem? (i := 160) rfl)
theorem ow161 {Z : State} {a0 : Array Value} (hw : ∀ d ∈ tables_1, d.before a0 Z = true) : (Jvm.Cond.code ({ cls := "com/example/holdback/holdback/util/StringIndex", name := "equalsAt", desc := "(ILjava/lang/String;)Z" } : Jvm.MethodName) prog_76_method_10_code (5 : Nat) (Option.some Jvm.ClassFile.FieldType.boolean)).before a0 Z = true := hw _ (List.mem_of_getElem? (i := 161) rfl)
theorem ow162 {Z : State} {a0 : Array Value} (hw : ∀ d ∈ tables_1, d.before a0 Z = true) : (Jvm.Cond.methodLink "com/example/holdback/holdback/util/StringIndexClearPinLaw" (47 : Nat) ({ cls := "java/lang/String", name := "equals", desc := "(Ljava/lang/Object;)Z" } : Jvm.MethodName)).before a0 Z = true := hw _ (List.mem_of_getElem? (i := 162) rfl)
theorem ow163 {Z : State} {a0 : Array Value} (hw : ∀ d ∈ tables_1, d.before a0 Z = true) : (Jvm.Cond.declares ({ cls := "java/lang/String", name := "equals", desc := "(Ljava/lang/Object;)Z" } : Jvm.MethodName)).before a0 Z = true := hw _ (List.mem_of_getElem? (i := 163) rfl)
theorem ow164 {Z : State} {a0 : Array Value} (hw : ∀ d ∈ tables_1, d.before a0 Z = true) : (Jvm.Cond.instanceMethod ({ cls := "java/lang/String", name := "equals", desc := "(Ljava/lang/Object;)Z" } : Jvm.MethodName)).before a0 Z = true := hw _ (List.mem_of_getElem? (i := 164) rfl)
theorem ow165 {Z : State} {a0 : Array Value} (hw : ∀ d ∈ tables_1, d.before a0 Z = true) : (Jvm.Cond.selects "java/lang/String" ({ cls := "java/lang/String", name := "equals", desc := "(Ljava/lang/Object;)Z" } : Jvm.MethodName) ({ cls := "java/lang/String", name := "equals", desc := "(Ljava/lang/Object;)Z" } : Jvm.MethodName)).before a0 Z = true := hw _ (List.mem_of_getElem? (i := 165) rfl)
theorem ow166 {Z : State} {a0 : Array Value} (hw : ∀ d ∈ tables_1, d.before a0 Z = true) : (Jvm.Cond.code ({ cls := "java/lang/String", name := "equals", desc := "(Ljava/lang/Object;)Z" } : Jvm.MethodName) jdk_42_method_66_code (3 : Nat) (Option.some Jvm.ClassFile.FieldType.boolean)).before a0 Z = true := hw _ (List.mem_of_getElem? (i := 166) rfl)
theorem ow167 {Z : State} {a0 : Array Value} (hw : ∀ d ∈ tables_1, d.before a0 Z = true) : (Jvm.Cond.classLink "java/lang/String" (10 : Nat) "java/lang/String").before a0 Z = true := hw _ (List.mem_of_getElem? (i := 167) rfl)
theorem ow168 {Z : State} {a0 : Array Value} (hw : ∀ d ∈ tables_1, d.before a0 Z = true) : (Jvm.Cond.methodLink "java/lang/String" (541 : Nat) ({ cls := "java/lang/StringLatin1", name := "equals", desc := "([B[B)Z" } : Jvm.MethodName)).before a0 Z = true := hw _ (List.mem_of_getElem? (i := 168) rfl)
theorem ow169 {Z : State} {a0 : Array Value} (hw : ∀ d ∈ tables_1, d.before a0 Z = true) : (Jvm.Cond.static ({ cls := "java/lang/StringLatin1", name := "equals", desc := "([B[B)Z" } : Jvm.MethodName)).before a0 Z = true := hw _ (List.mem_of_getElem? (i := 169) rfl)
theorem ow170 {Z : State} {a0 : Array Value} (hw : ∀ d ∈ tables_1, d.before a0 Z = true) : (Jvm.Cond.code ({ cls := "java/lang/StringLatin1", name := "equals", desc := "([B[B)Z" } : Jvm.MethodName) jdk_43_method_13_code (3 : Nat) (Option.some Jvm.ClassFile.FieldType.boolean)).before a0 Z = true := hw _ (List.mem_of_getElem? (i := 170) rfl)
theorem ow171 {Z : State} {a0 : Array Value} (hw : ∀ d ∈ tables_1, d.before a0 Z = true) : (Jvm.Cond.methodLink "java/lang/String" (177 : Nat) ({ cls := "java/lang/StringUTF16", name := "compress", desc := "([CII)[B" } : Jvm.MethodName)).before a0 Z = true := hw _ (List.mem_of_getElem? (i := 171) rfl)
theorem ow172 {Z : State} {a0 : Array Value} (hw : ∀ d ∈ tables_1, d.before a0 Z = true) : (Jvm.Cond.static ({ cls := "java/lang/StringUTF16", name := "compress", desc := "([CII)[B" } : Jvm.MethodName)).before a0 Z = true := hw _ (List.mem_of_getElem? (i := 172) rfl)
theorem ow173 {Z : State} {a0 : Array Value} (hw : ∀ d ∈ tables_1, d.before a0 Z = true) : (Jvm.Cond.initialized "java/lang/StringUTF16").before a0 Z = true := hw _ (List.mem_of_getElem? (i := 173) rfl)
theorem ow174 {Z : State} {a0 : Array Value} (hw : ∀ d ∈ tables_1, d.before a0 Z = true) : (Jvm.Cond.code ({ cls := "java/lang/StringUTF16", name := "compress", desc := "([CII)[B" } : Jvm.MethodName) jdk_52_method_16_code (6 : Nat) (Option.some (Jvm.ClassFile.FieldType.array Jvm.ClassFile.FieldType.byte))).before a0 Z = true := hw _ (List.mem_of_getElem? (i := 174) rfl)
theorem ow175 {Z : State} {a0 : Array Value} (hw : ∀ d ∈ tables_1, d.before a0 Z = true) : (Jvm.Cond.methodLink "java/lang/StringUTF16" (115 : Nat) ({ cls := "java/lang/StringUTF16", name := "compress", desc := "([CI[BII)I" } : Jvm.MethodName)).before a0 Z = true := hw _ (List.mem_of_getElem? (i := 175) rfl)
theorem ow176 {Z : State} {a0 : Array Value} (hw : ∀ d ∈ tables_1, d.before a0 Z = true) : (Jvm.Cond.static ({ cls := "java/lang/StringUTF16", name := "compress", desc := "([CI[BII)I" } : Jvm.MethodName)).before a0 Z = true := hw _ (List.mem_of_getElem? (i := 176) rfl)
theorem ow177 {Z : State} {a0 : Array Value} (hw : ∀ d ∈ tables_1, d.before a0 Z = true) : (Jvm.Cond.code ({ cls := "java/lang/StringUTF16", name := "compress", desc := "([CI[BII)I" } : Jvm.MethodName) jdk_52_method_21_code (7 : Nat) (Option.some Jvm.ClassFile.FieldType.int)).before a0 Z = true := hw _ (List.mem_of_getElem? (i := 177) rfl)
theorem ow178 {Z : State} {a0 : Array Value} (hw : ∀ d ∈ tables_1, d.before a0 Z = true) : (Jvm.Cond.methodLink "java/lang/String" (47 : Nat) ({ cls := "java/lang/StringUTF16", name := "coderFromArrayLen", desc := "([BI)B" } : Jvm.MethodName)).before a0 Z = true := hw _ (List.mem_of_getElem? (i := 178) rfl)
theorem ow179 {Z : State} {a0 : Array Value} (hw : ∀ d ∈ tables_1, d.before a0 Z = true) : (Jvm.Cond.static ({ cls := "java/lang/StringUTF16", name := "coderFromArrayLen", desc := "([BI)B" } : Jvm.MethodName)).before a0 Z = true := hw _ (List.mem_of_getElem? (i := 179) rfl)
theorem ow180 {Z : State} {a0 : Array Value} (hw : ∀ d ∈ tables_1, d.before a0 Z = true) : (Jvm.Cond.code ({ cls := "java/lang/StringUTF16", name := "coderFromArrayLen", desc := "([BI)B" } : Jvm.MethodName) jdk_52_method_15_code (2 : Nat) (Option.some Jvm.ClassFile.FieldType.byte)).before a0 Z = true := hw _ (List.mem_of_getElem? (i := 180) rfl)
theorem ow181 {Z : State} {a0 : Array Value} (hw : ∀ d ∈ tables_1, d.before a0 Z = true) : (Jvm.Cond.methodLink "com/example/holdback/holdback/util/StringIndex" (94 : Nat) ({ cls := "java/lang/String", name := "charAt", desc := "(I)C" } : Jvm.MethodName)).before a0 Z = true := hw _ (List.mem_of_getElem? (i := 181) rfl)
theorem ow182 {Z : State} {a0 : Array Value} (hw : ∀ d ∈ tables_1, d.before a0 Z = true) : (Jvm.Cond.declares ({ cls := "java/lang/String", name := "charAt", desc := "(I)C" } : Jvm.MethodName)).before a0 Z = true := hw _ (List.mem_of_getElem? (i := 182) rfl)
theorem ow183 {Z : State} {a0 : Array Value} (hw : ∀ d ∈ tables_1, d.before a0 Z = true) : (Jvm.Cond.instanceMethod ({ cls := "java/lang/String", name := "charAt", desc := "(I)C" } : Jvm.MethodName)).before a0 Z = true := hw _ (List.mem_of_getElem? (i := 183) rfl)
theorem ow184 {Z : State} {a0 : Array Value} (hw : ∀ d ∈ tables_1, d.before a0 Z = true) : (Jvm.Cond.selects "java/lang/String" ({ cls := "java/lang/String", name := "charAt", desc := "(I)C" } : Jvm.MethodName) ({ cls := "java/lang/String", name := "charAt", desc := "(I)C" } : Jvm.MethodName)).before a0 Z = true := hw _ (List.mem_of_getElem? (i := 184) rfl)
theorem ow185 {Z : State} {a0 : Array Value} (hw : ∀ d ∈ tables_1, d.before a0 Z = true) : (Jvm.Cond.code ({ cls := "java/lang/String", name := "charAt", desc := "(I)C" } : Jvm.MethodName) jdk_42_method_56_code (2 : Nat) (Option.some Jvm.ClassFile.FieldType.char)).before a0 Z = true := hw _ (List.mem_of_getElem? (i := 185) rfl)
theorem ow186 {Z : State} {a0 : Array Value} (hw : ∀ d ∈ tables_1, d.before a0 Z = true) : (Jvm.Cond.methodLink "java/lang/String" (495 : Nat) ({ cls := "java/lang/StringLatin1", name := "charAt", desc := "([BI)C" } : Jvm.MethodName)).before a0 Z = true := hw _ (List.mem_of_getElem? (i := 186) rfl)
theorem ow187 {Z : State} {a0 : Array Value} (hw : ∀ d ∈ tables_1, d.before a0 Z = true) : (Jvm.Cond.static ({ cls := "java/lang/StringLatin1", name := "charAt", desc := "([BI)C" } : Jvm.MethodName)).before a0 Z = true := hw _ (List.mem_of_getElem? (i := 187) rfl)
theorem ow188 {Z : State} {a0 : Array Value} (hw : ∀ d ∈ tables_1, d.before a0 Z = true) : (Jvm.Cond.code ({ cls := "java/lang/StringLatin1", name := "charAt", desc := "([BI)C" } : Jvm.MethodName) jdk_43_method_2_code (2 : Nat) (Option.some Jvm.ClassFile.FieldType.char)).before a0 Z = true := hw _ (List.mem_of_getElem? (i := 188) rfl)
theorem ow189 {Z : State} {a0 : Array Value} (hw : ∀ d ∈ tables_1, d.before a0 Z = true) : (Jvm.Cond.methodLink "java/lang/StringLatin1" (9 : Nat) ({ cls := "java/lang/String", name := "checkIndex", desc := "(II)V" } : Jvm.MethodName)).before a0 Z = true := hw _ (List.mem_of_getElem? (i := 189) rfl)
theorem ow190 {Z : State} {a0 : Array Value} (hw : ∀ d ∈ tables_1, d.before a0 Z = true) : (Jvm.Cond.static ({ cls := "java/lang/String", name := "checkIndex", desc := "(II)V" } : Jvm.MethodName)).before a0 Z = true := hw _ (List.mem_of_getElem? (i := 190) rfl)
theorem ow191 {Z : State} {a0 : Array Value} (hw : ∀ d ∈ tables_1, d.before a0 Z = true) : (Jvm.Cond.code ({ cls := "java/lang/String", name := "checkIndex", desc := "(II)V" } : Jvm.MethodName) jdk_42_method_155_code (2 : Nat) (Option.none : Option Jvm.ClassFile.FieldType)).before a0 Z = true := hw _ (List.mem_of_getElem? (i := 191) rfl)
theorem ow192 {Z : State} {a0 : Array Value} (hw : ∀ d ∈ tables_1, d.before a0 Z = true) : (Jvm.Cond.methodLink "java/lang/String" (1059 : Nat) ({ cls := "jdk/internal/util/Preconditions", name := "checkIndex", desc := "(IILjava/util/function/BiFunction;)I" } : Jvm.MethodName)).before a0 Z = true := hw _ (List.mem_of_getElem? (i := 192) rfl)
theorem ow193 {Z : State} {a0 : Array Value} (hw : ∀ d ∈ tables_1, d.before a0 Z = true) : (Jvm.Cond.methodLink "java/lang/StringLatin1" (84 : Nat) ({ cls := "jdk/internal/util/ArraysSupport", name := "vectorizedHashCode", desc := "(Ljava/lang/Object;IIII)I" } : Jvm.MethodName)).before a0 Z = true := hw _ (List.mem_of_getElem? (i := 193) rfl)
theorem ow194 {Z : State} {a0 : Array Value} (hw : ∀ d ∈ tables_1, d.before a0 Z = true) : (Jvm.Cond.static ({ cls := "jdk/internal/util/ArraysSupport", name := "vectorizedHashCode", desc := "(Ljava/lang/Object;IIII)I" } : Jvm.MethodName)).before a0 Z = true := hw _ (List.mem_of_getElem? (i := 194) rfl)
theorem ow195 {Z : State} {a0 : Array Value} (hw : ∀ d ∈ tables_1, d.before a0 Z = true) : (Jvm.Cond.initialized "jdk/internal/util/ArraysSupport").before a0 Z = true := hw _ (List.mem_of_getElem? (i := 195) rfl)
theorem ow196 {Z : State} {a0 : Array Value} (hw : ∀ d ∈ tables_1, d.before a0 Z = true) : (Jvm.Cond.code ({ cls := "jdk/internal/util/ArraysSupport", name := "vectorizedHashCode", desc := "(Ljava/lang/Object;IIII)I" } : Jvm.MethodName) jdk_48_method_4_code (5 : Nat) (Option.some Jvm.ClassFile.FieldType.int)).before a0 Z = true := hw _ (List.mem_of_getElem? (i := 196) rfl)
theorem ow197 {Z : State} {a0 : Array Value} (hw : ∀ d ∈ tables_1, d.before a0 Z = true) : (Jvm.Cond.classLink "jdk/internal/util/ArraysSupport" (60 : Nat) "[B").before a0 Z = true := hw _ (List.mem_of_getElem? (i := 197) rfl)
theorem ow199 {Z : State} {a0 : Array Value} (hw : ∀ d ∈ tables_1, d.before a0 Z = true) : (Jvm.Cond.methodLink "jdk/internal/util/ArraysSupport" (62 : Nat) ({ cls := "jdk/internal/util/ArraysSupport", name := "signedHashCode", desc := "(I[BII)I" } : Jvm.MethodName)).before a0 Z = true := hw _ (List.mem_of_getElem? (i := 199) rfl)
theorem ow200 {Z : State} {a0 : Array Value} (hw : ∀ d ∈ tables_1, d.before a0 Z = true) : (Jvm.Cond.static ({ cls := "jdk/internal/util/ArraysSupport", name := "signedHashCode", desc := "(I[BII)I" } : Jvm.MethodName)).before a0 Z = true := hw _ (List.mem_of_getElem? (i := 200) rfl)
theorem ow201 {Z : State} {a0 : Array Value} (hw : ∀ d ∈ tables_1, d.before a0 Z = true) : (Jvm.Cond.code ({ cls := "jdk/internal/util/ArraysSupport", name := "signedHashCode", desc := "(I[BII)I" } : Jvm.MethodName) jdk_48_method_5_code (6 : Nat) (Option.some Jvm.ClassFile.FieldType.int)).before a0 Z = true := hw _ (List.mem_of_getElem? (i := 201) rfl)
def own_StK (Z : State) (h h' : Heap) : Prop := ∀ (C n d : String) (w : Value), Sta Z h C n d w → Sta Z h' C n d w
theorem own_StK.refl (Z : State) (h : Heap) : own_StK Z h h := fun _ _ _ _ q => q
theorem own_StK.ext {Z : State} {h h1 h2 : Heap} (K : own_StK Z h h1) (E : Ext h1 h2) : own_StK Z h h2 := fun C n d w F => Sta.ext E (K C n d w F)
theorem own_StK.wr {Z : State} {h h1 h2 : Heap} {a : Addr} {sl : Nat} {v : Value} (K : own_StK Z h h1) (W : Wr h1 h2 a sl v) : own_StK Z h h2 := fun C n d w F => Sta.wr W (K C n d w F)
theorem own_StK.tr {Z : State} {h h1 h2 : Heap} (K : own_StK Z h h1) (K' : own_StK Z h1 h2) : own_StK Z h h2 := fun C n d w F => K' C n d w (K C n d w F)
theorem own_selp {s : State} {args args' : Array Value} {x y : MethodName} (hxy : x.cls = y.cls) (h0 : (Cond.selects x.cls x x).before args' s = true) (hpriv : s.PrivateAt y) (hinst : (Cond.instanceMethod y).before args s = true) (hy : y.cls ≠ "java/lang/invoke/MethodHandle" ∧ y.cls ≠ "java/lang/invoke/VarHandle") : (Cond.selects y.cls y y).before args s = true := by
  obtain ⟨c, r, m, q1, q2, q3, q4, k, hk, hki⟩ := Cond.selects_spec h0
  have hc : s.vm.findClass y.cls = some m.cls := by rw [← hxy]; exact findClass_of_methodNamed q3
  exact selects_self_of_private hc hk hki hpriv hinst hy
section OwnK
variable {p : Program} {l : Launch} {e : Env} {R : Room} {s : State} {m : MethodId} {args : Array Value} {below : List Frame} {meth : Method} {c : Code} {T T' : State} {locs : List Loc} {cells slots : Nat} {Z : State} {a0 : Array Value} {h h0 : Heap} {code : ByteArray} {ml n0 : Nat} {own : String} {g g' : JFrame} {L : Array Slot} {S rest : List Value} {pc : Nat} {a : Addr} {Q : Option Value → Heap → List Loc → Prop} {G : State → Prop}
def own_C (p : Program) (c : Code) (code : ByteArray) (ml : Nat) (s : State) (m : MethodId) (own : String) (Z : State) (a0 : Array Value) : Prop :=
  p.tables.exec = Jvm.exec ∧ c.code = code ∧ c.maxLocals = ml ∧ s.vm.findClass own = some m.cls ∧ Z.Warmed39 s.vm ∧ ∀ d ∈ tables_1, d.before a0 Z = true
theorem own_C.w (C : own_C p c code ml s m own Z a0) : ∀ d ∈ tables_1, d.before a0 Z = true := C.2.2.2.2.2
theorem own_C.z (C : own_C p c code ml s m own Z a0) : Z.Warmed39 s.vm := C.2.2.2.2.1
theorem own_C.o (C : own_C p c code ml s m own Z a0) : s.vm.findClass own = some m.cls := C.2.2.2.1
theorem own_C.n (C : own_C p c code ml s m own Z a0) : c.maxLocals = ml := C.2.2.1
theorem own_C.d (C : own_C p c code ml s m own Z a0) {pc : Nat} {r : Except ClassFile.DecodeError (ClassFile.Instr × Nat)} (h2 : ClassFile.decode code pc = r) : ClassFile.decode c.code pc = r := hb C.2.1 h2
def own_Fin (p : Program) (e : Env) (below : List Frame) (G : State → Prop) (T : State) (g : JFrame) : Prop := ∃ U, G U ∧ Steps p.tables e below (T.setTop g) U
theorem own_Fin.st (F : own_Fin p e below G T' g') (k : ∀ t, Steps p.tables e below (T'.setTop g') t → Steps p.tables e below (T.setTop g) t) : own_Fin p e below G T g := by
  obtain ⟨U, h1, h2⟩ := F
  exact ⟨U, h1, k _ h2⟩
/-- a plain end -/
def own_E (R : Room) (s : State) (below : List Frame) (Q : Option Value → Heap → List Loc → Prop) (U : State) : Prop := ∃ (v : Option Value) (lo : List Loc), U.status = .running ∧ Ended U below (.returned v) ∧ Q v U.heap lo ∧ s.WarmedH U.vm ∧ s.sameButNew ({ U with vm := s.vm } : State) lo R.cells R.slots
/-- a body's contract -/
def own_Met (l : Launch) (y : MethodName) (code : ByteArray) (ml : Nat) (ret : Option FieldType) (rm : Room) (Z : State) (h0 : Heap) (as : Array Value) (Q : Option Value → Heap → List Loc → Prop) : Prop :=
  ∀ ws, MetFree l y (head1 (Jvm.Cond.code y code ml ret :: ws) rm) (fun a U => a = as ∧ Z.Warmed39 U.vm ∧ U.heap = h0) (fun _ _ _ _ _ => True) (fun _ U o U' => ∃ v L, o = .returned v ∧ Q v U'.heap L ∧ FrameEnd U o U' L rm.cells rm.slots)
theorem own_go {y : MethodName} {ret : Option FieldType} (hw : ∀ d ∈ tables_1, d.before a0 Z = true) (hp : plainFor y = true) (hef : ∀ m, entryFrame m args ml = mkF m 0 L [])
    (body : ∀ (p : Program) (e : Env) (s : State) (m : MethodId) (below : List Frame) (meth : Method) (c : Code) (T : State), own_C p c code ml s m y.cls Z a0 → meth.sig.returnType = ret ∧ meth.locks = false → Stand p l e R s m args below meth c T [] 0 0 → T.heap = h0 → own_Fin p e below (own_E R s below Q) T (mkF m 0 L [])) : own_Met l y code ml ret R Z h0 args Q := by
  intro ws
  refine MetFree.of_bodySF hp hisR ?_
  intro p e s m args' below meth c s₁ Bd hml0 hP hK
  obtain ⟨rfl, hZ, hh⟩ := hP
  obtain ⟨U, ⟨v, lo, h1, h2, h3, h4, h5⟩, h6⟩ := body p e s m below meth c s₁ ⟨Bd.exec, Bd.bytes, hml0, findClass_of_methodNamed Bd.named, hZ, hw⟩ ⟨Bd.returns, Bd.notSynchronized⟩ (Stand.of_body Bd) (by rw [← hh, Bd.state]; rfl)
  exact ⟨_, _, castTop (hef m) h6, h1, h2, v, lo, rfl, h3, ⟨_, rfl⟩, h4, h5⟩
theorem sA (C : own_C p c code ml s m own Z a0) (X : Stand p l e R s m args below meth c T locs cells slots) {k : Fin 4} {v : Value} {pc' : Nat} (hd : decode code pc' = .ok (.aload_n k, 1)) (F : own_Fin p e below G T (mkF m (pc' + 1) L (v :: S))) (hp : pc = pc' := by rfl) (hl : L[k.val]? = some (.val v) := by rfl) (hv : v.isRef = true := by rfl) : own_Fin p e below G T (mkF m pc L S) := by subst hp; exact F.st fun t k => XS.aloadN X.here C.1 rfl (C.d hd) hl hv k
theorem sa (C : own_C p c code ml s m own Z a0) (X : Stand p l e R s m args below meth c T locs cells slots) {k : Nat} {v : Value} {pc' : Nat} (hd : decode code pc' = .ok (.aload k, 2)) (F : own_Fin p e below G T (mkF m (pc' + 2) L (v :: S))) (hp : pc = pc' := by rfl) (hl : L[k]? = some (.val v) := by rfl) (hv : v.isRef = true := by rfl) : own_Fin p e below G T (mkF m pc L S) := by subst hp; exact F.st fun t k => XS.aload X.here C.1 rfl (C.d hd) hl hv k
theorem sI (C : own_C p c code ml s m own Z a0) (X : Stand p l e R s m args below meth c T locs cells slots) {k : Fin 4} {v : Int32} {pc' : Nat} (hd : decode code pc' = .ok (.iload_n k, 1)) (F : own_Fin p e below G T (mkF m (pc' + 1) L (.int v :: S))) (hp : pc = pc' := by rfl) (hl : L[k.val]? = some (.val (.int v)) := by rfl) : own_Fin p e below G T (mkF m pc L S) := by subst hp; exact F.st fun t k => XS.iloadN X.here C.1 rfl (C.d hd) hl k
theorem si (C : own_C p c code ml s m own Z a0) (X : Stand p l e R s m args below meth c T locs cells slots) {k : Nat} {v : Int32} {pc' : Nat} (hd : decode code pc' = .ok (.iload k, 2)) (F : own_Fin p e below G T (mkF m (pc' + 2) L (.int v :: S))) (hp : pc = pc' := by rfl) (hl : L[k]? = some (.val (.int v)) := by rfl) : own_Fin p e below G T (mkF m pc L S) := by subst hp; exact F.st fun t k => XS.iload X.here C.1 rfl (C.d hd) hl k
theorem wI (C : own_C p c code ml s m own Z a0) (X : Stand p l e R s m args below meth c T locs cells slots) {k : Fin 4} {x : Int32} (L' : Array Slot) {pc' : Nat} (hd : decode code pc' = .ok (.istore_n k, 1)) (F : own_Fin p e below G T (mkF m (pc' + 1) L' S)) (hp : pc = pc' := by rfl) (hl : storeLocals L k.val (.int x) = some L' := by rfl) : own_Fin p e below G T (mkF m pc L (.int x :: S)) := by subst hp; exact F.st fun t k => XS.istoreN X.here C.1 rfl (C.d hd) rfl hl k
theorem wi (C : own_C p c code ml s m own Z a0) (X : Stand p l e R s m args below meth c T locs cells slots) {k : Nat} {x : Int32} (L' : Array Slot) {pc' : Nat} (hd : decode code pc' = .ok (.istore k, 2)) (F : own_Fin p e below G T (mkF m (pc' + 2) L' S)) (hp : pc = pc' := by rfl) (hl : storeLocals L k (.int x) = some L' := by rfl) : own_Fin p e below G T (mkF m pc L (.int x :: S)) := by subst hp; exact F.st fun t k => XS.istore X.here C.1 rfl (C.d hd) rfl hl k
theorem sL (C : own_C p c code ml s m own Z a0) (X : Stand p l e R s m args below meth c T locs cells slots) {k : Fin 4} {v : Int64} {pc' : Nat} (hd : decode code pc' = .ok (.lload_n k, 1)) (F : own_Fin p e below G T (mkF m (pc' + 1) L (.long v :: S))) (hp : pc = pc' := by rfl) (hl : L[k.val]? = some (.val (.long v)) := by rfl) : own_Fin p e below G T (mkF m pc L S) := by subst hp; exact F.st fun t k => XS.lloadN X.here C.1 rfl (C.d hd) hl k
theorem sl (C : own_C p c code ml s m own Z a0) (X : Stand p l e R s m args below meth c T locs cells slots) {k : Nat} {v : Int64} {pc' : Nat} (hd : decode code pc' = .ok (.lload k, 2)) (F : own_Fin p e below G T (mkF m (pc' + 2) L (.long v :: S))) (hp : pc = pc' := by rfl) (hl : L[k]? = some (.val (.long v)) := by rfl) : own_Fin p e below G T (mkF m pc L S) := by subst hp; exact F.st fun t k => XS.lload X.here C.1 rfl (C.d hd) hl k
theorem wL (C : own_C p c code ml s m own Z a0) (X : Stand p l e R s m args below meth c T locs cells slots) {k : Fin 4} {x : Int64} (L' : Array Slot) {pc' : Nat} (hd : decode code pc' = .ok (.lstore_n k, 1)) (F : own_Fin p e below G T (mkF m (pc' + 1) L' S)) (hp : pc = pc' := by rfl) (hl : storeLocals L k.val (.long x) = some L' := by rfl) : own_Fin p e below G T (mkF m pc L (.long x :: S)) := by subst hp; exact F.st fun t k => XS.lstoreN X.here C.1 rfl (C.d hd) rfl hl k
theorem wl (C : own_C p c code ml s m own Z a0) (X : Stand p l e R s m args below meth c T locs cells slots) {k : Nat} {x : Int64} (L' : Array Slot) {pc' : Nat} (hd : decode code pc' = .ok (.lstore k, 2)) (F : own_Fin p e below G T (mkF m (pc' + 2) L' S)) (hp : pc = pc' := by rfl) (hl : storeLocals L k (.long x) = some L' := by rfl) : own_Fin p e below G T (mkF m pc L (.long x :: S)) := by subst hp; exact F.st fun t k => XS.lstore X.here C.1 rfl (C.d hd) rfl hl k
theorem wA (C : own_C p c code ml s m own Z a0) (X : Stand p l e R s m args below meth c T locs cells slots) {k : Fin 4} {x : Value} (L' : Array Slot) {pc' : Nat} (hd : decode code pc' = .ok (.astore_n k, 1)) (F : own_Fin p e below G T (mkF m (pc' + 1) L' S)) (hp : pc = pc' := by rfl) (hv : x.isRef = true := by rfl) (hl : storeLocals L k.val x = some L' := by rfl) : own_Fin p e below G T (mkF m pc L (x :: S)) := by subst hp; exact F.st fun t k => XS.astoreN X.here C.1 rfl (C.d hd) rfl hv hl k
theorem wa (C : own_C p c code ml s m own Z a0) (X : Stand p l e R s m args below meth c T locs cells slots) {k : Nat} {x : Value} (L' : Array Slot) {pc' : Nat} (hd : decode code pc' = .ok (.astore k, 2)) (F : own_Fin p e below G T (mkF m (pc' + 2) L' S)) (hp : pc = pc' := by rfl) (hv : x.isRef = true := by rfl) (hl : storeLocals L k x = some L' := by rfl) : own_Fin p e below G T (mkF m pc L (x :: S)) := by subst hp; exact F.st fun t k => XS.astore X.here C.1 rfl (C.d hd) rfl hv hl k
theorem wc (C : own_C p c code ml s m own Z a0) (X : Stand p l e R s m args below meth c T locs cells slots) {k : Nat} {cst : Int} {x : Int32} (L' : Array Slot) {pc' : Nat} (hd : decode code pc' = .ok (.iinc k cst, 3)) (F : own_Fin p e below G T (mkF m (pc' + 3) L' S)) (hp : pc = pc' := by rfl) (h1 : L[k]? = some (.val (.int x)) := by rfl) (hl : storeLocals L k (.int (x + Int32.ofInt cst)) = some L' := by rfl) : own_Fin p e below G T (mkF m pc L S) := by subst hp; exact F.st fun t k => XS.iinc X.here C.1 rfl (C.d hd) h1 hl k
theorem sC (C : own_C p c code ml s m own Z a0) (X : Stand p l e R s m args below meth c T locs cells slots) {i : Int} {pc' : Nat} (hd : decode code pc' = .ok (.iconst i, 1)) (F : own_Fin p e below G T (mkF m (pc' + 1) L (.int (Int32.ofInt i) :: S))) (hp : pc = pc' := by rfl) : own_Fin p e below G T (mkF m pc L S) := by subst hp; exact F.st fun t k => XS.iconst X.here C.1 rfl (C.d hd) k
theorem sB (C : own_C p c code ml s m own Z a0) (X : Stand p l e R s m args below meth c T locs cells slots) {i : Int} {pc' : Nat} (hd : decode code pc' = .ok (.bipush i, 2)) (F : own_Fin p e below G T (mkF m (pc' + 2) L (.int (Int8.ofInt i).toInt32 :: S))) (hp : pc = pc' := by rfl) : own_Fin p e below G T (mkF m pc L S) := by subst hp; exact F.st fun t k => XS.bipush X.here C.1 rfl (C.d hd) k
theorem sU (C : own_C p c code ml s m own Z a0) (X : Stand p l e R s m args below meth c T locs cells slots) {i : Int} {pc' : Nat} (hd : decode code pc' = .ok (.sipush i, 3)) (F : own_Fin p e below G T (mkF m (pc' + 3) L (.int (Int16.ofInt i).toInt32 :: S))) (hp : pc = pc' := by rfl) : own_Fin p e below G T (mkF m pc L S) := by subst hp; exact F.st fun t k => XS.sipush X.here C.1 rfl (C.d hd) k
theorem sS (C : own_C p c code ml s m own Z a0) (X : Stand p l e R s m args below meth c T locs cells slots) {x y : Int32} {pc' : Nat} (hd : decode code pc' = .ok (.isub, 1)) (F : own_Fin p e below G T (mkF m (pc' + 1) L (.int (x - y) :: S))) (hp : pc = pc' := by rfl) : own_Fin p e below G T (mkF m pc L (.int y :: .int x :: S)) := by subst hp; exact F.st fun t k => XS.isub X.here C.1 rfl (C.d hd) rfl k
theorem sP (C : own_C p c code ml s m own Z a0) (X : Stand p l e R s m args below meth c T locs cells slots) {x y : Int32} {pc' : Nat} (hd : decode code pc' = .ok (.iadd, 1)) (F : own_Fin p e below G T (mkF m (pc' + 1) L (.int (x + y) :: S))) (hp : pc = pc' := by rfl) : own_Fin p e below G T (mkF m pc L (.int y :: .int x :: S)) := by subst hp; exact F.st fun t k => XS.iadd X.here C.1 rfl (C.d hd) rfl k
theorem sM (C : own_C p c code ml s m own Z a0) (X : Stand p l e R s m args below meth c T locs cells slots) {x y : Int32} {pc' : Nat} (hd : decode code pc' = .ok (.imul, 1)) (F : own_Fin p e below G T (mkF m (pc' + 1) L (.int (x * y) :: S))) (hp : pc = pc' := by rfl) : own_Fin p e below G T (mkF m pc L (.int y :: .int x :: S)) := by subst hp; exact F.st fun t k => XS.imul X.here C.1 rfl (C.d hd) rfl k
theorem tS (C : own_C p c code ml s m own Z a0) (X : Stand p l e R s m args below meth c T locs cells slots) {x y : Int64} {pc' : Nat} (hd : decode code pc' = .ok (.lsub, 1)) (F : own_Fin p e below G T (mkF m (pc' + 1) L (.long (x - y) :: S))) (hp : pc = pc' := by rfl) : own_Fin p e below G T (mkF m pc L (.long y :: .long x :: S)) := by subst hp; exact F.st fun t k => XS.lsub X.here C.1 rfl (C.d hd) rfl k
theorem tP (C : own_C p c code ml s m own Z a0) (X : Stand p l e R s m args below meth c T locs cells slots) {x y : Int64} {pc' : Nat} (hd : decode code pc' = .ok (.ladd, 1)) (F : own_Fin p e below G T (mkF m (pc' + 1) L (.long (x + y) :: S))) (hp : pc = pc' := by rfl) : own_Fin p e below G T (mkF m pc L (.long y :: .long x :: S)) := by subst hp; exact F.st fun t k => XS.ladd X.here C.1 rfl (C.d hd) rfl k
theorem tA (C : own_C p c code ml s m own Z a0) (X : Stand p l e R s m args below meth c T locs cells slots) {x y : Int64} {pc' : Nat} (hd : decode code pc' = .ok (.land, 1)) (F : own_Fin p e below G T (mkF m (pc' + 1) L (.long (x &&& y) :: S))) (hp : pc = pc' := by rfl) : own_Fin p e below G T (mkF m pc L (.long y :: .long x :: S)) := by subst hp; exact F.st fun t k => XS.land X.here C.1 rfl (C.d hd) rfl k
theorem tO (C : own_C p c code ml s m own Z a0) (X : Stand p l e R s m args below meth c T locs cells slots) {x y : Int64} {pc' : Nat} (hd : decode code pc' = .ok (.lor, 1)) (F : own_Fin p e below G T (mkF m (pc' + 1) L (.long (x ||| y) :: S))) (hp : pc = pc' := by rfl) : own_Fin p e below G T (mkF m pc L (.long y :: .long x :: S)) := by subst hp; exact F.st fun t k => XS.lor X.here C.1 rfl (C.d hd) rfl k
theorem tX (C : own_C p c code ml s m own Z a0) (X : Stand p l e R s m args below meth c T locs cells slots) {x y : Int64} {pc' : Nat} (hd : decode code pc' = .ok (.lxor, 1)) (F : own_Fin p e below G T (mkF m (pc' + 1) L (.long (x ^^^ y) :: S))) (hp : pc = pc' := by rfl) : own_Fin p e below G T (mkF m pc L (.long y :: .long x :: S)) := by subst hp; exact F.st fun t k => XS.lxor X.here C.1 rfl (C.d hd) rfl k
theorem sD (C : own_C p c code ml s m own Z a0) (X : Stand p l e R s m args below meth c T locs cells slots) {x : Value} {pc' : Nat} (hd : decode code pc' = .ok (.dup, 1)) (F : own_Fin p e below G T (mkF m (pc' + 1) L (x :: x :: S))) (hp : pc = pc' := by rfl) (hc : x.category = 1 := by rfl) : own_Fin p e below G T (mkF m pc L (x :: S)) := by subst hp; exact F.st fun t k => XS.dup X.here C.1 rfl (C.d hd) rfl hc k
theorem sO (C : own_C p c code ml s m own Z a0) (X : Stand p l e R s m args below meth c T locs cells slots) {x : Value} {pc' : Nat} (hd : decode code pc' = .ok (.pop, 1)) (F : own_Fin p e below G T (mkF m (pc' + 1) L S)) (hp : pc = pc' := by rfl) (hc : x.category = 1 := by rfl) : own_Fin p e below G T (mkF m pc L (x :: S)) := by subst hp; exact F.st fun t k => XS.pop X.here C.1 rfl (C.d hd) rfl hc k
theorem tC (C : own_C p c code ml s m own Z a0) (X : Stand p l e R s m args below meth c T locs cells slots) {x y : Int64} {pc' : Nat} (hd : decode code pc' = .ok (.lcmp, 1)) (F : own_Fin p e below G T (mkF m (pc' + 1) L (.int (lcmpW x y) :: S))) (hp : pc = pc' := by rfl) : own_Fin p e below G T (mkF m pc L (.long y :: .long x :: S)) := by subst hp; exact F.st fun t k => XS.lcmp X.here C.1 rfl (C.d hd) rfl k
theorem sN (C : own_C p c code ml s m own Z a0) (X : Stand p l e R s m args below meth c T locs cells slots) {x y : Int32} {pc' : Nat} (hd : decode code pc' = .ok (.iand, 1)) (F : own_Fin p e below G T (mkF m (pc' + 1) L (.int (x &&& y) :: S))) (hp : pc = pc' := by rfl) : own_Fin p e below G T (mkF m pc L (.int y :: .int x :: S)) := by subst hp; exact F.st fun t k => XS.iand X.here C.1 rfl (C.d hd) rfl k
theorem tK (C : own_C p c code ml s m own Z a0) (X : Stand p l e R s m args below meth c T locs cells slots) {k : Fin 2} {pc' : Nat} (hd : decode code pc' = .ok (.lconst k, 1)) (F : own_Fin p e below G T (mkF m (pc' + 1) L (.long (Int64.ofNat k) :: S))) (hp : pc = pc' := by rfl) : own_Fin p e below G T (mkF m pc L S) := by subst hp; exact F.st fun t k => XS.lconst X.here C.1 rfl (C.d hd) k
theorem tI (C : own_C p c code ml s m own Z a0) (X : Stand p l e R s m args below meth c T locs cells slots) {x : Int32} {pc' : Nat} (hd : decode code pc' = .ok (.i2l, 1)) (F : own_Fin p e below G T (mkF m (pc' + 1) L (.long x.toInt64 :: S))) (hp : pc = pc' := by rfl) : own_Fin p e below G T (mkF m pc L (.int x :: S)) := by subst hp; exact F.st fun t k => XS.i2l X.here C.1 rfl (C.d hd) rfl k
theorem sH (C : own_C p c code ml s m own Z a0) (X : Stand p l e R s m args below meth c T locs cells slots) {x y : Int32} {pc' : Nat} (hd : decode code pc' = .ok (.ishl, 1)) (F : own_Fin p e below G T (mkF m (pc' + 1) L (.int (x <<< (y &&& 31)) :: S))) (hp : pc = pc' := by rfl) : own_Fin p e below G T (mkF m pc L (.int y :: .int x :: S)) := by subst hp; exact F.st fun t k => XS.ishl X.here C.1 rfl (C.d hd) rfl k
theorem sR (C : own_C p c code ml s m own Z a0) (X : Stand p l e R s m args below meth c T locs cells slots) {x y : Int32} {pc' : Nat} (hd : decode code pc' = .ok (.iushr, 1)) (F : own_Fin p e below G T (mkF m (pc' + 1) L (.int ((x.toUInt32 >>> (y &&& 31).toUInt32).toInt32) :: S))) (hp : pc = pc' := by rfl) : own_Fin p e below G T (mkF m pc L (.int y :: .int x :: S)) := by subst hp; exact F.st fun t k => XS.iushr X.here C.1 rfl (C.d hd) rfl k
theorem tH (C : own_C p c code ml s m own Z a0) (X : Stand p l e R s m args below meth c T locs cells slots) {x : Int64} {y : Int32} {pc' : Nat} (hd : decode code pc' = .ok (.lshl, 1)) (F : own_Fin p e below G T (mkF m (pc' + 1) L (.long (x <<< (y &&& 0x3f).toInt64) :: S))) (hp : pc = pc' := by rfl) : own_Fin p e below G T (mkF m pc L (.int y :: .long x :: S)) := by subst hp; exact F.st fun t k => XS.lshl X.here C.1 rfl (C.d hd) rfl k
theorem tR (C : own_C p c code ml s m own Z a0) (X : Stand p l e R s m args below meth c T locs cells slots) {x : Int64} {y : Int32} {pc' : Nat} (hd : decode code pc' = .ok (.lshr, 1)) (F : own_Fin p e below G T (mkF m (pc' + 1) L (.long (x >>> (y &&& 0x3f).toInt64) :: S))) (hp : pc = pc' := by rfl) : own_Fin p e below G T (mkF m pc L (.int y :: .long x :: S)) := by subst hp; exact F.st fun t k => XS.lshr X.here C.1 rfl (C.d hd) rfl k
theorem tU (C : own_C p c code ml s m own Z a0) (X : Stand p l e R s m args below meth c T locs cells slots) {x : Int64} {y : Int32} {pc' : Nat} (hd : decode code pc' = .ok (.lushr, 1)) (F : own_Fin p e below G T (mkF m (pc' + 1) L (.long ((x.toUInt64 >>> (y &&& 0x3f).toInt64.toUInt64).toInt64) :: S))) (hp : pc = pc' := by rfl) : own_Fin p e below G T (mkF m pc L (.int y :: .long x :: S)) := by subst hp; exact F.st fun t k => XS.lushr X.here C.1 rfl (C.d hd) rfl k
theorem sE (C : own_C p c code ml s m own Z a0) (X : Stand p l e R s m args below meth c T locs cells slots) {x : Int32} {pc' : Nat} (hd : decode code pc' = .ok (.ineg, 1)) (F : own_Fin p e below G T (mkF m (pc' + 1) L (.int (-x) :: S))) (hp : pc = pc' := by rfl) : own_Fin p e below G T (mkF m pc L (.int x :: S)) := by subst hp; exact F.st fun t k => XS.ineg X.here C.1 rfl (C.d hd) rfl k
theorem sG (C : own_C p c code ml s m own Z a0) (X : Stand p l e R s m args below meth c T locs cells slots) {o : Int} {pc' : Nat} (hd : decode code pc' = .ok (.goto o, 3)) (pt : Nat) (F : own_Fin p e below G T (mkF m pt L S)) (hp : pc = pc' := by rfl) (ho : 0 ≤ (pc' : Int) + o := by decide) (ht : ((pc' : Int) + o).toNat = pt := by decide) : own_Fin p e below G T (mkF m pc L S) := by subst hp; exact F.st fun t k => XS.goto X.here C.1 rfl rfl (C.d hd) ho ht k
theorem bY (C : own_C p c code ml s m own Z a0) (X : Stand p l e R s m args below meth c T locs cells slots) {cd : ClassFile.Cond} {x : Int32} {o : Int} {pc' : Nat} (hd : decode code pc' = .ok (.ifCond cd o, 3)) (pt : Nat) (hc : ifCond.holds cd x = true) (F : own_Fin p e below G T (mkF m pt L S)) (hp : pc = pc' := by rfl) (ho : 0 ≤ (pc' : Int) + o := by decide) (ht : ((pc' : Int) + o).toNat = pt := by decide) : own_Fin p e below G T (mkF m pc L (.int x :: S)) := by subst hp; exact F.st fun t k => XS.ifYes X.here C.1 rfl rfl (C.d hd) rfl hc ho ht k
theorem bN (C : own_C p c code ml s m own Z a0) (X : Stand p l e R s m args below meth c T locs cells slots) {cd : ClassFile.Cond} {x : Int32} {o : Int} {pc' : Nat} (hd : decode code pc' = .ok (.ifCond cd o, 3)) (hc : ifCond.holds cd x = false) (F : own_Fin p e below G T (mkF m (pc' + 3) L S)) (hp : pc = pc' := by rfl) : own_Fin p e below G T (mkF m pc L (.int x :: S)) := by subst hp; exact F.st fun t k => XS.ifNo X.here C.1 rfl (C.d hd) rfl hc k
theorem cY (C : own_C p c code ml s m own Z a0) (X : Stand p l e R s m args below meth c T locs cells slots) {cd : ClassFile.Cond} {x y : Int32} {o : Int} {pc' : Nat} (hd : decode code pc' = .ok (.if_icmp cd o, 3)) (pt : Nat) (hc : if_icmp.holds cd x y = true) (F : own_Fin p e below G T (mkF m pt L S)) (hp : pc = pc' := by rfl) (ho : 0 ≤ (pc' : Int) + o := by decide) (ht : ((pc' : Int) + o).toNat = pt := by decide) : own_Fin p e below G T (mkF m pc L (.int y :: .int x :: S)) := by subst hp; exact F.st fun t k => XS.icmpYes X.here C.1 rfl rfl (C.d hd) rfl hc ho ht k
theorem cN (C : own_C p c code ml s m own Z a0) (X : Stand p l e R s m args below meth c T locs cells slots) {cd : ClassFile.Cond} {x y : Int32} {o : Int} {pc' : Nat} (hd : decode code pc' = .ok (.if_icmp cd o, 3)) (hc : if_icmp.holds cd x y = false) (F : own_Fin p e below G T (mkF m (pc' + 3) L S)) (hp : pc = pc' := by rfl) : own_Fin p e below G T (mkF m pc L (.int y :: .int x :: S)) := by subst hp; exact F.st fun t k => XS.icmpNo X.here C.1 rfl (C.d hd) rfl hc k
theorem gA (C : own_C p c code ml s m own Z a0) (X : Stand p l e R s m args below meth c T locs cells slots) (eT : T.heap = h) {O n d : String} {v : Value} (F : Fld Z h a O n d v) {i : Nat} (w : (Cond.fieldLink own i O n d).before a0 Z = true) {pc' : Nat} (hd1 : decode code pc' = .ok (.aload_n 0, 1)) (hd2 : decode code (pc' + 1) = .ok (.getfield i, 3))
    (k : ∀ T', Stand p l e R s m args below meth c T' locs cells slots → T'.heap = h → own_Fin p e below G T' (mkF m (pc' + 4) L (v :: S))) (hp : pc = pc' := by rfl) (h0 : L[0]? = some (.val (.ref a)) := by rfl) : own_Fin p e below G T (mkF m pc L S) := by
  subst hp
  obtain ⟨T', X', e', st⟩ := getF X C.1 C.z C.o (host := "") (Or.inl w) Via.refl eT F (g := mkF m (pc + 1) L (.ref a :: S)) rfl rfl (C.d hd2)
  exact (k T' X' e').st fun t q => XS.aloadN X.here C.1 rfl (C.d hd1) (k := 0) h0 rfl (st t q)
theorem gF (C : own_C p c code ml s m own Z a0) (X : Stand p l e R s m args below meth c T locs cells slots) (eT : T.heap = h) {O n d : String} {v : Value} (F : Fld Z h a O n d v) {i : Nat} (w : (Cond.fieldLink own i O n d).before a0 Z = true) {pc' : Nat} (hd2 : decode code pc' = .ok (.getfield i, 3))
    (k : ∀ T', Stand p l e R s m args below meth c T' locs cells slots → T'.heap = h → own_Fin p e below G T' (mkF m (pc' + 3) L (v :: S))) (hp : pc = pc' := by rfl) : own_Fin p e below G T (mkF m pc L (.ref a :: S)) := by
  subst hp
  obtain ⟨T', X', e', st⟩ := getF X C.1 C.z C.o (host := "") (Or.inl w) Via.refl eT F (g := mkF m pc L (.ref a :: S)) rfl rfl (C.d hd2)
  exact (k T' X' e').st st
theorem pF (C : own_C p c code ml s m own Z a0) (X : Stand p l e R s m args below meth c T locs cells slots) (eT : T.heap = h) (N : Fr n0 locs) (ga : n0 ≤ a) {O n d : String} {v old : Value} {kk : Nat} (F : Fld Z h a O n d old) (E : Exa Z h a O) {ty : FieldType} {i : Nat} (w : (Cond.fieldLink own i O n d).before a0 Z = true) (wl : (Cond.lays O O n d).before a0 Z = true) (wi : (Cond.instantiable O kk).before a0 Z = true) (hty : parseFieldDescriptor d = some ty) {pc' : Nat} (hd2 : decode code pc' = .ok (.putfield i, 3))
    (k : ∀ T' h' lo, Stand p l e R s m args below meth c T' lo cells slots → T'.heap = h' → Fr n0 lo → Wr h h' a (Jvm.RoadKit.slotOf Z O n d) v → Fld Z h' a O n d v → own_Fin p e below G T' (mkF m (pc' + 3) L S)) (hp : pc = pc' := by rfl) (hn : narrow ty v = v := by rfl) (hf : fits ty v = true := by first | rfl | decide) : own_Fin p e below G T (mkF m pc L (v :: .ref a :: S)) := by
  subst hp
  obtain ⟨T', h', X', e', W, st⟩ := putF X C.1 C.z C.o (host := "") (Or.inl w) Via.refl eT F E (Or.inl wl) wi hty hn hf (g := mkF m pc L (v :: .ref a :: S)) rfl rfl (C.d hd2)
  exact (k T' h' _ X' e' (Fr.snoc X' N ga) W (F.same W)).st st
theorem lA (C : own_C p c code ml s m own Z a0) (X : Stand p l e R s m args below meth c T locs cells slots) (eT : T.heap = h) {k : ClassId} {z : Int32} {vs : List Value} {dv : Value} (V : Arv Z h a k .long z vs dv) {j : Int32} {v : Value} {pc' : Nat} (hd : decode code pc' = .ok (.laload, 1)) (F : own_Fin p e below G T (mkF m (pc' + 1) L (v :: S))) (hp : pc = pc' := by rfl) (hj : ¬ j < 0 ∧ j < z := by decide) (hv : vs.getD j.toNatClampNeg dv = v := by rfl) : own_Fin p e below G T (mkF m pc L (.int j :: .ref a :: S)) := by
  subst hp
  obtain ⟨cl, Ar, qk, Sz, Nz, Hh, Gf⟩ := V
  exact F.st fun t q => X.laload C.1 (by rw [eT]; exact Ar.1) (State.isArrayOf_alike C.z.alike Ar.2.1) Ar.2.2 (inb_of Sz hj) (Hh.at (inb_of Sz hj) hv) (g := mkF m pc L (.int j :: .ref a :: S)) rfl rfl (C.d hd) _ q
theorem nA (C : own_C p c code ml s m own Z a0) (X : Stand p l e R s m args below meth c T locs cells slots) (eT : T.heap = h) {k : ClassId} {ty : FieldType} {z : Int32} {vs : List Value} {dv : Value} (V : Arv Z h a k ty z vs dv) {pc' : Nat} (hd : decode code pc' = .ok (.arraylength, 1)) (F : own_Fin p e below G T (mkF m (pc' + 1) L (.int z :: S))) (hp : pc = pc' := by rfl) : own_Fin p e below G T (mkF m pc L (.ref a :: S)) := by
  subst hp
  obtain ⟨cl, Ar, qk, Sz, Nz, Hh, Gf⟩ := V
  refine F.st fun t q => X.arraylength C.1 (cell := cl) (by rw [eT]; exact Ar.1) (State.isArrayOf_alike C.z.alike Ar.2.1) (g := mkF m pc L (.ref a :: S)) rfl rfl (C.d hd) _ ?_
  rw [len_of Sz Nz]; exact q
theorem sJ (C : own_C p c code ml s m own Z a0) (X : Stand p l e R s m args below meth c T locs cells slots) (eT : T.heap = h) (N : Fr n0 locs) (ga : n0 ≤ a) {k : ClassId} {z : Int32} {vs : List Value} {dv : Value} (V : Arv Z h a k .long z vs dv) {j : Int32} {v : Int64} (vs' : List Value) {pc' : Nat} (hd : decode code pc' = .ok (.lastore, 1))
    (kk : ∀ T' h' lo, Stand p l e R s m args below meth c T' lo cells slots → T'.heap = h' → Fr n0 lo → Wr h h' a j.toNatClampNeg (.long v) → Arv Z h' a k .long z vs' dv → own_Fin p e below G T' (mkF m (pc' + 1) L S)) (hp : pc = pc' := by rfl) (hj : ¬ j < 0 ∧ j < z := by decide) (hl : j.toNatClampNeg < vs.length := by exact Nat.le_of_ble_eq_true rfl) (hv : vs.set j.toNatClampNeg (.long v) = vs' := by rfl) : own_Fin p e below G T (mkF m pc L (.long v :: .int j :: .ref a :: S)) := by
  subst hp
  obtain ⟨cl, Ar, qk, Sz, Nz, Hh, Gf⟩ := V
  obtain ⟨T', h', X', e', W, st⟩ := stJ X C.1 C.z eT Ar (j := j) (inb_of Sz hj) (g := mkF m pc L (.long v :: .int j :: .ref a :: S)) rfl rfl (C.d hd)
  exact (kk T' h' _ X' e' (Fr.snoc X' N ga) W (hv ▸ Arv.set Ar qk Sz Nz Hh Gf rfl W _ rfl hl)).st st
theorem gS (C : own_C p c code ml s m own Z a0) (X : Stand p l e R s m args below meth c T locs cells slots) (eT : T.heap = h) {O n d : String} {v : Value} (F : Sta Z h O n d v) {i : Nat} (w : (Cond.fieldLink own i O n d).before a0 Z = true) {pc' : Nat} (hd2 : decode code pc' = .ok (.getstatic i, 3))
    (k : ∀ T', Stand p l e R s m args below meth c T' locs cells slots → T'.heap = h → own_Fin p e below G T' (mkF m (pc' + 3) L (v :: S))) (hp : pc = pc' := by rfl) : own_Fin p e below G T (mkF m pc L S) := by
  subst hp
  obtain ⟨T', X', e', st⟩ := getS2 X C.1 C.z C.o (host := "") (Or.inl w) Via.refl eT F (g := mkF m pc L S) rfl (C.d hd2)
  exact (k T' X' e').st st
theorem nP (C : own_C p c code ml s m own Z a0) (X : Stand p l e R s m args below meth c T locs cells slots) (eT : T.heap = h) {n : Int32} (cap : Nat) (vs : List Value) (w : (Cond.arrayClass .long).before a0 Z = true) {pc' : Nat} (hd : decode code pc' = .ok (.newarray .long, 2))
    (k : ∀ T' h' cA b, b = h.size → Stand p l e R s m args below meth c T' locs (cells + 1) (slots + cap) → T'.heap = h' → Ext h h' → Arv Z h' b cA .long n vs (.long (0 : Int64)) → own_Fin p e below G T' (mkF m (pc' + 2) L (.ref b :: S))) (hp : pc = pc' := by rfl) (hn : ¬ n < 0 := by decide) (hcap : n.toNatClampNeg ≤ cap := by decide) (hb : cap * 8 ≤ 536870912 := by decide) (hc : cells + 1 ≤ R.cells := by decide) (hl : slots + cap ≤ R.slots := by decide) (hv : List.replicate cap (.long (0 : Int64)) = vs := by rfl) : own_Fin p e below G T (mkF m pc L (.int n :: S)) := by
  subst hp
  obtain ⟨T', h', cA, X', e', E, A, st⟩ := newP X C.1 C.z (aty := .long) w eT (g := mkF m pc L (.int n :: S)) rfl (C.d hd) rfl hn hcap hb hc hl
  exact (k T' h' cA _ rfl X' e' E (hv ▸ (Arv.new A hn).pad (pad_rep [] (.long (0 : Int64)) cap))).st st
theorem nO (C : own_C p c code ml s m own Z a0) (X : Stand p l e R s m args below meth c T locs cells slots) (eT : T.heap = h) {D : String} {i n : Nat} (w : (Cond.classLink own i D).before a0 Z = true) (wi : (Cond.instantiable D n).before a0 Z = true) (wz : (Cond.initialized D).before a0 Z = true) {pc' : Nat} (hd : decode code pc' = .ok (.new i, 3))
    (k : ∀ T' h' b, b = h.size → Stand p l e R s m args below meth c T' locs (cells + 1) (slots + n) → T'.heap = h' → Ext h h' → Exa Z h' b D → (∀ {O nm d : String} {ty : FieldType}, Laid Z a0 D O nm d → parseFieldDescriptor d = some ty → Fld Z h' b O nm d (defaultValue ty)) → own_Fin p e below G T' (mkF m (pc' + 3) L (.ref b :: S))) (hp : pc = pc' := by rfl) (hc : cells + 1 ≤ R.cells := by decide) (hl : slots + n ≤ R.slots := by decide) : own_Fin p e below G T (mkF m pc L S) := by
  subst hp
  obtain ⟨T', h', X', e', E, A, D', -, st⟩ := newO X C.1 C.z C.o w wi wz eT (g := mkF m pc L S) rfl (C.d hd) hc hl
  exact (k T' h' _ rfl X' e' E A D').st st
theorem iO (C : own_C p c code ml s m own Z a0) (X : Stand p l e R s m args below meth c T locs cells slots) (eT : T.heap = h) {i W : Nat} (w1 : (Cond.methodLink own i Lib.objectInit).before a0 Z = true) (w2 : (Cond.instanceMethod Lib.objectInit).before a0 Z = true) (w3 : (Cond.code Lib.objectInit ⟨#[0xb1]⟩ 1 none).before a0 Z = true) {pc' : Nat} (hd : decode code pc' = .ok (.invokespecial i, 3))
    (k : ∀ T', Stand p l e R s m args below meth c T' locs cells slots → T'.heap = h → own_Fin p e below G T' (mkF m (pc' + 3) L S)) (hp : pc = pc' := by rfl) (hsz : L.size = ml := by rfl) (hf : 1 ≤ R.frames := by decide) (hW : 2 * 0 + (S.map fun v => v.category).sum ≤ W := by first | exact Nat.le_of_eq rfl | decide) (hl : W + 12 ≤ R.locals := by decide) : own_Fin p e below G T (mkF m pc L (.ref a :: S)) := by
  subst hp
  obtain ⟨T', X', e', st⟩ := initO X C.1 C.z C.o w1 w2 w3 eT (g := mkF m pc L (.ref a :: S)) rfl (by rw [C.n]; exact hsz) rfl (C.d hd) hf hW hl
  exact (k T' X' e').st st
theorem kJ (C : own_C p c code ml s m own Z a0) (X : Stand p l e R s m args below meth c T locs cells slots) {i : Nat} {v : Int64} (w : (Cond.constantLong own i v).before a0 Z = true) {pc' : Nat} (hd : decode code pc' = .ok (.ldc2_w i, 3)) (F : own_Fin p e below G T (mkF m (pc' + 3) L (.long v :: S))) (hp : pc = pc' := by rfl) : own_Fin p e below G T (mkF m pc L S) := by subst hp; exact F.st fun t q => X.ldc2Long C.1 C.o (mvT C.z w) (g := mkF m pc L S) rfl (C.d hd) _ q
theorem rV (C : own_C p c code ml s m own Z a0) (X : Stand p l e R s m args below meth c T locs cells slots) (eT : T.heap = h) (hret : meth.sig.returnType = none ∧ meth.locks = false) {pc' : Nat} (hd : decode code pc' = .ok (.return_, 1)) (q : Q none h locs) (hp : pc = pc' := by rfl) (h1 : cells ≤ R.cells := by decide) (h2 : slots ≤ R.slots := by decide) : own_Fin p e below (own_E R s below Q) T (mkF m pc L []) := by
  obtain ⟨fs, hr, hrun, hended, hW, hsame⟩ := X.leave (v := none) (fun _ => rfl) hret.2
  exact ⟨T.setFrames fs, ⟨none, locs, hrun, hended, eT ▸ q, hW, hsame.mono h1 h2⟩, X.returnOut C.1 hret.1 (C.d (hp ▸ hd)) hr⟩
theorem rI (C : own_C p c code ml s m own Z a0) (X : Stand p l e R s m args below meth c T locs cells slots) (eT : T.heap = h) {z : Int32} (hret : meth.sig.returnType = some .int ∧ meth.locks = false) {pc' : Nat} (hd : decode code pc' = .ok (.ireturn, 1)) (q : Q (some (.int z)) h locs) (hp : pc = pc' := by rfl) (h1 : cells ≤ R.cells := by decide) (h2 : slots ≤ R.slots := by decide) : own_Fin p e below (own_E R s below Q) T (mkF m pc L (.int z :: S)) := by
  obtain ⟨fs, hr, hrun, hended, hW, hsame⟩ := X.leave (v := (some (.int z))) (fun u => by rw [hret.1] at u; cases u) hret.2
  exact ⟨T.setFrames fs, ⟨(some (.int z)), locs, hrun, hended, eT ▸ q, hW, hsame.mono h1 h2⟩, retI X C.1 hret.1 (C.d (hp ▸ hd)) hr⟩
theorem rJ (C : own_C p c code ml s m own Z a0) (X : Stand p l e R s m args below meth c T locs cells slots) (eT : T.heap = h) {z : Int64} (hret : meth.sig.returnType = some .long ∧ meth.locks = false) {pc' : Nat} (hd : decode code pc' = .ok (.lreturn, 1)) (q : Q (some (.long z)) h locs) (hp : pc = pc' := by rfl) (h1 : cells ≤ R.cells := by decide) (h2 : slots ≤ R.slots := by decide) : own_Fin p e below (own_E R s below Q) T (mkF m pc L (.long z :: S)) := by
  obtain ⟨fs, hr, hrun, hended, hW, hsame⟩ := X.leave (v := (some (.long z))) (fun u => by rw [hret.1] at u; cases u) hret.2
  exact ⟨T.setFrames fs, ⟨(some (.long z)), locs, hrun, hended, eT ▸ q, hW, hsame.mono h1 h2⟩, own_retJ X C.1 hret.1 (C.d (hp ▸ hd)) hr⟩
theorem rZ (C : own_C p c code ml s m own Z a0) (X : Stand p l e R s m args below meth c T locs cells slots) (eT : T.heap = h) {z : Int32} (hret : meth.sig.returnType = some .boolean ∧ meth.locks = false) {pc' : Nat} (hd : decode code pc' = .ok (.ireturn, 1)) (q : Q (some (.int (nar .boolean z))) h locs) (hp : pc = pc' := by rfl) (h1 : cells ≤ R.cells := by decide) (h2 : slots ≤ R.slots := by decide) : own_Fin p e below (own_E R s below Q) T (mkF m pc L (.int z :: S)) := by
  obtain ⟨fs, hr, hrun, hended, hW, hsame⟩ := X.leave (v := (some (.int (nar .boolean z)))) (fun u => by rw [hret.1] at u; cases u) hret.2
  exact ⟨T.setFrames fs, ⟨(some (.int (nar .boolean z))), locs, hrun, hended, eT ▸ q, hW, hsame.mono h1 h2⟩, retN X C.1 (t := .boolean) hret.1 (by simp) (C.d (hp ▸ hd)) hr⟩
theorem cS (C : own_C p c code ml s m own Z a0) (X : Stand p l e R s m args below meth c T locs cells slots) (eT : T.heap = h) {y : MethodName} {ycode : ByteArray} {yml : Nat} {yret : Option FieldType} {rm : Room} {as' : Array Value} {Qy : Option Value → Heap → List Loc → Prop} (K : own_Met l y ycode yml yret rm Z h as' Qy) {i W : Nat} (w1 : (Cond.methodLink own i y).before a0 Z = true) (w2 : (Cond.static y).before a0 Z = true) (wc : (Cond.code y ycode yml yret).before a0 Z = true) (wz : (Cond.initialized y.cls).before a0 Z = true) {argsL : List Value} (hlen : ∀ sig, parseMethodDescriptor y.desc = some sig → argsL.length = sig.parameters.length) {pc' : Nat} (hd : decode code pc' = .ok (.invokestatic i, 3)) (k : ∀ v T' lo, Stand p l e R s m args below meth c T' (locs ++ lo) (cells + rm.cells) (slots + rm.slots) → Qy v T'.heap lo → own_Fin p e below G T' (mkF m (pc' + 3) L (v.toList ++ rest))) (hy : y.cls ≠ "java/lang/invoke/MethodHandle" ∧ y.cls ≠ "java/lang/invoke/VarHandle" := by decide) (hp : pc = pc' := by rfl) (hsz : L.size = ml := by rfl) (hs : S = argsL.reverse ++ rest := by rfl) (ha : as' = (argsL).toArray := by rfl) (hW : 2 * 0 + (rest.map fun v => v.category).sum ≤ W := by first | exact Nat.le_of_eq rfl | decide) (hf : rm.frames + 1 ≤ R.frames := by decide) (hl : W + (yml + 11) + rm.locals ≤ R.locals := by decide) (hc : cells + rm.cells ≤ R.cells := by decide) (hsl : slots + rm.slots ≤ R.slots := by decide) : own_Fin p e below G T (mkF m pc L S) := by
  subst hp
  obtain ⟨v, _, ⟨B, L', k', n'⟩, -, X', ⟨lo, hQ, h1, h2, h3⟩, st⟩ := Jvm.LawKit.callS X C.1 (y := y) C.o (mvT C.z w1) (mvT C.z w2) (mvT C.z wz) (mvT C.z wc) hy (backOf (W := W) (K []) C.z wc wz hf hl) (g := mkF m pc L S) rfl (by rw [C.n]; exact hsz) hlen hs hW (C.d hd) (fun _ _ => ⟨ha.symm, eT, hc, hsl⟩)
  dsimp only [Pt.U, Pt.locs, Pt.cells, Pt.slots] at X' h1 h2 h3 st hQ
  subst h1 h2 h3
  exact (k v B lo X' hQ).st (fun t q => st _ q)
theorem cI (C : own_C p c code ml s m own Z a0) (X : Stand p l e R s m args below meth c T locs cells slots) (eT : T.heap = h) {y : MethodName} {ycode : ByteArray} {yml : Nat} {rm : Room} {as' : Array Value} {Qy : Option Value → Heap → List Loc → Prop} (K : own_Met l y ycode yml none rm Z h as' Qy) {i W : Nat} (w1 : (Cond.methodLink own i y).before a0 Z = true) (w2 : (Cond.instanceMethod y).before a0 Z = true) (wc : (Cond.code y ycode yml none).before a0 Z = true) (wz : (Cond.initialized y.cls).before a0 Z = true) {argsL : List Value} (hlen : ∀ sig, parseMethodDescriptor y.desc = some sig → argsL.length = sig.parameters.length) {pc' : Nat} (hd : decode code pc' = .ok (.invokespecial i, 3)) (k : ∀ v T' lo, Stand p l e R s m args below meth c T' (locs ++ lo) (cells + rm.cells) (slots + rm.slots) → Qy v T'.heap lo → own_Fin p e below G T' (mkF m (pc' + 3) L (v.toList ++ rest))) (hy : y.cls ≠ "java/lang/invoke/MethodHandle" ∧ y.cls ≠ "java/lang/invoke/VarHandle" := by decide) (hp : pc = pc' := by rfl) (hsz : L.size = ml := by rfl) (hs : S = argsL.reverse ++ .ref a :: rest := by rfl) (ha : as' = (.ref a :: argsL).toArray := by rfl) (hW : 2 * 0 + (rest.map fun v => v.category).sum ≤ W := by first | exact Nat.le_of_eq rfl | decide) (hf : rm.frames + 1 ≤ R.frames := by decide) (hl : W + (yml + 11) + rm.locals ≤ R.locals := by decide) (hc : cells + rm.cells ≤ R.cells := by decide) (hsl : slots + rm.slots ≤ R.slots := by decide) (hy1 : y.name = "<init>" := by rfl) : own_Fin p e below G T (mkF m pc L S) := by
  subst hp
  obtain ⟨v, _, ⟨B, L', k', n'⟩, -, X', ⟨lo, hQ, h1, h2, h3⟩, st⟩ := X.specialBack C.1 (y := y) hy1 C.o (mvT C.z w1) (mvT C.z w2) (mvT C.z wc) hy (backOf (W := W) (K []) C.z wc wz hf hl) (g := mkF m pc L S) rfl (by rw [C.n]; exact hsz) (Steps.refl _) (a := a) hlen hs hW (C.d hd) (fun _ _ => ⟨ha.symm, eT, hc, hsl⟩)
  dsimp only [Pt.U, Pt.locs, Pt.cells, Pt.slots] at X' h1 h2 h3 st hQ
  subst h1 h2 h3
  exact (k v B lo X' hQ).st (fun t q => st.trans q)
theorem cP (C : own_C p c code ml s m own Z a0) (X : Stand p l e R s m args below meth c T locs cells slots) (eT : T.heap = h) {y : MethodName} {ycode : ByteArray} {yml : Nat} {yret : Option FieldType} {rm : Room} {as' : Array Value} {Qy : Option Value → Heap → List Loc → Prop} (K : own_Met l y ycode yml yret rm Z h as' Qy) (E : Exa Z h a y.cls) {i W : Nat} (w1 : (Cond.methodLink own i y).before a0 Z = true) (w2 : (Cond.instanceMethod y).before a0 Z = true) (w3 : (Cond.selects y.cls y y).before args s = true) (w4 : (Cond.privateMethod y).before a0 Z = true) (wc : (Cond.code y ycode yml yret).before a0 Z = true) (wz : (Cond.initialized y.cls).before a0 Z = true) {argsL : List Value} (hlen : ∀ sig, parseMethodDescriptor y.desc = some sig → argsL.length = sig.parameters.length) {pc' : Nat} (hd : decode code pc' = .ok (.invokevirtual i, 3)) (k : ∀ v T' lo, Stand p l e R s m args below meth c T' (locs ++ lo) (cells + rm.cells) (slots + rm.slots) → Qy v T'.heap lo → own_Fin p e below G T' (mkF m (pc' + 3) L (v.toList ++ rest))) (hy : y.cls ≠ "java/lang/invoke/MethodHandle" ∧ y.cls ≠ "java/lang/invoke/VarHandle" := by decide) (hp : pc = pc' := by rfl) (hsz : L.size = ml := by rfl) (hs : S = argsL.reverse ++ .ref a :: rest := by rfl) (ha : as' = (.ref a :: argsL).toArray := by rfl) (hW : 2 * 0 + (rest.map fun v => v.category).sum ≤ W := by first | exact Nat.le_of_eq rfl | decide) (hf : rm.frames + 1 ≤ R.frames := by decide) (hl : W + (yml + 11) + rm.locals ≤ R.locals := by decide) (hc : cells + rm.cells ≤ R.cells := by decide) (hsl : slots + rm.slots ≤ R.slots := by decide) : own_Fin p e below G T (mkF m pc L S) := by
  subst hp
  obtain ⟨cq, q1, q2⟩ := E.cell
  obtain ⟨v, _, ⟨B, L', k', n'⟩, -, X', ⟨lo, hQ, h1, h2, h3⟩, st⟩ := X.privateBack C.1 (y := y) C.o (mvT C.z w1) (mvT C.z w2) w3 (Cond.privateMethod_at (mvP C.z w4 (args := #[]))) (mvT C.z wc) hy (backOf (W := W) (K []) C.z wc wz hf hl) (g := mkF m pc L S) rfl (by rw [C.n]; exact hsz) (Steps.refl _) (a := a) (by rw [eT]; exact q1) q2 hlen hs hW (C.d hd) (fun _ _ => ⟨ha.symm, eT, hc, hsl⟩)
  dsimp only [Pt.U, Pt.locs, Pt.cells, Pt.slots] at X' h1 h2 h3 st hQ
  subst h1 h2 h3
  exact (k v B lo X' hQ).st (fun t q => st.trans q)
theorem cV (C : own_C p c code ml s m own Z a0) (X : Stand p l e R s m args below meth c T locs cells slots) (eT : T.heap = h) {y : MethodName} {ycode : ByteArray} {yml : Nat} {yret : Option FieldType} {rm : Room} {as' : Array Value} {Qy : Option Value → Heap → List Loc → Prop} (K : own_Met l y ycode yml yret rm Z h as' Qy) (E : Exa Z h a y.cls) {i W : Nat} (w1 : (Cond.methodLink own i y).before a0 Z = true) (w2 : (Cond.declares y).before a0 Z = true) (w3 : (Cond.selects y.cls y y).before a0 Z = true) (w4 : (Cond.instanceMethod y).before a0 Z = true) (wc : (Cond.code y ycode yml yret).before a0 Z = true) (wz : (Cond.initialized y.cls).before a0 Z = true) {argsL : List Value} (hlen : ∀ sig, parseMethodDescriptor y.desc = some sig → argsL.length = sig.parameters.length) {pc' : Nat} (hd : decode code pc' = .ok (.invokevirtual i, 3)) (k : ∀ v T' lo, Stand p l e R s m args below meth c T' (locs ++ lo) (cells + rm.cells) (slots + rm.slots) → Qy v T'.heap lo → own_Fin p e below G T' (mkF m (pc' + 3) L (v.toList ++ rest))) (hy : y.cls ≠ "java/lang/invoke/MethodHandle" ∧ y.cls ≠ "java/lang/invoke/VarHandle" := by decide) (hp : pc = pc' := by rfl) (hsz : L.size = ml := by rfl) (hs : S = argsL.reverse ++ .ref a :: rest := by rfl) (ha : as' = (.ref a :: argsL).toArray := by rfl) (hW : 2 * 0 + (rest.map fun v => v.category).sum ≤ W := by first | exact Nat.le_of_eq rfl | decide) (hf : rm.frames + 1 ≤ R.frames := by decide) (hl : W + (yml + 11) + rm.locals ≤ R.locals := by decide) (hc : cells + rm.cells ≤ R.cells := by decide) (hsl : slots + rm.slots ≤ R.slots := by decide) : own_Fin p e below G T (mkF m pc L S) := by
  subst hp
  obtain ⟨cq, kq, q1, q2, q3⟩ := isOf C.z eT E
  obtain ⟨v, _, ⟨B, L', k', n'⟩, -, X', ⟨lo, hQ, h1, h2, h3⟩, st⟩ := X.virtualBack C.1 (y := y) (z := y) C.o (mvT C.z w1) (mvT C.z w2) (notFace_of_selects (args := #[]) (mvT C.z w3)) (mvT C.z w3) (mvT C.z w4) hy (backOf (W := W) (K []) C.z wc wz hf hl) q1 q3 (g := mkF m pc L S) rfl (by rw [C.n]; exact hsz) (Steps.refl _) hlen hs hW (C.d hd) (fun _ _ => ⟨ha.symm, eT, hc, hsl⟩)
  dsimp only [Pt.U, Pt.locs, Pt.cells, Pt.slots] at X' h1 h2 h3 st hQ
  subst h1 h2 h3
  exact (k v B lo X' hQ).st (fun t q => st.trans q)
theorem cB (C : own_C p c code ml s m own Z a0) (X : Stand p l e R s m args below meth c T locs cells slots) (eT : T.heap = h) {y : MethodName} {ycode : ByteArray} {yml : Nat} {yret : Option FieldType} {Pp : Array Value → State → Prop} {vv : Option Value} {i W : Nat} (K : Back l R p e below s args y 3 W (fun A a => A.cells + 0 ≤ R.cells ∧ A.slots + 0 ≤ R.slots ∧ Pp a A.U) (fun A _ v B => XT.PureE vv v A.U B.U ∧ B.locs = A.locs ++ [] ∧ B.cells = A.cells + 0 ∧ B.slots = A.slots + 0)) (w1 : (Cond.methodLink own i y).before a0 Z = true) (w2 : (Cond.static y).before a0 Z = true) (wc : (Cond.code y ycode yml yret).before a0 Z = true) (wz : (Cond.initialized y.cls).before a0 Z = true) {argsL : List Value} (hlen : ∀ sig, parseMethodDescriptor y.desc = some sig → argsL.length = sig.parameters.length) (hP : ∀ U, Pp argsL.toArray U) {pc' : Nat} (hd : decode code pc' = .ok (.invokestatic i, 3)) (k : ∀ T', Stand p l e R s m args below meth c T' locs cells slots → T'.heap = h → own_Fin p e below G T' (mkF m (pc' + 3) L (vv.toList ++ rest))) (hy : y.cls ≠ "java/lang/invoke/MethodHandle" ∧ y.cls ≠ "java/lang/invoke/VarHandle" := by decide) (hp : pc = pc' := by rfl) (hsz : L.size = ml := by rfl) (hs : S = argsL.reverse ++ rest := by rfl) (hW : 2 * 0 + (rest.map fun v => v.category).sum ≤ W := by first | exact Nat.le_of_eq rfl | decide) (hc : cells + 0 ≤ R.cells := by decide) (hsl : slots + 0 ≤ R.slots := by decide) : own_Fin p e below G T (mkF m pc L S) := by
  subst hp
  obtain ⟨v, vm₁, ⟨B, L', k', n'⟩, -, X', ⟨hE, h1, h2, h3⟩, st⟩ := Jvm.LawKit.callS X C.1 (y := y) C.o (mvT C.z w1) (mvT C.z w2) (mvT C.z wz) (mvT C.z wc) hy K (g := mkF m pc L S) rfl (by rw [C.n]; exact hsz) hlen hs hW (C.d hd) (fun _ _ => ⟨hc, hsl, hP _⟩)
  dsimp only [Pt.U, Pt.locs, Pt.cells, Pt.slots] at X' h1 h2 h3 st hE
  obtain ⟨rfl, q⟩ := hE
  subst h1 h2 h3
  rw [List.append_nil] at X'
  exact (k B X' (q.trans eT)).st st
end OwnK
section OwnH
variable {p : Program} {l : Launch} {e : Env} {R : Room} {s : State} {m : MethodId} {args : Array Value} {below : List Frame} {meth : Method} {c : Code} {T T' : State} {locs : List Loc} {cells slots : Nat} {Z : State} {a0 : Array Value} {h h0 : Heap} {code : ByteArray} {ml n0 : Nat} {own : String} {L : Array Slot} {S rest : List Value} {pc : Nat} {a : Addr} {Q : Option Value → Heap → List Loc → Prop} {G : State → Prop} {EL : List (String × Nat)} {vm1 : Vm} {k1 : Nat}
def own_EH (Z : State) (EL : List (String × Nat)) (R : Room) (s : State) (below : List Frame) (Q : Option Value → Heap → List Loc → Prop) (U : State) : Prop := ∃ (v : Option Value) (lo : List Loc), U.status = .running ∧ Ended U below (.returned v) ∧ Q v U.heap lo ∧ CHr Z EL s.vm s.heap U.vm U.heap ∧ ReturnedEndW s (.returned v) U lo R.cells R.slots
def own_MetH (l : Launch) (y : MethodName) (code : ByteArray) (ml : Nat) (ret : Option FieldType) (rm : Room) (Z : State) (EL : List (String × Nat)) (h0 : Heap) (as : Array Value) (Q : Option Value → Heap → List Loc → Prop) : Prop :=
  ∀ ws, MetFree l y (head1 (Jvm.Cond.code y code ml ret :: ws) rm) (fun a U => a = as ∧ Z.Warmed39 U.vm ∧ U.heap = h0 ∧ CHv Z EL U.vm h0) (fun _ _ _ _ _ => True) (fun _ U o U' => ∃ v L, o = .returned v ∧ Q v U'.heap L ∧ CHr Z EL U.vm U.heap U'.vm U'.heap ∧ ReturnedEndW U o U' L rm.cells rm.slots)
theorem own_goH {y : MethodName} {ret : Option FieldType} (hw : ∀ d ∈ tables_1, d.before a0 Z = true) (hp : plainFor y = true) (hef : ∀ m, entryFrame m args ml = mkF m 0 L [])
    (body : ∀ (p : Program) (e : Env) (s : State) (m : MethodId) (below : List Frame) (meth : Method) (c : Code) (T : State), own_C p c code ml (s.setVm s.vm) m y.cls Z a0 → meth.sig.returnType = ret ∧ meth.locks = false → Stand p l e R (s.setVm s.vm) m args below meth c T [] 0 0 → T.heap = h0 → s.Since s.vm 0 → s.heap = h0 → meth.name = y.name → CHr Z EL s.vm s.heap s.vm h0 → own_Fin p e below (own_EH Z EL R s below Q) T (mkF m 0 L [])) : own_MetH l y code ml ret R Z EL h0 args Q := by
  intro ws
  refine MetFree.of_bodySF hp hisR ?_
  intro p e s m args' below meth c s₁ Bd hml0 hP hK
  obtain ⟨rfl, hZ, hh, hC⟩ := hP
  obtain ⟨U, ⟨v, lo, h1, h2, h3, h4, h5⟩, h6⟩ := body p e s m below meth c s₁ ⟨Bd.exec, Bd.bytes, hml0, findClass_of_methodNamed Bd.named, hZ, hw⟩ ⟨Bd.returns, Bd.notSynchronized⟩ (Stand.of_body Bd) (by rw [← hh, Bd.state]; rfl) ((State.WarmedH.refl s).since 0) hh (name_of_methodNamed Bd.named Bd.method).1 (by rw [hh]; exact CHr.refl hC)
  exact ⟨_, _, castTop (hef m) h6, h1, h2, v, lo, rfl, h3, h4, h5⟩
theorem rVH (C : own_C p c code ml (s.setVm vm1) m own Z a0) (X : Stand p l e R (s.setVm vm1) m args below meth c T locs cells slots) (eT : T.heap = h) (hS : s.Since vm1 k1) (hk : k1 ≤ h.size) (hEL : EW Z a0 EL) (H : CHr Z EL s.vm s.heap vm1 h) (hret : meth.sig.returnType = none ∧ meth.locks = false) {pc' : Nat} (hd : decode code pc' = .ok (.return_, 1)) (q : Q none h locs) (hp : pc = pc' := by rfl) (h1 : cells ≤ R.cells := by decide) (h2 : slots ≤ R.slots := by decide) : own_Fin p e below (own_EH Z EL R s below Q) T (mkF m pc L []) := by
  obtain ⟨fs, hr, hrun, hended, hW⟩ := X.leaveW hS (by rw [eT]; exact hk) (v := none) (fun _ => rfl) hret.2
  exact ⟨T.setFrames fs, ⟨none, locs, hrun, hended, eT ▸ q, (by show CHr Z EL s.vm s.heap T.vm T.heap; rw [eT]; exact H.trans (CHv.at X C.z hEL H.1)), ⟨hW.1, hW.2.1, hW.2.2.1, hW.2.2.2.mono h1 h2⟩⟩, X.returnOut C.1 hret.1 (C.d (hp ▸ hd)) hr⟩
/-- ldc of the empty constant -/
theorem kS0 (C : own_C p c code ml (s.setVm vm1) m own Z a0) (X : Stand p l e R (s.setVm vm1) m args below meth c T locs cells slots) (eT : T.heap = h) (hS : s.Since vm1 k1) (hk : k1 ≤ h.size) (hEL : EW Z a0 EL) (H : CHr Z EL s.vm s.heap vm1 h) {i : Nat} (w : (Cond.stringLink own i "").before a0 Z = true) (wS : ∀ a ∈ Bundle.stringAtoms, a.before a0 Z = true) (hmem : (own, i) ∈ EL) {pc' : Nat} (hd : decode code pc' = .ok (.ldc i, 2))
    (k : ∀ (a : Addr) (T' : State) (h' : Heap) (vm2 : Vm) (k2 : Nat) (b : Addr) (kb : ClassId), own_C p c code ml (s.setVm vm2) m own Z a0 → Stand p l e R (s.setVm vm2) m args below meth c T' locs (cells + 2) (slots + 4) → T'.heap = h' → Ext h h' → s.Since vm2 k2 → k2 ≤ h'.size → CHr Z EL s.vm s.heap vm2 h' → Exa Z h' a "java/lang/String" → Fld Z h' a "java/lang/String" "coder" "B" (.int 0) → Fld Z h' a "java/lang/String" "value" "[B" (.ref b) → Arv Z h' b kb .byte 0 [] (.int 0) → Lit (s.setVm vm2) own i a → (∀ x, Safe Z EL vm2 h' x → x ≠ a ∧ x ≠ b) → own_Fin p e below G T' (mkF m (pc' + 2) L (.ref a :: S)))
    (hp : pc = pc' := by rfl) (hc : cells + 2 ≤ R.cells := by decide) (hl : slots + 4 ≤ R.slots := by decide) : own_Fin p e below G T (mkF m pc L S) := by
  subst hp
  obtain ⟨a, T', h', k2, b, kb, X', e', E, hS', hk', hW, hf, F1, F2, F3, V, -, -, hC, hLit, hsafe, st⟩ := ldcCH X C.1 C.z C.o w wS eT hS hk hEL hmem H.1 (vs := []) (z := 0) ⟨(by intro c hc; simp at hc), rfl⟩ (by decide) rfl (g := mkF m pc L S) rfl (C.d hd) (n := 0) (by decide) (by decide) hc hl
  exact (k a T' h' T'.vm k2 b kb ⟨C.1, C.2.1, C.2.2.1, hf, hW, C.w⟩ X' e' E hS' hk' (H.trans hC) F1 F2 F3 V hLit hsafe).st st
theorem cSH (C : own_C p c code ml (s.setVm vm1) m own Z a0) (X : Stand p l e R (s.setVm vm1) m args below meth c T locs cells slots) (eT : T.heap = h) (hS : s.Since vm1 k1) (hk : k1 ≤ h.size) (hEL : EW Z a0 EL) (H : CHr Z EL s.vm s.heap vm1 h) {y : MethodName} {ycode : ByteArray} {yml : Nat} {yret : Option FieldType} {rm : Room} {as' : Array Value} {Qy : Option Value → Heap → List Loc → Prop} (K : own_MetH l y ycode yml yret rm Z EL h as' Qy) {i W : Nat} (w1 : (Cond.methodLink own i y).before a0 Z = true) (w2 : (Cond.static y).before a0 Z = true) (wc : (Cond.code y ycode yml yret).before a0 Z = true) (wz : (Cond.initialized y.cls).before a0 Z = true) {argsL : List Value} (hlen : ∀ sig, parseMethodDescriptor y.desc = some sig → argsL.length = sig.parameters.length) {pc' : Nat} (hd : decode code pc' = .ok (.invokestatic i, 3)) (k : ∀ (v : Option Value) (T' : State) (lo : List Loc) (vm2 : Vm) (k2 : Nat), own_C p c code ml (s.setVm vm2) m own Z a0 → Stand p l e R (s.setVm vm2) m args below meth c T' (locs ++ lo) (cells + rm.cells) (slots + rm.slots) → s.Since vm2 k2 → k2 ≤ T'.heap.size → CHr Z EL s.vm s.heap vm2 T'.heap → Qy v T'.heap lo → own_Fin p e below G T' (mkF m (pc' + 3) L (v.toList ++ rest))) (hy : y.cls ≠ "java/lang/invoke/MethodHandle" ∧ y.cls ≠ "java/lang/invoke/VarHandle" := by decide) (hp : pc = pc' := by rfl) (hsz : L.size = ml := by rfl) (hs : S = argsL.reverse ++ rest := by rfl) (ha : as' = (argsL).toArray := by rfl) (hW : 2 * 0 + (rest.map fun v => v.category).sum ≤ W := by first | exact Nat.le_of_eq rfl | decide) (hf : rm.frames + 1 ≤ R.frames := by decide) (hl : W + (yml + 11) + rm.locals ≤ R.locals := by decide) (hc : cells + rm.cells ≤ R.cells := by decide) (hsl : slots + rm.slots ≤ R.slots := by decide) : own_Fin p e below G T (mkF m pc L S) := by
  subst hp
  obtain ⟨v, _, ⟨B, L', k', n'⟩, -, X', h2, g1, ⟨lo, hQ, e1, e2, e3, hC⟩, st⟩ := callSS X C.1 (y := y) C.o (mvT C.z w1) (mvT C.z w2) (mvT C.z wz) (mvT C.z wc) hy (backOfSH (W := W) (K []) C.z wc wz hf hl hEL H.1) (g := mkF m pc L S) rfl (by rw [C.n]; exact hsz) hlen hs hW (C.d hd) (fun _ _ => ⟨ha.symm, eT, hc, hsl⟩)
  dsimp only [Pt.U, Pt.locs, Pt.cells, Pt.slots] at X' h2 g1 e1 e2 e3 st hQ hC
  subst e1 e2 e3
  obtain ⟨Y, hS', hZ', ho'⟩ := rebS hS (by rw [eT]; exact hk) X' h2 g1 C.z C.o
  exact (k v B lo B.vm B.heap.size ⟨C.1, C.2.1, C.2.2.1, ho', hZ', C.w⟩ Y hS' (Nat.le_refl _) (H.trans hC) hQ).st (fun t q => st.trans q)
theorem cIH (C : own_C p c code ml (s.setVm vm1) m own Z a0) (X : Stand p l e R (s.setVm vm1) m args below meth c T locs cells slots) (eT : T.heap = h) (hS : s.Since vm1 k1) (hk : k1 ≤ h.size) (hEL : EW Z a0 EL) (H : CHr Z EL s.vm s.heap vm1 h) {y : MethodName} {ycode : ByteArray} {yml : Nat} {rm : Room} {as' : Array Value} {Qy : Option Value → Heap → List Loc → Prop} (K : own_MetH l y ycode yml none rm Z EL h as' Qy) {i W : Nat} (w1 : (Cond.methodLink own i y).before a0 Z = true) (w2 : (Cond.instanceMethod y).before a0 Z = true) (wc : (Cond.code y ycode yml none).before a0 Z = true) (wz : (Cond.initialized y.cls).before a0 Z = true) {argsL : List Value} (hlen : ∀ sig, parseMethodDescriptor y.desc = some sig → argsL.length = sig.parameters.length) {pc' : Nat} (hd : decode code pc' = .ok (.invokespecial i, 3)) (k : ∀ (v : Option Value) (T' : State) (lo : List Loc) (vm2 : Vm) (k2 : Nat), own_C p c code ml (s.setVm vm2) m own Z a0 → Stand p l e R (s.setVm vm2) m args below meth c T' (locs ++ lo) (cells + rm.cells) (slots + rm.slots) → s.Since vm2 k2 → k2 ≤ T'.heap.size → CHr Z EL s.vm s.heap vm2 T'.heap → Qy v T'.heap lo → own_Fin p e below G T' (mkF m (pc' + 3) L (v.toList ++ rest))) (hy : y.cls ≠ "java/lang/invoke/MethodHandle" ∧ y.cls ≠ "java/lang/invoke/VarHandle" := by decide) (hp : pc = pc' := by rfl) (hsz : L.size = ml := by rfl) (hs : S = argsL.reverse ++ .ref a :: rest := by rfl) (ha : as' = (.ref a :: argsL).toArray := by rfl) (hW : 2 * 0 + (rest.map fun v => v.category).sum ≤ W := by first | exact Nat.le_of_eq rfl | decide) (hf : rm.frames + 1 ≤ R.frames := by decide) (hl : W + (yml + 11) + rm.locals ≤ R.locals := by decide) (hc : cells + rm.cells ≤ R.cells := by decide) (hsl : slots + rm.slots ≤ R.slots := by decide) (hy1 : y.name = "<init>" := by rfl) : own_Fin p e below G T (mkF m pc L S) := by
  subst hp
  obtain ⟨v, _, ⟨B, L', k', n'⟩, -, X', h2, g1, ⟨lo, hQ, e1, e2, e3, hC⟩, st⟩ := X.specialBackS C.1 (y := y) hy1 C.o (mvT C.z w1) (mvT C.z w2) (mvT C.z wc) hy (backOfSH (W := W) (K []) C.z wc wz hf hl hEL H.1) (g := mkF m pc L S) rfl (by rw [C.n]; exact hsz) (Steps.refl _) (a := a) hlen hs hW (C.d hd) (fun _ _ => ⟨ha.symm, eT, hc, hsl⟩)
  dsimp only [Pt.U, Pt.locs, Pt.cells, Pt.slots] at X' h2 g1 e1 e2 e3 st hQ hC
  subst e1 e2 e3
  obtain ⟨Y, hS', hZ', ho'⟩ := rebS hS (by rw [eT]; exact hk) X' h2 g1 C.z C.o
  exact (k v B lo B.vm B.heap.size ⟨C.1, C.2.1, C.2.2.1, ho', hZ', C.w⟩ Y hS' (Nat.le_refl _) (H.trans hC) hQ).st (fun t q => st.trans q)
end OwnH
section OwnFa
/-- an array of ints, chars or bytes as a function of its places -/
def own_Fa (Z : State) (h : Heap) (a : Addr) (ty : FieldType) (z : Int32) (f : Int32 → Int32) : Prop := ∃ c : Cell, Arr Z h a c ty ∧ c.slots.size = z.toNatClampNeg ∧ ¬ z < 0 ∧ ∀ j : Int32, ¬ j < 0 → j < z → c.slots[j.toNatClampNeg]? = some (.int (f j))
variable {Z : State} {h h' : Heap} {a b : Addr} {ty : FieldType} {z : Int32} {f : Int32 → Int32}
theorem own_Fa.lt (F : own_Fa Z h a ty z f) : a < h.size := by obtain ⟨c, A, -⟩ := F; exact A.lt
theorem own_Fa.ext (F : own_Fa Z h a ty z f) (E : Ext h h') : own_Fa Z h' a ty z f := by obtain ⟨c, A, r⟩ := F; exact ⟨c, A.ext E, r⟩
theorem own_Fa.other {sl : Nat} {v : Value} (F : own_Fa Z h b ty z f) (W : Wr h h' a sl v) (q : b ≠ a) : own_Fa Z h' b ty z f := by obtain ⟨c, A, r⟩ := F; exact ⟨c, A.other W q, r⟩
theorem own_Fa.keep {ws : List Addr} (F : own_Fa Z h a ty z f) (K : Keep h h' ws) (q : a ∉ ws) : own_Fa Z h' a ty z f := by obtain ⟨c, A, r⟩ := F; exact ⟨c, ⟨K.2.1 a c A.1 q, A.2⟩, r⟩
theorem own_Fa.set {j v : Int32} {c : Cell} (A : Arr Z h a c ty) (S : c.slots.size = z.toNatClampNeg) (Nz : ¬ z < 0) (H : ∀ j : Int32, ¬ j < 0 → j < z → c.slots[j.toNatClampNeg]? = some (.int (f j))) (hj : ¬ j < 0 ∧ j < z) (W : Wr h h' a j.toNatClampNeg (.int v)) : own_Fa Z h' a ty z (fun i => if i = j then v else f i) := by
  refine ⟨_, A.same W, by rw [sz_set]; exact S, Nz, fun i h1 h2 => ?_⟩
  by_cases q : i = j
  · rw [get_hit (inb_of S hj) q]; simp [q]
  · rw [get_miss hj.1 h1 q, H i h1 h2]; simp [q]
theorem own_Fa.of_arv {k : ClassId} {vs : List Value} {es : List Int32} (F : Arv Z h a k ty z vs (.int (0 : Int32))) (e : vs = es.map Value.int) : own_Fa Z h a ty z (fun i => es.getD i.toNatClampNeg 0) := by
  obtain ⟨c, A, -, S, Nz, H, -⟩ := F
  refine ⟨c, A, S, Nz, fun j h1 h2 => ?_⟩
  refine H.at (inb_of S ⟨h1, h2⟩) ?_
  subst e
  simp only [List.getD_eq_getElem?_getD, List.getElem?_map]
  cases es[j.toNatClampNeg]? <;> rfl
variable {p : Program} {l : Launch} {e : Env} {R : Room} {s : State} {m : MethodId} {args : Array Value} {below : List Frame} {meth : Method} {c : Code} {T T' : State} {locs : List Loc} {cells slots : Nat} {a0 : Array Value} {code : ByteArray} {ml n0 : Nat} {own : String} {L : Array Slot} {S : List Value} {pc : Nat} {G : State → Prop}
theorem fI (C : own_C p c code ml s m own Z a0) (X : Stand p l e R s m args below meth c T locs cells slots) (eT : T.heap = h) (V : own_Fa Z h a .int z f) {j : Int32} (hj : ¬ j < 0 ∧ j < z) {pc' : Nat} (hd : decode code pc' = .ok (.iaload, 1)) (F : own_Fin p e below G T (mkF m (pc' + 1) L (.int (f j) :: S))) (hp : pc = pc' := by rfl) : own_Fin p e below G T (mkF m pc L (.int j :: .ref a :: S)) := by
  subst hp
  obtain ⟨cl, Ar, Sz, Nz, Hh⟩ := V
  exact F.st fun t q => X.iaload C.1 (by rw [eT]; exact Ar.1) (State.isArrayOf_alike C.z.alike Ar.2.1) Ar.2.2 (inb_of Sz hj) (Hh _ hj.1 hj.2) (g := mkF m pc L (.int j :: .ref a :: S)) rfl rfl (C.d hd) _ q
theorem fC (C : own_C p c code ml s m own Z a0) (X : Stand p l e R s m args below meth c T locs cells slots) (eT : T.heap = h) (V : own_Fa Z h a .char z f) {j : Int32} (hj : ¬ j < 0 ∧ j < z) {pc' : Nat} (hd : decode code pc' = .ok (.caload, 1)) (F : own_Fin p e below G T (mkF m (pc' + 1) L (.int (f j) :: S))) (hp : pc = pc' := by rfl) : own_Fin p e below G T (mkF m pc L (.int j :: .ref a :: S)) := by
  subst hp
  obtain ⟨cl, Ar, Sz, Nz, Hh⟩ := V
  exact F.st fun t q => X.caload C.1 (by rw [eT]; exact Ar.1) (State.isArrayOf_alike C.z.alike Ar.2.1) Ar.2.2 (inb_of Sz hj) (Hh _ hj.1 hj.2) (g := mkF m pc L (.int j :: .ref a :: S)) rfl rfl (C.d hd) _ q
theorem fB (C : own_C p c code ml s m own Z a0) (X : Stand p l e R s m args below meth c T locs cells slots) (eT : T.heap = h) (V : own_Fa Z h a .byte z f) {j : Int32} (hj : ¬ j < 0 ∧ j < z) {pc' : Nat} (hd : decode code pc' = .ok (.baload, 1)) (F : own_Fin p e below G T (mkF m (pc' + 1) L (.int (f j) :: S))) (hp : pc = pc' := by rfl) : own_Fin p e below G T (mkF m pc L (.int j :: .ref a :: S)) := by
  subst hp
  obtain ⟨cl, Ar, Sz, Nz, Hh⟩ := V
  exact F.st fun t q => X.baloadBytes C.1 (by rw [eT]; exact Ar.1) (State.isArrayOf_alike C.z.alike Ar.2.1) Ar.2.2 (inb_of Sz hj) (Hh _ hj.1 hj.2) (g := mkF m pc L (.int j :: .ref a :: S)) rfl rfl (C.d hd) _ q
theorem xI (C : own_C p c code ml s m own Z a0) (X : Stand p l e R s m args below meth c T locs cells slots) (eT : T.heap = h) (N : Fr n0 locs) (ga : n0 ≤ a) (V : own_Fa Z h a .int z f) {j v : Int32} (hj : ¬ j < 0 ∧ j < z) {pc' : Nat} (hd : decode code pc' = .ok (.iastore, 1))
    (k : ∀ T' h' lo, Stand p l e R s m args below meth c T' lo cells slots → T'.heap = h' → Fr n0 lo → Wr h h' a j.toNatClampNeg (.int v) → own_Fa Z h' a .int z (fun i => if i = j then v else f i) → own_Fin p e below G T' (mkF m (pc' + 1) L S)) (hp : pc = pc' := by rfl) : own_Fin p e below G T (mkF m pc L (.int v :: .int j :: .ref a :: S)) := by
  subst hp
  obtain ⟨cl, Ar, Sz, Nz, Hh⟩ := V
  obtain ⟨T', h', X', e', W, st⟩ := stI X C.1 C.z eT Ar (j := j) (inb_of Sz hj) (g := mkF m pc L (.int v :: .int j :: .ref a :: S)) rfl rfl (C.d hd)
  exact (k T' h' _ X' e' (Fr.snoc X' N ga) W (own_Fa.set Ar Sz Nz Hh hj W)).st st
theorem xC (C : own_C p c code ml s m own Z a0) (X : Stand p l e R s m args below meth c T locs cells slots) (eT : T.heap = h) (N : Fr n0 locs) (ga : n0 ≤ a) (V : own_Fa Z h a .char z f) {j v : Int32} (hj : ¬ j < 0 ∧ j < z) {pc' : Nat} (hd : decode code pc' = .ok (.castore, 1))
    (k : ∀ T' h' lo, Stand p l e R s m args below meth c T' lo cells slots → T'.heap = h' → Fr n0 lo → Wr h h' a j.toNatClampNeg (.int (nar .char v)) → own_Fa Z h' a .char z (fun i => if i = j then (nar .char v) else f i) → own_Fin p e below G T' (mkF m (pc' + 1) L S)) (hp : pc = pc' := by rfl) : own_Fin p e below G T (mkF m pc L (.int v :: .int j :: .ref a :: S)) := by
  subst hp
  obtain ⟨cl, Ar, Sz, Nz, Hh⟩ := V
  obtain ⟨T', h', X', e', W, st⟩ := stC X C.1 C.z eT Ar (j := j) (inb_of Sz hj) (g := mkF m pc L (.int v :: .int j :: .ref a :: S)) rfl rfl (C.d hd)
  exact (k T' h' _ X' e' (Fr.snoc X' N ga) W (own_Fa.set Ar Sz Nz Hh hj W)).st st
theorem xB (C : own_C p c code ml s m own Z a0) (X : Stand p l e R s m args below meth c T locs cells slots) (eT : T.heap = h) (N : Fr n0 locs) (ga : n0 ≤ a) (V : own_Fa Z h a .byte z f) {j v : Int32} (hj : ¬ j < 0 ∧ j < z) {pc' : Nat} (hd : decode code pc' = .ok (.bastore, 1))
    (k : ∀ T' h' lo, Stand p l e R s m args below meth c T' lo cells slots → T'.heap = h' → Fr n0 lo → Wr h h' a j.toNatClampNeg (.int (nar .byte v)) → own_Fa Z h' a .byte z (fun i => if i = j then (nar .byte v) else f i) → own_Fin p e below G T' (mkF m (pc' + 1) L S)) (hp : pc = pc' := by rfl) : own_Fin p e below G T (mkF m pc L (.int v :: .int j :: .ref a :: S)) := by
  subst hp
  obtain ⟨cl, Ar, Sz, Nz, Hh⟩ := V
  obtain ⟨T', h', X', e', W, st⟩ := stB X C.1 C.z eT Ar (j := j) (inb_of Sz hj) (g := mkF m pc L (.int v :: .int j :: .ref a :: S)) rfl rfl (C.d hd)
  exact (k T' h' _ X' e' (Fr.snoc X' N ga) W (own_Fa.set Ar Sz Nz Hh hj W)).st st
theorem yI (C : own_C p c code ml s m own Z a0) (X : Stand p l e R s m args below meth c T locs cells slots) (eT : T.heap = h) {k : ClassId} {vs : List Value} {dv v : Value} (V : Arv Z h a k .int z vs dv) {j : Int32} {pc' : Nat} (hd : decode code pc' = .ok (.iaload, 1)) (F : own_Fin p e below G T (mkF m (pc' + 1) L (v :: S))) (hp : pc = pc' := by rfl) (hj : ¬ j < 0 ∧ j < z := by decide) (hv : vs.getD j.toNatClampNeg dv = v := by rfl) : own_Fin p e below G T (mkF m pc L (.int j :: .ref a :: S)) := by
  subst hp
  obtain ⟨cl, Ar, qk, Sz, Nz, Hh, Gf⟩ := V
  exact F.st fun t q => X.iaload C.1 (by rw [eT]; exact Ar.1) (State.isArrayOf_alike C.z.alike Ar.2.1) Ar.2.2 (inb_of Sz hj) (Hh.at (inb_of Sz hj) hv) (g := mkF m pc L (.int j :: .ref a :: S)) rfl rfl (C.d hd) _ q
theorem yC (C : own_C p c code ml s m own Z a0) (X : Stand p l e R s m args below meth c T locs cells slots) (eT : T.heap = h) {k : ClassId} {vs : List Value} {dv v : Value} (V : Arv Z h a k .char z vs dv) {j : Int32} {pc' : Nat} (hd : decode code pc' = .ok (.caload, 1)) (F : own_Fin p e below G T (mkF m (pc' + 1) L (v :: S))) (hp : pc = pc' := by rfl) (hj : ¬ j < 0 ∧ j < z := by decide) (hv : vs.getD j.toNatClampNeg dv = v := by rfl) : own_Fin p e below G T (mkF m pc L (.int j :: .ref a :: S)) := by
  subst hp
  obtain ⟨cl, Ar, qk, Sz, Nz, Hh, Gf⟩ := V
  exact F.st fun t q => X.caload C.1 (by rw [eT]; exact Ar.1) (State.isArrayOf_alike C.z.alike Ar.2.1) Ar.2.2 (inb_of Sz hj) (Hh.at (inb_of Sz hj) hv) (g := mkF m pc L (.int j :: .ref a :: S)) rfl rfl (C.d hd) _ q
theorem yB (C : own_C p c code ml s m own Z a0) (X : Stand p l e R s m args below meth c T locs cells slots) (eT : T.heap = h) {k : ClassId} {vs : List Value} {dv v : Value} (V : Arv Z h a k .byte z vs dv) {j : Int32} {pc' : Nat} (hd : decode code pc' = .ok (.baload, 1)) (F : own_Fin p e below G T (mkF m (pc' + 1) L (v :: S))) (hp : pc = pc' := by rfl) (hj : ¬ j < 0 ∧ j < z := by decide) (hv : vs.getD j.toNatClampNeg dv = v := by rfl) : own_Fin p e below G T (mkF m pc L (.int j :: .ref a :: S)) := by
  subst hp
  obtain ⟨cl, Ar, qk, Sz, Nz, Hh, Gf⟩ := V
  exact F.st fun t q => X.baloadBytes C.1 (by rw [eT]; exact Ar.1) (State.isArrayOf_alike C.z.alike Ar.2.1) Ar.2.2 (inb_of Sz hj) (Hh.at (inb_of Sz hj) hv) (g := mkF m pc L (.int j :: .ref a :: S)) rfl rfl (C.d hd) _ q
theorem uI (C : own_C p c code ml s m own Z a0) (X : Stand p l e R s m args below meth c T locs cells slots) (eT : T.heap = h) (N : Fr n0 locs) (ga : n0 ≤ a) {k : ClassId} {vs : List Value} {dv : Value} (V : Arv Z h a k .int z vs dv) {j v : Int32} (vs' : List Value) {pc' : Nat} (hd : decode code pc' = .ok (.iastore, 1))
    (kk : ∀ T' h' lo, Stand p l e R s m args below meth c T' lo cells slots → T'.heap = h' → Fr n0 lo → Wr h h' a j.toNatClampNeg (.int v) → Arv Z h' a k .int z vs' dv → own_Fin p e below G T' (mkF m (pc' + 1) L S)) (hp : pc = pc' := by rfl) (hj : ¬ j < 0 ∧ j < z := by decide) (hl : j.toNatClampNeg < vs.length := by exact Nat.le_of_ble_eq_true rfl) (hv : vs.set j.toNatClampNeg (.int v) = vs' := by rfl) : own_Fin p e below G T (mkF m pc L (.int v :: .int j :: .ref a :: S)) := by
  subst hp
  obtain ⟨cl, Ar, qk, Sz, Nz, Hh, Gf⟩ := V
  obtain ⟨T', h', X', e', W, st⟩ := stI X C.1 C.z eT Ar (j := j) (inb_of Sz hj) (g := mkF m pc L (.int v :: .int j :: .ref a :: S)) rfl rfl (C.d hd)
  exact (kk T' h' _ X' e' (Fr.snoc X' N ga) W (hv ▸ Arv.set Ar qk Sz Nz Hh Gf rfl W _ rfl hl)).st st
theorem uC (C : own_C p c code ml s m own Z a0) (X : Stand p l e R s m args below meth c T locs cells slots) (eT : T.heap = h) (N : Fr n0 locs) (ga : n0 ≤ a) {k : ClassId} {vs : List Value} {dv : Value} (V : Arv Z h a k .char z vs dv) {j v : Int32} (vs' : List Value) {pc' : Nat} (hd : decode code pc' = .ok (.castore, 1))
    (kk : ∀ T' h' lo, Stand p l e R s m args below meth c T' lo cells slots → T'.heap = h' → Fr n0 lo → Wr h h' a j.toNatClampNeg (.int (nar .char v)) → Arv Z h' a k .char z vs' dv → own_Fin p e below G T' (mkF m (pc' + 1) L S)) (hp : pc = pc' := by rfl) (hj : ¬ j < 0 ∧ j < z := by decide) (hl : j.toNatClampNeg < vs.length := by exact Nat.le_of_ble_eq_true rfl) (hv : vs.set j.toNatClampNeg (.int (nar .char v)) = vs' := by rfl) : own_Fin p e below G T (mkF m pc L (.int v :: .int j :: .ref a :: S)) := by
  subst hp
  obtain ⟨cl, Ar, qk, Sz, Nz, Hh, Gf⟩ := V
  obtain ⟨T', h', X', e', W, st⟩ := stC X C.1 C.z eT Ar (j := j) (inb_of Sz hj) (g := mkF m pc L (.int v :: .int j :: .ref a :: S)) rfl rfl (C.d hd)
  exact (kk T' h' _ X' e' (Fr.snoc X' N ga) W (hv ▸ Arv.set Ar qk Sz Nz Hh Gf (fits_nar_char _) W _ rfl hl)).st st
theorem uB (C : own_C p c code ml s m own Z a0) (X : Stand p l e R s m args below meth c T locs cells slots) (eT : T.heap = h) (N : Fr n0 locs) (ga : n0 ≤ a) {k : ClassId} {vs : List Value} {dv : Value} (V : Arv Z h a k .byte z vs dv) {j v : Int32} (vs' : List Value) {pc' : Nat} (hd : decode code pc' = .ok (.bastore, 1))
    (kk : ∀ T' h' lo, Stand p l e R s m args below meth c T' lo cells slots → T'.heap = h' → Fr n0 lo → Wr h h' a j.toNatClampNeg (.int (nar .byte v)) → Arv Z h' a k .byte z vs' dv → own_Fin p e below G T' (mkF m (pc' + 1) L S)) (hp : pc = pc' := by rfl) (hj : ¬ j < 0 ∧ j < z := by decide) (hl : j.toNatClampNeg < vs.length := by exact Nat.le_of_ble_eq_true rfl) (hv : vs.set j.toNatClampNeg (.int (nar .byte v)) = vs' := by rfl) : own_Fin p e below G T (mkF m pc L (.int v :: .int j :: .ref a :: S)) := by
  subst hp
  obtain ⟨cl, Ar, qk, Sz, Nz, Hh, Gf⟩ := V
  obtain ⟨T', h', X', e', W, st⟩ := stB X C.1 C.z eT Ar (j := j) (inb_of Sz hj) (g := mkF m pc L (.int v :: .int j :: .ref a :: S)) rfl rfl (C.d hd)
  exact (kk T' h' _ X' e' (Fr.snoc X' N ga) W (hv ▸ Arv.set Ar qk Sz Nz Hh Gf (fits_nar_byte _) W _ rfl hl)).st st
theorem nB (C : own_C p c code ml s m own Z a0) (X : Stand p l e R s m args below meth c T locs cells slots) (eT : T.heap = h) {n : Int32} (cap : Nat) (w : (Cond.arrayClass .byte).before a0 Z = true) {pc' : Nat} (hd : decode code pc' = .ok (.newarray .byte, 2))
    (k : ∀ T' h' cA b, b = h.size → Stand p l e R s m args below meth c T' locs (cells + 1) (slots + cap) → T'.heap = h' → Ext h h' → Arv Z h' b cA .byte n (List.replicate cap (.int (0 : Int32))) (.int (0 : Int32)) → own_Fa Z h' b .byte n (fun _ => 0) → own_Fin p e below G T' (mkF m (pc' + 2) L (.ref b :: S))) (hp : pc = pc' := by rfl) (hn : ¬ n < 0 := by decide) (hcap : n.toNatClampNeg ≤ cap := by decide) (hb : cap * 8 ≤ 536870912 := by decide) (hc : cells + 1 ≤ R.cells := by decide) (hl : slots + cap ≤ R.slots := by decide) : own_Fin p e below G T (mkF m pc L (.int n :: S)) := by
  subst hp
  obtain ⟨T', h', cA, X', e', E, A, st⟩ := newP X C.1 C.z (aty := .byte) w eT (g := mkF m pc L (.int n :: S)) rfl (C.d hd) rfl hn hcap hb hc hl
  have V0 : Arv Z h' h.size cA .byte n [] (.int (0 : Int32)) := Arv.new A hn
  exact (k T' h' cA _ rfl X' e' E (V0.pad (pad_rep [] (.int (0 : Int32)) cap)) (own_Fa.of_arv (es := []) V0 rfl)).st st
theorem nC (C : own_C p c code ml s m own Z a0) (X : Stand p l e R s m args below meth c T locs cells slots) (eT : T.heap = h) {n : Int32} (cap : Nat) (w : (Cond.arrayClass .char).before a0 Z = true) {pc' : Nat} (hd : decode code pc' = .ok (.newarray .char, 2))
    (k : ∀ T' h' cA b, b = h.size → Stand p l e R s m args below meth c T' locs (cells + 1) (slots + cap) → T'.heap = h' → Ext h h' → Arv Z h' b cA .char n (List.replicate cap (.int (0 : Int32))) (.int (0 : Int32)) → own_Fa Z h' b .char n (fun _ => 0) → own_Fin p e below G T' (mkF m (pc' + 2) L (.ref b :: S))) (hp : pc = pc' := by rfl) (hn : ¬ n < 0 := by decide) (hcap : n.toNatClampNeg ≤ cap := by decide) (hb : cap * 8 ≤ 536870912 := by decide) (hc : cells + 1 ≤ R.cells := by decide) (hl : slots + cap ≤ R.slots := by decide) : own_Fin p e below G T (mkF m pc L (.int n :: S)) := by
  subst hp
  obtain ⟨T', h', cA, X', e', E, A, st⟩ := newP X C.1 C.z (aty := .char) w eT (g := mkF m pc L (.int n :: S)) rfl (C.d hd) rfl hn hcap hb hc hl
  have V0 : Arv Z h' h.size cA .char n [] (.int (0 : Int32)) := Arv.new A hn
  exact (k T' h' cA _ rfl X' e' E (V0.pad (pad_rep [] (.int (0 : Int32)) cap)) (own_Fa.of_arv (es := []) V0 rfl)).st st
theorem nI (C : own_C p c code ml s m own Z a0) (X : Stand p l e R s m args below meth c T locs cells slots) (eT : T.heap = h) {n : Int32} (cap : Nat) (w : (Cond.arrayClass .int).before a0 Z = true) {pc' : Nat} (hd : decode code pc' = .ok (.newarray .int, 2))
    (k : ∀ T' h' cA b, b = h.size → Stand p l e R s m args below meth c T' locs (cells + 1) (slots + cap) → T'.heap = h' → Ext h h' → Arv Z h' b cA .int n (List.replicate cap (.int (0 : Int32))) (.int (0 : Int32)) → own_Fa Z h' b .int n (fun _ => 0) → own_Fin p e below G T' (mkF m (pc' + 2) L (.ref b :: S))) (hp : pc = pc' := by rfl) (hn : ¬ n < 0 := by decide) (hcap : n.toNatClampNeg ≤ cap := by decide) (hb : cap * 8 ≤ 536870912 := by decide) (hc : cells + 1 ≤ R.cells := by decide) (hl : slots + cap ≤ R.slots := by decide) : own_Fin p e below G T (mkF m pc L (.int n :: S)) := by
  subst hp
  obtain ⟨T', h', cA, X', e', E, A, st⟩ := newP X C.1 C.z (aty := .int) w eT (g := mkF m pc L (.int n :: S)) rfl (C.d hd) rfl hn hcap hb hc hl
  have V0 : Arv Z h' h.size cA .int n [] (.int (0 : Int32)) := Arv.new A hn
  exact (k T' h' cA _ rfl X' e' E (V0.pad (pad_rep [] (.int (0 : Int32)) cap)) (own_Fa.of_arv (es := []) V0 rfl)).st st
theorem fN (C : own_C p c code ml s m own Z a0) (X : Stand p l e R s m args below meth c T locs cells slots) (eT : T.heap = h) (V : own_Fa Z h a ty z f) {pc' : Nat} (hd : decode code pc' = .ok (.arraylength, 1)) (F : own_Fin p e below G T (mkF m (pc' + 1) L (.int z :: S))) (hp : pc = pc' := by rfl) : own_Fin p e below G T (mkF m pc L (.ref a :: S)) := by
  subst hp
  obtain ⟨cl, Ar, Sz, Nz, Hh⟩ := V
  refine F.st fun t q => X.arraylength C.1 (cell := cl) (by rw [eT]; exact Ar.1) (State.isArrayOf_alike C.z.alike Ar.2.1) (g := mkF m pc L (.ref a :: S)) rfl rfl (C.d hd) _ ?_
  rw [len_of Sz Nz]; exact q
end OwnFa
section OwnY
variable {p : Program} {l : Launch} {e : Env} {R : Room} {s : State} {m : MethodId} {args : Array Value} {below : List Frame} {meth : Method} {c : Code} {T T' : State} {locs : List Loc} {cells slots : Nat} {Z : State} {a0 : Array Value} {h h' h0 : Heap} {code : ByteArray} {ml n0 : Nat} {own : String} {L : Array Slot} {S rest : List Value} {pc : Nat} {a b x : Addr} {Q : Option Value → Heap → List Loc → Prop} {G : State → Prop} {EL : List (String × Nat)} {vm vm1 : Vm} {k1 : Nat}
theorem sX (C : own_C p c code ml s m own Z a0) (X : Stand p l e R s m args below meth c T locs cells slots) {x y : Int32} {pc' : Nat} (hd : decode code pc' = .ok (.ixor, 1)) (F : own_Fin p e below G T (mkF m (pc' + 1) L (.int (x ^^^ y) :: S))) (hp : pc = pc' := by rfl) : own_Fin p e below G T (mkF m pc L (.int y :: .int x :: S)) := by subst hp; exact F.st fun t k => XS.ixor X.here C.1 rfl (C.d hd) rfl k
theorem sV (C : own_C p c code ml s m own Z a0) (X : Stand p l e R s m args below meth c T locs cells slots) {x y : Int32} {pc' : Nat} (hd : decode code pc' = .ok (.ior, 1)) (F : own_Fin p e below G T (mkF m (pc' + 1) L (.int (x ||| y) :: S))) (hp : pc = pc' := by rfl) : own_Fin p e below G T (mkF m pc L (.int y :: .int x :: S)) := by subst hp; exact F.st fun t k => XS.ior X.here C.1 rfl (C.d hd) rfl k
theorem sQ (C : own_C p c code ml s m own Z a0) (X : Stand p l e R s m args below meth c T locs cells slots) {x y : Int32} {pc' : Nat} (hd : decode code pc' = .ok (.ishr, 1)) (F : own_Fin p e below G T (mkF m (pc' + 1) L (.int (x >>> (y &&& 31)) :: S))) (hp : pc = pc' := by rfl) : own_Fin p e below G T (mkF m pc L (.int y :: .int x :: S)) := by subst hp; exact F.st fun t k => XS.ishr X.here C.1 rfl (C.d hd) rfl k
theorem sc (C : own_C p c code ml s m own Z a0) (X : Stand p l e R s m args below meth c T locs cells slots) {x : Int32} {pc' : Nat} (hd : decode code pc' = .ok (.i2c, 1)) (F : own_Fin p e below G T (mkF m (pc' + 1) L (.int x.toUInt32.toUInt16.toUInt32.toInt32 :: S))) (hp : pc = pc' := by rfl) : own_Fin p e below G T (mkF m pc L (.int x :: S)) := by subst hp; exact F.st fun t k => XS.i2c X.here C.1 rfl (C.d hd) rfl k
theorem sb (C : own_C p c code ml s m own Z a0) (X : Stand p l e R s m args below meth c T locs cells slots) {x : Int32} {pc' : Nat} (hd : decode code pc' = .ok (.i2b, 1)) (F : own_Fin p e below G T (mkF m (pc' + 1) L (.int x.toInt8.toInt32 :: S))) (hp : pc = pc' := by rfl) : own_Fin p e below G T (mkF m pc L (.int x :: S)) := by subst hp; exact F.st fun t k => XS.i2b X.here C.1 rfl (C.d hd) rfl k
theorem sZ (C : own_C p c code ml s m own Z a0) (X : Stand p l e R s m args below meth c T locs cells slots)  {pc' : Nat} (hd : decode code pc' = .ok (.aconst_null, 1)) (F : own_Fin p e below G T (mkF m (pc' + 1) L (.null :: S))) (hp : pc = pc' := by rfl) : own_Fin p e below G T (mkF m pc L S) := by subst hp; exact F.st fun t k => XS.aconstNull X.here C.1 rfl (C.d hd) k
theorem sM3 (C : own_C p c code ml s m own Z a0) (X : Stand p l e R s m args below meth c T locs cells slots) {x y : Int32} {pc' : Nat} (hd : decode code pc' = .ok (.irem, 1)) (F : own_Fin p e below G T (mkF m (pc' + 1) L (.int (x % y) :: S))) (hp : pc = pc' := by rfl) (hy : y ≠ 0 := by decide) : own_Fin p e below G T (mkF m pc L (.int y :: .int x :: S)) := by subst hp; exact F.st fun t k => iremM X C.1 rfl (C.d hd) rfl hy k
theorem kI (C : own_C p c code ml s m own Z a0) (X : Stand p l e R s m args below meth c T locs cells slots) {i : Nat} {v : Int32} (w : (Cond.constant own i v).before a0 Z = true) {pc' : Nat} (hd : decode code pc' = .ok (.ldc i, 2)) (F : own_Fin p e below G T (mkF m (pc' + 2) L (.int v :: S))) (hp : pc = pc' := by rfl) : own_Fin p e below G T (mkF m pc L S) := by subst hp; exact F.st fun t q => X.ldcInt C.1 C.o (mvT C.z w) (g := mkF m pc L S) rfl (C.d hd) _ q
theorem aM (C : own_C p c code ml s m own Z a0) (X : Stand p l e R s m args below meth c T locs cells slots) {cd : ACond} {x y : Value} {o : Int} (same : Bool) (pt : Nat) {pc' : Nat} (hd : decode code pc' = .ok (.if_acmp cd o, 3)) (hq : decide (x = y) = same) (F : own_Fin p e below G T (mkF m pt L S)) (hp : pc = pc' := by rfl) (h1 : x.isRef = true := by rfl) (h2 : y.isRef = true := by rfl) (ho : 0 ≤ (pc' : Int) + o := by decide) (ht : pt = if acV cd same = true then ((pc' : Int) + o).toNat else pc' + 3 := by decide) : own_Fin p e below G T (mkF m pc L (y :: x :: S)) := by
  subst hp; exact F.st fun t k => acmp X C.1 rfl h1 h2 rfl (C.d hd) rfl hq ho ht k
theorem lH (C : own_C p c code ml s m own Z a0) (X : Stand p l e R s m args below meth c T locs cells slots) {k : Int32} {df : Int} {prs : Array (Int × Int)} {len : Nat} {pc' : Nat} (hd : decode code pc' = .ok (.lookupswitch df prs, len)) (a off : Int) (pt : Nat) (F : own_Fin p e below G T (mkF m pt L S)) (hp : pc = pc' := by rfl) (hso : (prs.toList.zip (prs.toList.drop 1)).all (fun (a, next) => a.1 < next.1) = true := by decide) (hf : prs.find? (·.1 == k.toInt) = some (a, off) := by decide) (ho : 0 ≤ (pc' : Int) + off := by decide) (ht : ((pc' : Int) + off).toNat = pt := by decide) : own_Fin p e below G T (mkF m pc L (.int k :: S)) := by
  subst hp ht; exact F.st fun t q => X.lookupswitchHit C.1 (g := mkF m pc L (.int k :: S)) rfl rfl (C.d hd) hso hf ho t q
theorem lN (C : own_C p c code ml s m own Z a0) (X : Stand p l e R s m args below meth c T locs cells slots) {k : Int32} {df : Int} {prs : Array (Int × Int)} {len : Nat} {pc' : Nat} (hd : decode code pc' = .ok (.lookupswitch df prs, len)) (pt : Nat) (F : own_Fin p e below G T (mkF m pt L S)) (hp : pc = pc' := by rfl) (hso : (prs.toList.zip (prs.toList.drop 1)).all (fun (a, next) => a.1 < next.1) = true := by decide) (hf : prs.find? (·.1 == k.toInt) = none := by decide) (ho : 0 ≤ (pc' : Int) + df := by decide) (ht : ((pc' : Int) + df).toNat = pt := by decide) : own_Fin p e below G T (mkF m pc L (.int k :: S)) := by
  subst hp ht; exact F.st fun t q => X.lookupswitchMiss C.1 (g := mkF m pc L (.int k :: S)) rfl rfl (C.d hd) hso hf ho t q
theorem lT (C : own_C p c code ml s m own Z a0) (X : Stand p l e R s m args below meth c T locs cells slots) {k : Int32} {df lo hi : Int} {offs : Array Int} {len : Nat} {pc' : Nat} (hd : decode code pc' = .ok (.tableswitch df lo hi offs, len)) (off : Int) (pt : Nat) (F : own_Fin p e below G T (mkF m pt L S)) (hp : pc = pc' := by rfl) (hin : ¬ (k.toInt < lo ∨ k.toInt > hi) := by decide) (hf : offs[(k.toInt - lo).toNat]? = some off := by decide) (ho : 0 ≤ (pc' : Int) + off := by decide) (ht : ((pc' : Int) + off).toNat = pt := by decide) : own_Fin p e below G T (mkF m pc L (.int k :: S)) := by
  subst hp ht; exact F.st fun t q => X.tableswitchIn C.1 (g := mkF m pc L (.int k :: S)) rfl rfl (C.d hd) hin hf ho t q
theorem own_exc (C : own_C p c code ml s m own Z a0) (eT : T.heap = h) {D : String} (E : Exa Z h a D) : ∃ (cell : Cell), T.heap[a]? = some cell ∧ cell.vm.isStatics = false ∧ s.vm.findClass D = some cell.cls := by
  obtain ⟨cell, k, h1, h2, h3, h4, h5⟩ := E
  exact ⟨cell, by rw [eT]; exact h1, h4, by rw [C.z.alike.findClass]; exact h2⟩
theorem iY (C : own_C p c code ml s m own Z a0) (X : Stand p l e R s m args below meth c T locs cells slots) (eT : T.heap = h) {D : String} (E : Exa Z h a D) {i : Nat} (w : (Cond.classLink own i D).before a0 Z = true) {pc' : Nat} (hd : decode code pc' = .ok (.instanceof i, 3))
    (k : ∀ T', Stand p l e R s m args below meth c T' locs cells slots → T'.heap = h → own_Fin p e below G T' (mkF m (pc' + 3) L (.int 1 :: S))) (hp : pc = pc' := by rfl) : own_Fin p e below G T (mkF m pc L (.ref a :: S)) := by
  subst hp
  obtain ⟨cell, h1, h2, h3⟩ := own_exc C eT E
  obtain ⟨vm', X', st⟩ := X.instanceofYes C.1 C.o (mvT C.z w) h1 h2 h3 (Jvm.Vm.assignable_self _ _) (g := mkF m pc L (.ref a :: S)) rfl rfl (C.d hd)
  exact (k _ X' eT).st fun t q => st t q
theorem cC (C : own_C p c code ml s m own Z a0) (X : Stand p l e R s m args below meth c T locs cells slots) (eT : T.heap = h) {D : String} (E : Exa Z h a D) {i : Nat} (w : (Cond.classLink own i D).before a0 Z = true) {pc' : Nat} (hd : decode code pc' = .ok (.checkcast i, 3))
    (k : ∀ T', Stand p l e R s m args below meth c T' locs cells slots → T'.heap = h → own_Fin p e below G T' (mkF m (pc' + 3) L (.ref a :: S))) (hp : pc = pc' := by rfl) : own_Fin p e below G T (mkF m pc L (.ref a :: S)) := by
  subst hp
  obtain ⟨cell, h1, h2, h3⟩ := own_exc C eT E
  obtain ⟨vm', X', st⟩ := X.checkcastYes C.1 C.o (mvT C.z w) h1 h2 h3 (Jvm.Vm.assignable_self _ _) (g := mkF m pc L (.ref a :: S)) rfl rfl (C.d hd)
  exact (k _ X' eT).st fun t q => st t q
theorem pN (C : own_C p c code ml s m own Z a0) (X : Stand p l e R s m args below meth c T locs cells slots) (eT : T.heap = h) (N : Fr n0 locs) (ga : n0 ≤ a) {O n d : String} {v v' old : Value} {kk : Nat} (F : Fld Z h a O n d old) (E : Exa Z h a O) {ty : FieldType} {i : Nat} (w : (Cond.fieldLink own i O n d).before a0 Z = true) (wl : (Cond.lays O O n d).before a0 Z = true ∨ ((Cond.laysFinal O O n d).before a0 Z = true ∧ own = O ∧ meth.name = "<init>")) (wi : (Cond.instantiable O kk).before a0 Z = true) (hty : parseFieldDescriptor d = some ty) (hn : narrow ty v = v') (hf : fits ty v' = true) {pc' : Nat} (hd2 : decode code pc' = .ok (.putfield i, 3))
    (k : ∀ T' h' lo, Stand p l e R s m args below meth c T' lo cells slots → T'.heap = h' → Fr n0 lo → Wr h h' a (Jvm.RoadKit.slotOf Z O n d) v' → Fld Z h' a O n d v' → own_Fin p e below G T' (mkF m (pc' + 3) L S)) (hp : pc = pc' := by rfl) : own_Fin p e below G T (mkF m pc L (v :: .ref a :: S)) := by
  subst hp
  obtain ⟨T', h', X', e', W, st⟩ := putFN X C.1 C.z C.o w Via.refl eT F E wl wi hty hn hf (g := mkF m pc L (v :: .ref a :: S)) rfl rfl (C.d hd2)
  exact (k T' h' _ X' e' (Fr.snoc X' N ga) W (F.same W)).st st
/-- a new byte array, its class by name -/
theorem nE (C : own_C p c code ml s m own Z a0) (X : Stand p l e R s m args below meth c T locs cells slots) (eT : T.heap = h) {n : Int32} (cap : Nat) (w : (Cond.arrayClass .byte).before a0 Z = true) {pc' : Nat} (hd : decode code pc' = .ok (.newarray .byte, 2))
    (k : ∀ T' h' cA b, b = h.size → Stand p l e R s m args below meth c T' locs (cells + 1) (slots + cap) → T'.heap = h' → Ext h h' → Exa Z h' b "[B" → Arv Z h' b cA .byte n (List.replicate cap (.int (0 : Int32))) (.int (0 : Int32)) → own_Fin p e below G T' (mkF m (pc' + 2) L (.ref b :: S))) (hp : pc = pc' := by rfl) (hn : ¬ n < 0 := by decide) (hcap : n.toNatClampNeg ≤ cap := by decide) (hb : cap * 8 ≤ 536870912 := by decide) (hc : cells + 1 ≤ R.cells := by decide) (hl : slots + cap ≤ R.slots := by decide) : own_Fin p e below G T (mkF m pc L (.int n :: S)) := by
  subst hp
  obtain ⟨T', h', cA, X', e', E, A, EB, st⟩ := newPE X C.1 C.z (aty := .byte) w eT (g := mkF m pc L (.int n :: S)) rfl (C.d hd) rfl hn hcap hb hc hl (ad := "[B") (by decide)
  have V0 : Arv Z h' h.size cA .byte n [] (.int (0 : Int32)) := Arv.new A hn
  exact (k T' h' cA _ rfl X' e' E EB (V0.pad (pad_rep [] (.int (0 : Int32)) cap))).st st
theorem rA (C : own_C p c code ml s m own Z a0) (X : Stand p l e R s m args below meth c T locs cells slots) (eT : T.heap = h) {w : Value} {t : FieldType} (ht : t.isReference = true) (hret : meth.sig.returnType = some t ∧ meth.locks = false) {pc' : Nat} (hd : decode code pc' = .ok (.areturn, 1)) (q : Q (some w) h locs) (hp : pc = pc' := by rfl) (hw : w.isRef = true := by rfl) (h1 : cells ≤ R.cells := by decide) (h2 : slots ≤ R.slots := by decide) : own_Fin p e below (own_E R s below Q) T (mkF m pc L [w]) := by
  obtain ⟨fs, hr, hrun, hended, hW, hsame⟩ := X.leave (v := some w) (fun u => by rw [hret.1] at u; cases u) hret.2
  exact ⟨T.setFrames fs, ⟨some w, locs, hrun, hended, eT ▸ q, hW, hsame.mono h1 h2⟩, X.areturnOut C.1 hw hret.1 ht (C.d (hp ▸ hd)) hr⟩
theorem rN (C : own_C p c code ml s m own Z a0) (X : Stand p l e R s m args below meth c T locs cells slots) (eT : T.heap = h) {z : Int32} {t : FieldType} (ht : t = .boolean ∨ t = .byte ∨ t = .char ∨ t = .short) (hret : meth.sig.returnType = some t ∧ meth.locks = false) {pc' : Nat} (hd : decode code pc' = .ok (.ireturn, 1)) (q : Q (some (.int (nar t z))) h locs) (hp : pc = pc' := by rfl) (h1 : cells ≤ R.cells := by decide) (h2 : slots ≤ R.slots := by decide) : own_Fin p e below (own_E R s below Q) T (mkF m pc L (.int z :: S)) := by
  obtain ⟨fs, hr, hrun, hended, hW, hsame⟩ := X.leave (v := (some (.int (nar t z)))) (fun u => by rw [hret.1] at u; cases u) hret.2
  exact ⟨T.setFrames fs, ⟨_, locs, hrun, hended, eT ▸ q, hW, hsame.mono h1 h2⟩, retN X C.1 (t := t) hret.1 ht (C.d (hp ▸ hd)) hr⟩
theorem rAH (C : own_C p c code ml (s.setVm vm1) m own Z a0) (X : Stand p l e R (s.setVm vm1) m args below meth c T locs cells slots) (eT : T.heap = h) (hS : s.Since vm1 k1) (hk : k1 ≤ h.size) (hEL : EW Z a0 EL) (H : CHr Z EL s.vm s.heap vm1 h) {w : Value} {t : FieldType} (ht : t.isReference = true) (hret : meth.sig.returnType = some t ∧ meth.locks = false) {pc' : Nat} (hd : decode code pc' = .ok (.areturn, 1)) (q : Q (some w) h locs) (hp : pc = pc' := by rfl) (hw : w.isRef = true := by rfl) (h1 : cells ≤ R.cells := by decide) (h2 : slots ≤ R.slots := by decide) : own_Fin p e below (own_EH Z EL R s below Q) T (mkF m pc L [w]) := by
  obtain ⟨fs, hr, hrun, hended, hW⟩ := X.leaveW hS (by rw [eT]; exact hk) (v := some w) (fun u => by rw [hret.1] at u; cases u) hret.2
  exact ⟨T.setFrames fs, ⟨some w, locs, hrun, hended, eT ▸ q, (by show CHr Z EL s.vm s.heap T.vm T.heap; rw [eT]; exact H.trans (CHv.at X C.z hEL H.1)), ⟨hW.1, hW.2.1, hW.2.2.1, hW.2.2.2.mono h1 h2⟩⟩, X.areturnOut C.1 hw hret.1 ht (C.d (hp ▸ hd)) hr⟩
/-- the law's end -/
def own_EW (R : Room) (s : State) (below : List Frame) (Q : Option Value → Heap → List Loc → Prop) (U : State) : Prop := ∃ (v : Option Value) (lo : List Loc), U.status = .running ∧ Ended U below (.returned v) ∧ Q v U.heap lo ∧ ReturnedEndW s (.returned v) U lo R.cells R.slots
theorem rZW (C : own_C p c code ml (s.setVm vm1) m own Z a0) (X : Stand p l e R (s.setVm vm1) m args below meth c T locs cells slots) (eT : T.heap = h) (hS : s.Since vm1 k1) (hk : k1 ≤ h.size) {z : Int32} (hret : meth.sig.returnType = some .boolean ∧ meth.locks = false) {pc' : Nat} (hd : decode code pc' = .ok (.ireturn, 1)) (q : Q (some (.int (nar .boolean z))) h locs) (hp : pc = pc' := by rfl) (h1 : cells ≤ R.cells := by decide) (h2 : slots ≤ R.slots := by decide) : own_Fin p e below (own_EW R s below Q) T (mkF m pc L (.int z :: S)) := by
  obtain ⟨fs, hr, hrun, hended, hW⟩ := X.leaveW hS (by rw [eT]; exact hk) (v := some (.int (nar .boolean z))) (fun u => by rw [hret.1] at u; cases u) hret.2
  exact ⟨T.setFrames fs, ⟨_, locs, hrun, hended, eT ▸ q, ⟨hW.1, hW.2.1, hW.2.2.1, hW.2.2.2.mono h1 h2⟩⟩, retN X C.1 (t := .boolean) hret.1 (by simp) (C.d (hp ▸ hd)) hr⟩
theorem kA (C : own_C p c code ml (s.setVm vm1) m own Z a0) (X : Stand p l e R (s.setVm vm1) m args below meth c T locs cells slots) {i : Nat} {text : String} (w : (Cond.stringLink own i text).before a0 Z = true) (Lt : Lit (s.setVm vm1) own i a) {pc' : Nat} (hd : decode code pc' = .ok (.ldc i, 2)) (F : own_Fin p e below G T (mkF m (pc' + 2) L (.ref a :: S))) (hp : pc = pc' := by rfl) : own_Fin p e below G T (mkF m pc L S) := by
  subst hp; exact F.st fun t q => ldcAgain X C.1 C.z C.o w Lt (g := mkF m pc L S) rfl (C.d hd) t q
/-- a String that has no bytes yet is no booked one -/
theorem own_safeN (hal : Z.vm.Alike vm) (E : Exa Z h x "java/lang/String") (F : Fld Z h x "java/lang/String" "value" "[B" .null) : Safe Z EL vm h x := fun B => by
  obtain ⟨p, -, u, a, -, q, -, FB, rfl | rfl⟩ := B
  · obtain ⟨cell, cf, k, i, f, h1, h2, -, -, -, -, h3⟩ := F
    cases (show h[q.sa]? = some q.sC from FB.ha).symm.trans h1
    obtain ⟨cS, ⟨⟨-, -, -, ⟨c1, k1, i1, f1, -⟩, -, -, -, v1, -⟩, -⟩, -⟩ := FB
    obtain ⟨k', z⟩ := ff_back (U := Wst Z vm h) hal f1
    cases h2.symm.trans z
    rw [v1] at h3; cases h3
  · obtain ⟨cell, k, e1, e2, e3, -, -⟩ := E
    cases (show h[q.sd]? = some q.SA from FB.hd).symm.trans e1
    obtain ⟨cS, -, -, f, -⟩ := FB
    have f' : vm.findClass "[B" = some q.SA.cls := f
    rw [hal.findClass] at f'
    obtain ⟨k1, q1, q2⟩ := Vm.findClass_spec f'
    obtain ⟨k2, q3, q4⟩ := Vm.findClass_spec e2
    cases q1.symm.trans q3
    exact absurd (q2.symm.trans q4) (by decide)
theorem own_Fa.neT {ty ty' : FieldType} {z z' : Int32} {f g : Int32 → Int32} (F : own_Fa Z h a ty z f) (F' : own_Fa Z h b ty' z' g) (q : ty ≠ ty') : a ≠ b := fun e => by
  subst e
  obtain ⟨c1, ⟨a1, ⟨-, k, hk, cm, hkind⟩, -⟩, -⟩ := F
  obtain ⟨c2, ⟨a2, ⟨-, k', hk', cm', hkind'⟩, -⟩, -⟩ := F'
  cases a1.symm.trans a2; cases hk.symm.trans hk'
  have := hkind.symm.trans hkind'
  injection this with _ e; exact q e
theorem own_Fa.neV {ty ty' : FieldType} {z z' : Int32} {f : Int32 → Int32} {k : ClassId} {vs : List Value} {d : Value} (F : Arv Z h a k ty z vs d) (F' : own_Fa Z h b ty' z' f) (q : ty ≠ ty') : a ≠ b := fun e => by
  subst e
  obtain ⟨c1, ⟨a1, ⟨-, k, hk, cm, hkind⟩, -⟩, -⟩ := F
  obtain ⟨c2, ⟨a2, ⟨-, k', hk', cm', hkind'⟩, -⟩, -⟩ := F'
  cases a1.symm.trans a2; cases hk.symm.trans hk'
  have := hkind.symm.trans hkind'
  injection this with _ e; exact q e
theorem own_Fa.neE {n : Nat} {D : String} {ty : FieldType} {z : Int32} {f : Int32 → Int32} (E : Exa Z h x D) (F : own_Fa Z h b ty z f) (w : (Cond.instantiable D n).before a0 Z = true) : x ≠ b := fun q => by
  subst q
  obtain ⟨c1, k1, e1, f1, g1, -⟩ := E
  obtain ⟨c2, ⟨e2, ⟨-, kk, hk, comp, hkind⟩, -⟩, -⟩ := F
  cases e1.symm.trans e2
  simp only [Cond.before, Cond.holds, Cond.value, f1, Option.bind_some, g1, Option.map_some] at w
  have ho : k1.kind = .ordinary := by
    simp only [beq_iff_eq, Option.some.injEq, Bool.and_eq_true, decide_eq_true_eq] at w; exact w.1.1.1
  rw [g1] at hk; cases hk; rw [ho] at hkind; cases hkind
theorem own_safeF {ty : FieldType} {z : Int32} {f : Int32 → Int32} (hal : Z.vm.Alike vm) (F : own_Fa Z h x ty z f) (ht : ty ≠ .byte) : Safe Z EL vm h x := by obtain ⟨c, A, -⟩ := F; exact Safe.arr hal A ht
end OwnY
section OwnH0
variable {Z : State} {a0 : Array Value}
theorem own_EL (hw : ∀ d ∈ tables_1, d.before a0 Z = true) : EW Z a0 consts_1 := EW.cons (ow34 hw) (by intro c hc; simp at hc) EW.nil
theorem own_mem : ("java/lang/String", 7) ∈ consts_1 := List.mem_cons_self
theorem own_wS (hw : ∀ d ∈ tables_1, d.before a0 Z = true) : ∀ a ∈ Bundle.stringAtoms, a.before a0 Z = true := (List.forall_mem_cons.mpr ⟨(ow25 hw), (List.forall_mem_cons.mpr ⟨(ow24 hw), (List.forall_mem_cons.mpr ⟨(ow35 hw), (List.forall_mem_cons.mpr ⟨(ow36 hw), (List.forall_mem_cons.mpr ⟨(ow37 hw), (List.forall_mem_cons.mpr ⟨(ow38 hw), (List.forall_mem_cons.mpr ⟨(ow39 hw), (fun _ q => nomatch q)⟩)⟩)⟩)⟩)⟩)⟩)⟩)
end OwnH0
def own_bl (n c0 c1 : Int32) : List Value := if n = 0 then [] else if n = 1 then [.int (nar .byte c0)] else [.int (nar .byte c0), .int (nar .byte c1)]
def own_hs (n c0 c1 : Int32) : Int32 := if n = 0 then 0 else if n = 1 then c0 else 31 * c0 + c1
def own_St (Z : State) (h : Heap) (cs : Int32) (wf : Value) : Prop := Sta Z h "java/lang/String" "COMPACT_STRINGS" "Z" (.int cs) ∧ ¬ cs = 0 ∧ Sta Z h "jdk/internal/util/Preconditions" "SIOOBE_FORMATTER" "Ljava/util/function/BiFunction;" wf ∧ wf.isRef = true
theorem own_St.k {Z : State} {h h' : Heap} {cs : Int32} {wf : Value} (S : own_St Z h cs wf) (K : own_StK Z h h') : own_St Z h' cs wf := ⟨K _ _ _ _ S.1, S.2.1, K _ _ _ _ S.2.2.1, S.2.2.2⟩
def own_ok (n c0 c1 : Int32) : Prop := (n = 0 ∨ n = 1 ∨ n = 2) ∧ c0 &&& 255 = c0 ∧ c1 &&& 255 = c1
def own_Sv (Z : State) (h : Heap) (b : Addr) (k : ClassId) (n c0 c1 : Int32) : Prop := Arv Z h b k .byte n (own_bl n c0 c1) (.int (0 : Int32)) ∧ (n = 2 → Exa Z h b "[B") ∧ own_ok n c0 c1
def own_Str (Z : State) (h : Heap) (a b : Addr) (k : ClassId) (hh hz n c0 c1 : Int32) : Prop := Exa Z h a "java/lang/String" ∧ Fld Z h a "java/lang/String" "coder" "B" (.int (0 : Int32)) ∧ Fld Z h a "java/lang/String" "value" "[B" (.ref b) ∧ Fld Z h a "java/lang/String" "hash" "I" (.int hh) ∧ Fld Z h a "java/lang/String" "hashIsZero" "Z" (.int hz) ∧ own_Sv Z h b k n c0 c1 ∧ (¬ hh = 0 → hh = own_hs n c0 c1) ∧ (¬ hz = 0 → own_hs n c0 c1 = 0)
def own_Ix (Z : State) (h : Heap) (o ac as ah al : Addr) (sz cc : Int32) (fc fs fh fl : Int32 → Int32) : Prop := Exa Z h o "com/example/holdback/holdback/util/StringIndex" ∧ Fld Z h o "com/example/holdback/holdback/util/StringIndex" "chars" "[C" (.ref ac) ∧ Fld Z h o "com/example/holdback/holdback/util/StringIndex" "starts" "[I" (.ref as) ∧ Fld Z h o "com/example/holdback/holdback/util/StringIndex" "hashes" "[I" (.ref ah) ∧ Fld Z h o "com/example/holdback/holdback/util/StringIndex" "slots" "[I" (.ref al) ∧ Fld Z h o "com/example/holdback/holdback/util/StringIndex" "size" "I" (.int sz) ∧ Fld Z h o "com/example/holdback/holdback/util/StringIndex" "charCount" "I" (.int cc) ∧ own_Fa Z h ac .char (512 : Int32) fc ∧ own_Fa Z h as .int (65 : Int32) fs ∧ own_Fa Z h ah .int (64 : Int32) fh ∧ own_Fa Z h al .int (128 : Int32) fl
def own_Ne (as ah al : Addr) : Prop := as ≠ ah ∧ as ≠ al ∧ ah ≠ al
def own_Ge (n0 : Nat) (o ac as ah al : Addr) : Prop := n0 ≤ o ∧ n0 ≤ ac ∧ n0 ≤ as ∧ n0 ≤ ah ∧ n0 ≤ al
theorem own_shr0 (x : Int32) : x >>> ((0 : Int32) &&& 31) = x := by simp
theorem own_n1 (x : Int32) : x.toInt8.toInt32 &&& 255 = x &&& 255 := by
  apply Int32.toBitVec_inj.mp
  apply BitVec.eq_of_getLsbD_eq
  intro j hj
  have e1 : x.toInt8.toInt32.toBitVec = (x.toBitVec.signExtend 8).signExtend 32 := rfl
  simp only [Int32.toBitVec_and, BitVec.getLsbD_and]
  by_cases h : j < 8
  · have e3 : (x.toInt8.toInt32.toBitVec).getLsbD j = x.toBitVec.getLsbD j := by
      rw [e1, BitVec.getLsbD_signExtend, BitVec.getLsbD_signExtend]
      simp only [h, hj, if_true, decide_true, Bool.true_and]
    rw [e3]
  · have e4 : ∀ k : Fin 32, 8 ≤ k.val → (Int32.toBitVec 255).getLsbD k.val = false := by decide
    rw [e4 ⟨j, hj⟩ (Nat.le_of_not_lt h)]
    simp
theorem own_nb (c : Int32) (h : c &&& 255 = c) : (nar .byte c) &&& 255 = c := (own_n1 c).trans h
theorem own_nbi {c d : Int32} (h : c &&& 255 = c) (h' : d &&& 255 = d) (q : nar .byte c = nar .byte d) : c = d := by
  rw [← own_nb c h, ← own_nb d h', q]
theorem own_ic (c : Int32) (h : c &&& 255 = c) : c.toUInt32.toUInt16.toUInt32.toInt32 = c := by rw [← h]; exact i2c_mask c
theorem own_nc (c : Int32) (h : c &&& 255 = c) : nar .char c = c := own_ic c h
theorem own_bb (c : Int32) : nar .byte (c.toInt8.toInt32) = nar .byte c := by show c.toInt8.toInt32.toInt8.toInt32 = c.toInt8.toInt32; rw [Int8.toInt8_toInt32]
theorem own_an (x : Int32) : (x &&& 255) &&& 255 = x &&& 255 := by rw [Int32.and_assoc]; rfl
theorem own_mr {x y : Int32} (m : Nat) (hy : y.toBitVec.toNat = m) (hm : m < 2 ^ 31) : 0 ≤ (x &&& y).toInt ∧ (x &&& y).toInt ≤ m := by
  have e : (x &&& y).toInt = ((x &&& y).toBitVec).toInt := rfl
  have h1 : (x &&& y).toBitVec.toNat ≤ m := by rw [Int32.toBitVec_and, BitVec.toNat_and, ← hy]; exact Nat.and_le_right
  rw [e, BitVec.toInt_eq_toNat_cond, if_pos (by omega)]
  omega
theorem own_m127 (x : Int32) : ¬ (x &&& 127) < 0 ∧ (x &&& 127) < 128 := by
  have := own_mr (x := x) (y := 127) 127 (by decide) (by decide)
  simp only [Int32.lt_iff_toInt_lt, show (0 : Int32).toInt = 0 from by decide, show (128 : Int32).toInt = 128 from by decide]
  omega
theorem own_le255 {c : Int32} (h : c &&& 255 = c) : ¬ (255 : Int32) < c := by
  have := own_mr (x := c) (y := 255) 255 (by decide) (by decide)
  rw [h] at this
  simp only [Int32.lt_iff_toInt_lt, show (255 : Int32).toInt = 255 from by decide]
  omega
theorem own_nx (x : Int32) : ¬ ((x &&& 127) + 1) &&& 127 = x &&& 127 := by
  intro h
  have e : ∀ k : Fin 128, ((Int32.ofNat k.val + 1) &&& 127) ≠ Int32.ofNat k.val := by decide +kernel
  have q := own_mr (x := x) (y := 127) 127 (by decide) (by decide)
  have hk : (x &&& 127) = Int32.ofNat (x &&& 127).toInt.toNat := by
    apply Int32.toInt_inj.mp
    rw [Int32.toInt_ofNat_of_lt (by omega)]
    omega
  exact e ⟨(x &&& 127).toInt.toNat, by omega⟩ (by rw [← hk]; exact h)
theorem own_r3 (x : Int32) : (((x.toUInt32 >>> ((16 : Int32) &&& 31).toUInt32).toInt32) &&& 32767) % 3 = 0 ∨ (((x.toUInt32 >>> ((16 : Int32) &&& 31).toUInt32).toInt32) &&& 32767) % 3 = 1 ∨ (((x.toUInt32 >>> ((16 : Int32) &&& 31).toUInt32).toInt32) &&& 32767) % 3 = 2 := by
  generalize (x.toUInt32 >>> ((16 : Int32) &&& 31).toUInt32).toInt32 = y
  have q := own_mr (x := y) (y := 32767) 32767 (by decide) (by decide)
  have e : ((y &&& 32767) % 3).toInt = (y &&& 32767).toInt.tmod 3 := by rw [Int32.toInt_mod]; rfl
  have e2 : (y &&& 32767).toInt.tmod 3 = (y &&& 32767).toInt % 3 := Int.tmod_eq_emod_of_nonneg q.1
  rw [e2] at e
  have h3 : (y &&& 32767).toInt % 3 = 0 ∨ (y &&& 32767).toInt % 3 = 1 ∨ (y &&& 32767).toInt % 3 = 2 := by omega
  rcases h3 with h | h | h
  · exact Or.inl (Int32.toInt_inj.mp (e.trans h))
  · exact Or.inr (Or.inl (Int32.toInt_inj.mp (e.trans h)))
  · exact Or.inr (Or.inr (Int32.toInt_inj.mp (e.trans h)))
theorem own_c0 {c : Int32} (h : c = 0 ∨ c = 1 ∨ c = 2) : ¬ c < 0 ∧ c < 512 := by rcases h with rfl | rfl | rfl <;> decide
theorem own_c1 {c : Int32} (h : c = 0 ∨ c = 1 ∨ c = 2) : ¬ (c + 1) < 0 ∧ (c + 1) < 512 := by rcases h with rfl | rfl | rfl <;> decide
def own_e (w u0 u1 n c0 c1 : Int32) : Int32 := if w = n then (if n = 0 then 1 else if u0 = c0 then (if n = 1 then 1 else if u1 = c1 then 1 else 0) else 0) else 0
def own_fd (q z g h e : Int32) : Int32 := if z = 0 then q else if g = h then (if e = 0 then (q + 1) &&& 127 else q) else (q + 1) &&& 127
theorem own_e01 (w u0 u1 n c0 c1 : Int32) : own_e w u0 u1 n c0 c1 = 0 ∨ own_e w u0 u1 n c0 c1 = 1 := by
  unfold own_e; split
  · split
    · exact Or.inr rfl
    · split
      · split
        · exact Or.inr rfl
        · split
          · exact Or.inr rfl
          · exact Or.inl rfl
      · exact Or.inl rfl
  · exact Or.inl rfl
theorem own_fdr (x z g h e : Int32) : ¬ (own_fd (x &&& 127) z g h e) < 0 ∧ (own_fd (x &&& 127) z g h e) < 128 := by
  unfold own_fd; split
  · exact own_m127 x
  · split
    · split
      · exact own_m127 _
      · exact own_m127 x
    · exact own_m127 _
theorem own_eR {w u0 u1 n c0 c1 : Int32} (hn : n = 0 ∨ n = 1 ∨ n = 2) (h1 : w = n) (h2 : ¬ n = 0 → u0 = c0) (h3 : n = 2 → u1 = c1) : own_e w u0 u1 n c0 c1 = 1 := by
  subst h1
  rcases hn with rfl | rfl | rfl
  · rfl
  · simp [own_e, h2 (by decide)]
  · simp [own_e, h2 (by decide), h3 rfl]
theorem own_eE {w u0 u1 n c0 c1 : Int32} (hn : n = 0 ∨ n = 1 ∨ n = 2) (h : ¬ own_e w u0 u1 n c0 c1 = 0) : w = n ∧ (¬ n = 0 → u0 = c0) ∧ (n = 2 → u1 = c1) := by
  unfold own_e at h
  split at h
  · rename_i hw
    refine ⟨hw, fun q => ?_, fun q => ?_⟩
    · rw [if_neg q] at h
      by_cases g : u0 = c0
      · exact g
      · rw [if_neg g] at h; exact absurd rfl h
    · subst q
      rw [if_neg (by decide)] at h
      by_cases g : u0 = c0
      · rw [if_pos g, if_neg (by decide)] at h
        by_cases g' : u1 = c1
        · exact g'
        · rw [if_neg g'] at h; exact absurd rfl h
      · rw [if_neg g] at h; exact absurd rfl h
  · exact absurd rfl h
/-- found and not found are told by the strings alone -/
theorem own_add1 {fl : Int32 → Int32} {n c0 c1 m d0 d1 w u0 u1 g : Int32} {sp : Int32 → Int32} (hn : n = 0 ∨ n = 1 ∨ n = 2) (hm : m = 0 ∨ m = 1 ∨ m = 2)
    (hw : w = m) (h0 : ¬ m = 0 → u0 = d0) (h1 : m = 2 → u1 = d1) (hg : g = own_hs m d0 d1)
    (hl1 : fl (sp (own_hs m d0 d1) &&& 127) = 1) (hl0 : ∀ i, ¬ i < 0 → i < 128 → ¬ i = sp (own_hs m d0 d1) &&& 127 → fl i = 0) :
    (own_e n c0 c1 m d0 d1 = 0 → fl (own_fd (sp (own_hs n c0 c1) &&& 127) (fl (sp (own_hs n c0 c1) &&& 127)) g (own_hs n c0 c1) (own_e w u0 u1 n c0 c1)) = 0) ∧
    (own_e n c0 c1 m d0 d1 = 1 → ¬ fl (own_fd (sp (own_hs n c0 c1) &&& 127) (fl (sp (own_hs n c0 c1) &&& 127)) g (own_hs n c0 c1) (own_e w u0 u1 n c0 c1)) = 0) := by
  subst hw hg
  have nx : ∀ x, ¬ fl (x &&& 127) = 0 → fl ((x &&& 127) + 1 &&& 127) = 0 := fun x hx => by
    have e : x &&& 127 = sp (own_hs w d0 d1) &&& 127 := Decidable.byContradiction fun q => hx (hl0 _ (own_m127 x).1 (own_m127 x).2 q)
    rw [e]
    exact hl0 _ (own_m127 _).1 (own_m127 _).2 (own_nx _)
  refine ⟨fun hE => ?_, fun hE => ?_⟩
  · by_cases z : fl (sp (own_hs n c0 c1) &&& 127) = 0
    · rw [own_fd, if_pos z]; exact z
    · rw [own_fd, if_neg z]
      split
      · split
        · exact nx _ z
        · rename_i he
          obtain ⟨rfl, q1, q2⟩ := own_eE hn he
          have : own_e w c0 c1 w d0 d1 = 1 := own_eR hm rfl (fun g => (q1 g).symm.trans (h0 g)) (fun g => (q2 g).symm.trans (h1 g))
          rw [hE] at this; cases this
      · exact nx _ z
  · obtain ⟨rfl, q1, q2⟩ := own_eE hm (by rw [hE]; decide : ¬ own_e n c0 c1 w d0 d1 = 0)
    have hh : own_hs n c0 c1 = own_hs n d0 d1 := by
      rcases hm with rfl | rfl | rfl
      · rfl
      · show c0 = d0; exact q1 (by decide)
      · show 31 * c0 + c1 = 31 * d0 + d1; rw [q1 (by decide), q2 rfl]
    have he : own_e n u0 u1 n c0 c1 = 1 := own_eR hm rfl (fun g => (h0 g).trans (q1 g).symm) (fun g => (h1 g).trans (q2 g).symm)
    rw [he, hh, hl1, own_fd, if_neg (by decide), if_pos rfl, if_neg (by decide), hl1]
    decide
/-- the place where a search begins: free, or taken with a free one behind -/
theorem own_pl {fl : Int32 → Int32} {p : Int32} (hl1 : fl (p &&& 127) = 1) (hl0 : ∀ i, ¬ i < 0 → i < 128 → ¬ i = p &&& 127 → fl i = 0) (x : Int32) : fl (x &&& 127) = 0 ∨ (fl (x &&& 127) = 1 ∧ fl (((x &&& 127) + 1) &&& 127) = 0) := by
  by_cases e : x &&& 127 = p &&& 127
  · rw [e]; exact Or.inr ⟨hl1, hl0 _ (own_m127 _).1 (own_m127 _).2 (own_nx _)⟩
  · exact Or.inl (hl0 _ (own_m127 x).1 (own_m127 x).2 e)
theorem own_fd0 {q z g h e : Int32} (hz : z = 0) : own_fd q z g h e = q := by rw [own_fd, if_pos hz]
theorem own_fd1 {q z g h e : Int32} (hz : z = 1) (hg : g = h) (he : e = 1) : own_fd q z g h e = q := by subst hz hg he; rw [own_fd, if_neg (by decide), if_pos rfl, if_neg (by decide)]
theorem own_h2 (c0 c1 : Int32) (h : c0 &&& 255 = c0) (h' : c1 &&& 255 = c1) : (31 * ((0 : Int32) + ((nar .byte c0) &&& 255))) + ((nar .byte c1) &&& 255) = own_hs 2 c0 c1 := by rw [own_nb c0 h, own_nb c1 h', Int32.zero_add]; rfl
theorem own_l0 {i : Int32} {t : Nat} (hi : i.toInt = 128 - ((t + 1 : Nat) : Int)) (ht : t + 1 ≤ 128) : (¬ i < 0 ∧ i < 128) ∧ (i + 1).toInt = 128 - (t : Int) ∧ ∀ f : Int32 → Int32, (∀ j, ¬ j < 0 → j < i → f j = 0) → ∀ j, ¬ j < 0 → j < i + 1 → (if j = i then (0 : Int32) else f j) = 0 := by
  have e0 : (0 : Int32).toInt = 0 := by decide
  have e1 : (128 : Int32).toInt = 128 := by decide
  have e2 : (i + 1).toInt = 128 - (t : Int) := by
    rw [Int32.toInt_add, hi, show (1 : Int32).toInt = 1 from by decide]
    rw [Int.bmod_eq_of_le (by omega) (by omega)]
    omega
  refine ⟨?_, e2, fun f hf j h1 h2 => ?_⟩
  · simp only [Int32.lt_iff_toInt_lt, e0, e1]; omega
  · by_cases q : j = i
    · rw [if_pos q]
    · rw [if_neg q]
      refine hf j h1 ?_
      rw [Int32.lt_iff_toInt_lt] at h2 ⊢
      have : j.toInt ≠ i.toInt := fun e => q (Int32.toInt_inj.mp e)
      omega
theorem own_l1 {i : Int32} (hi : i.toInt = 128 - ((0 : Nat) : Int)) : ¬ i < 128 ∧ ∀ j, j < (128 : Int32) → j < i := by
  have e1 : (128 : Int32).toInt = 128 := by decide
  refine ⟨?_, fun j h => ?_⟩
  · rw [Int32.lt_iff_toInt_lt, e1]; omega
  · rw [Int32.lt_iff_toInt_lt, e1] at h; rw [Int32.lt_iff_toInt_lt]; omega

theorem own_icn (c : Int32) (h : c &&& 255 = c) : nar .char (((nar .byte c) &&& (255 : Int32)).toUInt32.toUInt16.toUInt32.toInt32) = c := by rw [own_nb c h, own_ic c h]; exact own_nc c h
theorem own_bl0 (c0 c1 : Int32) : own_bl 0 c0 c1 = [] := rfl
theorem own_bl1 (c0 c1 : Int32) : own_bl 1 c0 c1 = [.int (nar .byte c0)] := rfl
theorem own_bl2 (c0 c1 : Int32) : own_bl 2 c0 c1 = [.int (nar .byte c0), .int (nar .byte c1)] := rfl
theorem d17_0 : decode jdk_41_method_12_code 0 = .ok (.iload_n 0, 1) := by decide +kernel
theorem d17_1 : decode jdk_41_method_12_code 1 = .ok (.ifCond .lt 13, 3) := by decide +kernel
theorem d17_4 : decode jdk_41_method_12_code 4 = .ok (.iload_n 0, 1) := by decide +kernel
theorem d17_5 : decode jdk_41_method_12_code 5 = .ok (.iload_n 1, 1) := by decide +kernel
theorem d17_6 : decode jdk_41_method_12_code 6 = .ok (.if_icmp .gt 8, 3) := by decide +kernel
theorem d17_9 : decode jdk_41_method_12_code 9 = .ok (.iload_n 1, 1) := by decide +kernel
theorem d17_10 : decode jdk_41_method_12_code 10 = .ok (.iload_n 2, 1) := by decide +kernel
theorem d17_11 : decode jdk_41_method_12_code 11 = .ok (.if_icmp .le 11, 3) := by decide +kernel
theorem d17_22 : decode jdk_41_method_12_code 22 = .ok (.iload_n 0, 1) := by decide +kernel
theorem d17_23 : decode jdk_41_method_12_code 23 = .ok (.ireturn, 1) := by decide +kernel
theorem pn_17 : plainName "jdk/internal/util/Preconditions" = true := by first | (simp [plainName, overriddenIn]; done) | decide +kernel
theorem ef_17_IIIV (m : MethodId) (y0 : Int32) (y1 : Int32) (y2 : Int32) (y3 : Value) (hy3 : y3.isRef = true) : entryFrame m #[(.int y0), (.int y1), (.int y2), y3] 4 = mkF m 0 #[.val (.int y0), .val (.int y1), .val (.int y2), .val y3] [] := by cases y3 <;> first | (simp [Value.isRef] at hy3; done) | rfl
theorem rm_cft (l : Launch) (Z : State) (a0 : Array Value) (hw : ∀ d ∈ tables_1, d.before a0 Z = true) (i : Int32) (j : Int32) (n : Int32) (wf : Value) (h0 : Heap) (n0 : Nat) (Z0 : n0 ≤ h0.size) (hwf : wf.isRef = true) (q1 : ¬ i < 0) (q2 : ¬ j < i) (q3 : ¬ n < j) :
    own_Met l (⟨"jdk/internal/util/Preconditions", "checkFromToIndex", "(IIILjava/util/function/BiFunction;)I"⟩ : MethodName) jdk_41_method_12_code 4 (some .int) ({ frames := 0, cells := 0, slots := 0, locals := 0 } : Room) Z h0 #[(.int i), (.int j), (.int n), wf] (fun v h L => v = some (.int i) ∧ Fr n0 L ∧ h = h0) := by
  refine own_go hw (plainFor_of_name pn_17) (fun m => ef_17_IIIV m i j n wf hwf) fun p e s m below meth c T0 C hret X0 e0 => ?_
  have N0 := Fr.nil n0
  refine sI C X0 d17_0 ?_
  refine bN C X0 d17_1 ((if0 _ _).trans (flt q1).1) ?_
  refine sI C X0 d17_4 ?_
  refine sI C X0 d17_5 ?_
  refine cN C X0 d17_6 ((flt q2).2.2.1) ?_
  refine sI C X0 d17_9 ?_
  refine sI C X0 d17_10 ?_
  refine cY C X0 d17_11 22 ((flt q3).2.2.2) ?_
  refine sI C X0 d17_22 ?_
  exact rI C X0 e0 hret d17_23 ⟨rfl, N0, rfl⟩
theorem d19_0 : decode jdk_41_method_13_code 0 = .ok (.iload_n 2, 1) := by decide +kernel
theorem d19_1 : decode jdk_41_method_13_code 1 = .ok (.iload_n 0, 1) := by decide +kernel
theorem d19_2 : decode jdk_41_method_13_code 2 = .ok (.ior, 1) := by decide +kernel
theorem d19_3 : decode jdk_41_method_13_code 3 = .ok (.iload_n 1, 1) := by decide +kernel
theorem d19_4 : decode jdk_41_method_13_code 4 = .ok (.ior, 1) := by decide +kernel
theorem d19_5 : decode jdk_41_method_13_code 5 = .ok (.ifCond .lt 10, 3) := by decide +kernel
theorem d19_8 : decode jdk_41_method_13_code 8 = .ok (.iload_n 1, 1) := by decide +kernel
theorem d19_9 : decode jdk_41_method_13_code 9 = .ok (.iload_n 2, 1) := by decide +kernel
theorem d19_10 : decode jdk_41_method_13_code 10 = .ok (.iload_n 0, 1) := by decide +kernel
theorem d19_11 : decode jdk_41_method_13_code 11 = .ok (.isub, 1) := by decide +kernel
theorem d19_12 : decode jdk_41_method_13_code 12 = .ok (.if_icmp .le 11, 3) := by decide +kernel
theorem d19_23 : decode jdk_41_method_13_code 23 = .ok (.iload_n 0, 1) := by decide +kernel
theorem d19_24 : decode jdk_41_method_13_code 24 = .ok (.ireturn, 1) := by decide +kernel
theorem pn_19 : plainName "jdk/internal/util/Preconditions" = true := by first | (simp [plainName, overriddenIn]; done) | decide +kernel
theorem ef_19_IIIV (m : MethodId) (y0 : Int32) (y1 : Int32) (y2 : Int32) (y3 : Value) (hy3 : y3.isRef = true) : entryFrame m #[(.int y0), (.int y1), (.int y2), y3] 4 = mkF m 0 #[.val (.int y0), .val (.int y1), .val (.int y2), .val y3] [] := by cases y3 <;> first | (simp [Value.isRef] at hy3; done) | rfl
theorem rm_cfs (l : Launch) (Z : State) (a0 : Array Value) (hw : ∀ d ∈ tables_1, d.before a0 Z = true) (i : Int32) (j : Int32) (n : Int32) (wf : Value) (h0 : Heap) (n0 : Nat) (Z0 : n0 ≤ h0.size) (hwf : wf.isRef = true) (q1 : ¬ ((n ||| i) ||| j) < 0) (q2 : ¬ (n - i) < j) :
    own_Met l (⟨"jdk/internal/util/Preconditions", "checkFromIndexSize", "(IIILjava/util/function/BiFunction;)I"⟩ : MethodName) jdk_41_method_13_code 4 (some .int) ({ frames := 0, cells := 0, slots := 0, locals := 0 } : Room) Z h0 #[(.int i), (.int j), (.int n), wf] (fun v h L => v = some (.int i) ∧ Fr n0 L ∧ h = h0) := by
  refine own_go hw (plainFor_of_name pn_19) (fun m => ef_19_IIIV m i j n wf hwf) fun p e s m below meth c T0 C hret X0 e0 => ?_
  have N0 := Fr.nil n0
  refine sI C X0 d19_0 ?_
  refine sI C X0 d19_1 ?_
  refine sV C X0 d19_2 ?_
  refine sI C X0 d19_3 ?_
  refine sV C X0 d19_4 ?_
  refine bN C X0 d19_5 ((if0 _ _).trans (flt q1).1) ?_
  refine sI C X0 d19_8 ?_
  refine sI C X0 d19_9 ?_
  refine sI C X0 d19_10 ?_
  refine sS C X0 d19_11 ?_
  refine cY C X0 d19_12 23 ((flt q2).2.2.2) ?_
  refine sI C X0 d19_23 ?_
  exact rI C X0 e0 hret d19_24 ⟨rfl, N0, rfl⟩
theorem d28_0 : decode jdk_41_method_11_code 0 = .ok (.iload_n 0, 1) := by decide +kernel
theorem d28_1 : decode jdk_41_method_11_code 1 = .ok (.ifCond .lt 8, 3) := by decide +kernel
theorem d28_4 : decode jdk_41_method_11_code 4 = .ok (.iload_n 0, 1) := by decide +kernel
theorem d28_5 : decode jdk_41_method_11_code 5 = .ok (.iload_n 1, 1) := by decide +kernel
theorem d28_6 : decode jdk_41_method_11_code 6 = .ok (.if_icmp .lt 10, 3) := by decide +kernel
theorem d28_16 : decode jdk_41_method_11_code 16 = .ok (.iload_n 0, 1) := by decide +kernel
theorem d28_17 : decode jdk_41_method_11_code 17 = .ok (.ireturn, 1) := by decide +kernel
theorem pn_28 : plainName "jdk/internal/util/Preconditions" = true := by first | (simp [plainName, overriddenIn]; done) | decide +kernel
theorem ef_28_IIV (m : MethodId) (y0 : Int32) (y1 : Int32) (y2 : Value) (hy2 : y2.isRef = true) : entryFrame m #[(.int y0), (.int y1), y2] 3 = mkF m 0 #[.val (.int y0), .val (.int y1), .val y2] [] := by cases y2 <;> first | (simp [Value.isRef] at hy2; done) | rfl
theorem rm_cix (l : Launch) (Z : State) (a0 : Array Value) (hw : ∀ d ∈ tables_1, d.before a0 Z = true) (i : Int32) (n : Int32) (wf : Value) (h0 : Heap) (n0 : Nat) (Z0 : n0 ≤ h0.size) (hwf : wf.isRef = true) (q1 : ¬ i < 0) (q2 : i < n) :
    own_Met l (⟨"jdk/internal/util/Preconditions", "checkIndex", "(IILjava/util/function/BiFunction;)I"⟩ : MethodName) jdk_41_method_11_code 3 (some .int) ({ frames := 0, cells := 0, slots := 0, locals := 0 } : Room) Z h0 #[(.int i), (.int n), wf] (fun v h L => v = some (.int i) ∧ Fr n0 L ∧ h = h0) := by
  refine own_go hw (plainFor_of_name pn_28) (fun m => ef_28_IIV m i n wf hwf) fun p e s m below meth c T0 C hret X0 e0 => ?_
  have N0 := Fr.nil n0
  refine sI C X0 d28_0 ?_
  refine bN C X0 d28_1 ((if0 _ _).trans (flt q1).1) ?_
  refine sI C X0 d28_4 ?_
  refine sI C X0 d28_5 ?_
  refine cY C X0 d28_6 16 ((tlt q2).1) ?_
  refine sI C X0 d28_16 ?_
  exact rI C X0 e0 hret d28_17 ⟨rfl, N0, rfl⟩
theorem d27_0 : decode jdk_31_method_17_code 0 = .ok (.iload_n 0, 1) := by decide +kernel
theorem d27_1 : decode jdk_31_method_17_code 1 = .ok (.iload_n 1, 1) := by decide +kernel
theorem d27_2 : decode jdk_31_method_17_code 2 = .ok (.aconst_null, 1) := by decide +kernel
theorem d27_3 : decode jdk_31_method_17_code 3 = .ok (.invokestatic 105, 3) := by decide +kernel
theorem pd__IILjava_util_function_BiFunction__I : parseMethodDescriptor "(IILjava/util/function/BiFunction;)I" = some ⟨[.int, .int, (.object "java/util/function/BiFunction")], some .int⟩ := by decide +kernel
theorem d27_6 : decode jdk_31_method_17_code 6 = .ok (.ireturn, 1) := by decide +kernel
theorem pn_27 : plainName "java/util/Objects" = true := by first | (simp [plainName, overriddenIn]; done) | decide +kernel
theorem ef_27_II (m : MethodId) (y0 : Int32) (y1 : Int32) : entryFrame m #[(.int y0), (.int y1)] 2 = mkF m 0 #[.val (.int y0), .val (.int y1)] [] := by first | (simp [entryFrame, mkF, argsToLocals, Value.category]; done) | rfl
theorem rm_oix (l : Launch) (Z : State) (a0 : Array Value) (hw : ∀ d ∈ tables_1, d.before a0 Z = true) (i : Int32) (n : Int32) (h0 : Heap) (n0 : Nat) (Z0 : n0 ≤ h0.size) (q1 : ¬ i < 0) (q2 : i < n) :
    own_Met l (⟨"java/util/Objects", "checkIndex", "(II)I"⟩ : MethodName) jdk_31_method_17_code 2 (some .int) ({ frames := 1, cells := 0, slots := 0, locals := 14 } : Room) Z h0 #[(.int i), (.int n)] (fun v h L => v = some (.int i) ∧ Fr n0 L ∧ h = h0) := by
  refine own_go hw (plainFor_of_name pn_27) (fun m => ef_27_II m i n) fun p e s m below meth c T0 C hret X0 e0 => ?_
  have N0 := Fr.nil n0
  refine sI C X0 d27_0 ?_
  refine sI C X0 d27_1 ?_
  refine sZ C X0 d27_2 ?_
  refine cS C X0 e0 (rm_cix l Z a0 hw i n .null  h0 n0 Z0 rfl q1 q2) (W := 0) (ow146 C.w) (ow147 C.w) (ow148 C.w) (ow102 C.w) (argsL := [(.int i), (.int n), .null]) (lenOf pd__IILjava_util_function_BiFunction__I rfl) d27_3 fun v1 T1 lo1 X1 hQ1 => ?_
  obtain ⟨rfl, Nq1, e1⟩ := hQ1
  exact rI C X1 e1 hret d27_6 ⟨rfl, (N0.app Nq1), rfl⟩
theorem d39_0 : decode jdk_42_method_155_code 0 = .ok (.iload_n 0, 1) := by decide +kernel
theorem d39_1 : decode jdk_42_method_155_code 1 = .ok (.iload_n 1, 1) := by decide +kernel
theorem d39_2 : decode jdk_42_method_155_code 2 = .ok (.getstatic 1053, 3) := by decide +kernel
theorem d39_5 : decode jdk_42_method_155_code 5 = .ok (.invokestatic 1059, 3) := by decide +kernel
theorem d39_8 : decode jdk_42_method_155_code 8 = .ok (.pop, 1) := by decide +kernel
theorem d39_9 : decode jdk_42_method_155_code 9 = .ok (.return_, 1) := by decide +kernel
theorem pn_39 : plainName "java/lang/String" = true := by first | (simp [plainName, overriddenIn]; done) | decide +kernel
theorem ef_39_II (m : MethodId) (y0 : Int32) (y1 : Int32) : entryFrame m #[(.int y0), (.int y1)] 2 = mkF m 0 #[.val (.int y0), .val (.int y1)] [] := by first | (simp [entryFrame, mkF, argsToLocals, Value.category]; done) | rfl
theorem rm_six (l : Launch) (Z : State) (a0 : Array Value) (hw : ∀ d ∈ tables_1, d.before a0 Z = true) (i : Int32) (n : Int32) (cs : Int32) (wf : Value) (h0 : Heap) (n0 : Nat) (Z0 : n0 ≤ h0.size) (Ss : own_St Z h0 cs wf) (q1 : ¬ i < 0) (q2 : i < n) :
    own_Met l (⟨"java/lang/String", "checkIndex", "(II)V"⟩ : MethodName) jdk_42_method_155_code 2 none ({ frames := 1, cells := 0, slots := 0, locals := 14 } : Room) Z h0 #[(.int i), (.int n)] (fun v h L => v = none ∧ Fr n0 L ∧ h = h0) := by
  refine own_go hw (plainFor_of_name pn_39) (fun m => ef_39_II m i n) fun p e s m below meth c T0 C hret X0 e0 => ?_
  have N0 := Fr.nil n0
  obtain ⟨Sco, hcs, Sfo, hwf⟩ := id Ss
  refine sI C X0 d39_0 ?_
  refine sI C X0 d39_1 ?_
  refine gS C X0 e0 Sfo (ow101 C.w) d39_2 fun T1 X1 e1 => ?_
  refine cS C X1 e1 (rm_cix l Z a0 hw i n wf  h0 n0 Z0 hwf q1 q2) (W := 0) (ow192 C.w) (ow147 C.w) (ow148 C.w) (ow102 C.w) (argsL := [(.int i), (.int n), wf]) (lenOf pd__IILjava_util_function_BiFunction__I rfl) d39_5 fun v2 T2 lo2 X2 hQ2 => ?_
  obtain ⟨rfl, Nq2, e2⟩ := hQ2
  refine sO C X2 d39_8 ?_
  exact rV C X2 e2 hret d39_9 ⟨rfl, (N0.app Nq2), rfl⟩
theorem d16_0 : decode jdk_42_method_158_code 0 = .ok (.iload_n 0, 1) := by decide +kernel
theorem d16_1 : decode jdk_42_method_158_code 1 = .ok (.iload_n 1, 1) := by decide +kernel
theorem d16_2 : decode jdk_42_method_158_code 2 = .ok (.iload_n 2, 1) := by decide +kernel
theorem d16_3 : decode jdk_42_method_158_code 3 = .ok (.getstatic 1053, 3) := by decide +kernel
theorem d16_6 : decode jdk_42_method_158_code 6 = .ok (.invokestatic 1062, 3) := by decide +kernel
theorem pd__IIILjava_util_function_BiFunction__I : parseMethodDescriptor "(IIILjava/util/function/BiFunction;)I" = some ⟨[.int, .int, .int, (.object "java/util/function/BiFunction")], some .int⟩ := by decide +kernel
theorem d16_9 : decode jdk_42_method_158_code 9 = .ok (.pop, 1) := by decide +kernel
theorem d16_10 : decode jdk_42_method_158_code 10 = .ok (.return_, 1) := by decide +kernel
theorem pn_16 : plainName "java/lang/String" = true := by first | (simp [plainName, overriddenIn]; done) | decide +kernel
theorem ef_16_III (m : MethodId) (y0 : Int32) (y1 : Int32) (y2 : Int32) : entryFrame m #[(.int y0), (.int y1), (.int y2)] 3 = mkF m 0 #[.val (.int y0), .val (.int y1), .val (.int y2)] [] := by first | (simp [entryFrame, mkF, argsToLocals, Value.category]; done) | rfl
theorem rm_cbe (l : Launch) (Z : State) (a0 : Array Value) (hw : ∀ d ∈ tables_1, d.before a0 Z = true) (i : Int32) (j : Int32) (n : Int32) (cs : Int32) (wf : Value) (h0 : Heap) (n0 : Nat) (Z0 : n0 ≤ h0.size) (Ss : own_St Z h0 cs wf) (q1 : ¬ i < 0) (q2 : ¬ j < i) (q3 : ¬ n < j) :
    own_Met l (⟨"java/lang/String", "checkBoundsBeginEnd", "(III)V"⟩ : MethodName) jdk_42_method_158_code 3 none ({ frames := 1, cells := 0, slots := 0, locals := 15 } : Room) Z h0 #[(.int i), (.int j), (.int n)] (fun v h L => v = none ∧ Fr n0 L ∧ h = h0) := by
  refine own_go hw (plainFor_of_name pn_16) (fun m => ef_16_III m i j n) fun p e s m below meth c T0 C hret X0 e0 => ?_
  have N0 := Fr.nil n0
  obtain ⟨Sco, hcs, Sfo, hwf⟩ := id Ss
  refine sI C X0 d16_0 ?_
  refine sI C X0 d16_1 ?_
  refine sI C X0 d16_2 ?_
  refine gS C X0 e0 Sfo (ow101 C.w) d16_3 fun T1 X1 e1 => ?_
  refine cS C X1 e1 (rm_cft l Z a0 hw i j n wf  h0 n0 Z0 hwf q1 q2 q3) (W := 0) (ow103 C.w) (ow104 C.w) (ow105 C.w) (ow102 C.w) (argsL := [(.int i), (.int j), (.int n), wf]) (lenOf pd__IIILjava_util_function_BiFunction__I rfl) d16_6 fun v2 T2 lo2 X2 hQ2 => ?_
  obtain ⟨rfl, Nq2, e2⟩ := hQ2
  refine sO C X2 d16_9 ?_
  exact rV C X2 e2 hret d16_10 ⟨rfl, (N0.app Nq2), rfl⟩
theorem d18_0 : decode jdk_42_method_157_code 0 = .ok (.iload_n 0, 1) := by decide +kernel
theorem d18_1 : decode jdk_42_method_157_code 1 = .ok (.iload_n 1, 1) := by decide +kernel
theorem d18_2 : decode jdk_42_method_157_code 2 = .ok (.iload_n 2, 1) := by decide +kernel
theorem d18_3 : decode jdk_42_method_157_code 3 = .ok (.getstatic 1053, 3) := by decide +kernel
theorem d18_6 : decode jdk_42_method_157_code 6 = .ok (.invokestatic 1065, 3) := by decide +kernel
theorem d18_9 : decode jdk_42_method_157_code 9 = .ok (.ireturn, 1) := by decide +kernel
theorem pn_18 : plainName "java/lang/String" = true := by first | (simp [plainName, overriddenIn]; done) | decide +kernel
theorem ef_18_III (m : MethodId) (y0 : Int32) (y1 : Int32) (y2 : Int32) : entryFrame m #[(.int y0), (.int y1), (.int y2)] 3 = mkF m 0 #[.val (.int y0), .val (.int y1), .val (.int y2)] [] := by first | (simp [entryFrame, mkF, argsToLocals, Value.category]; done) | rfl
theorem rm_coc (l : Launch) (Z : State) (a0 : Array Value) (hw : ∀ d ∈ tables_1, d.before a0 Z = true) (i : Int32) (j : Int32) (n : Int32) (cs : Int32) (wf : Value) (h0 : Heap) (n0 : Nat) (Z0 : n0 ≤ h0.size) (Ss : own_St Z h0 cs wf) (q1 : ¬ ((n ||| i) ||| j) < 0) (q2 : ¬ (n - i) < j) :
    own_Met l (⟨"java/lang/String", "checkBoundsOffCount", "(III)I"⟩ : MethodName) jdk_42_method_157_code 3 (some .int) ({ frames := 1, cells := 0, slots := 0, locals := 15 } : Room) Z h0 #[(.int i), (.int j), (.int n)] (fun v h L => v = some (.int i) ∧ Fr n0 L ∧ h = h0) := by
  refine own_go hw (plainFor_of_name pn_18) (fun m => ef_18_III m i j n) fun p e s m below meth c T0 C hret X0 e0 => ?_
  have N0 := Fr.nil n0
  obtain ⟨Sco, hcs, Sfo, hwf⟩ := id Ss
  refine sI C X0 d18_0 ?_
  refine sI C X0 d18_1 ?_
  refine sI C X0 d18_2 ?_
  refine gS C X0 e0 Sfo (ow101 C.w) d18_3 fun T1 X1 e1 => ?_
  refine cS C X1 e1 (rm_cfs l Z a0 hw i j n wf  h0 n0 Z0 hwf q1 q2) (W := 0) (ow109 C.w) (ow110 C.w) (ow111 C.w) (ow102 C.w) (argsL := [(.int i), (.int j), (.int n), wf]) (lenOf pd__IIILjava_util_function_BiFunction__I rfl) d18_6 fun v2 T2 lo2 X2 hQ2 => ?_
  obtain ⟨rfl, Nq2, e2⟩ := hQ2
  exact rI C X2 e2 hret d18_9 ⟨rfl, (N0.app Nq2), rfl⟩
theorem d8_0 : decode jdk_42_method_154_code 0 = .ok (.getstatic 38, 3) := by decide +kernel
theorem d8_3 : decode jdk_42_method_154_code 3 = .ok (.ifCond .eq 14, 3) := by decide +kernel
theorem d8_6 : decode jdk_42_method_154_code 6 = .ok (.aload_n 0, 1) := by decide +kernel
theorem d8_7 : decode jdk_42_method_154_code 7 = .ok (.getfield 15, 3) := by decide +kernel
theorem d8_10 : decode jdk_42_method_154_code 10 = .ok (.ifCond .ne 7, 3) := by decide +kernel
theorem d8_13 : decode jdk_42_method_154_code 13 = .ok (.iconst 1, 1) := by decide +kernel
theorem d8_14 : decode jdk_42_method_154_code 14 = .ok (.goto 4, 3) := by decide +kernel
theorem d8_18 : decode jdk_42_method_154_code 18 = .ok (.ireturn, 1) := by decide +kernel
theorem pn_8 : plainName "java/lang/String" = true := by first | (simp [plainName, overriddenIn]; done) | decide +kernel
theorem ef_8_R (m : MethodId) (y0 : Addr) : entryFrame m #[(.ref y0)] 1 = mkF m 0 #[.val (.ref y0)] [] := by first | (simp [entryFrame, mkF, argsToLocals, Value.category]; done) | rfl
theorem rm_isl (l : Launch) (Z : State) (a0 : Array Value) (hw : ∀ d ∈ tables_1, d.before a0 Z = true) (a : Addr) (cs : Int32) (wf : Value) (h0 : Heap) (n0 : Nat) (Z0 : n0 ≤ h0.size) (Ss : own_St Z h0 cs wf) (Fco : Fld Z h0 a "java/lang/String" "coder" "B" (.int (0 : Int32))) :
    own_Met l (⟨"java/lang/String", "isLatin1", "()Z"⟩ : MethodName) jdk_42_method_154_code 1 (some .boolean) ({ frames := 0, cells := 0, slots := 0, locals := 0 } : Room) Z h0 #[(.ref a)] (fun v h L => v = some (.int (1 : Int32)) ∧ Fr n0 L ∧ h = h0) := by
  refine own_go hw (plainFor_of_name pn_8) (fun m => ef_8_R m a) fun p e s m below meth c T0 C hret X0 e0 => ?_
  have N0 := Fr.nil n0
  obtain ⟨Sco, hcs, Sfo, hwf⟩ := id Ss
  refine gS C X0 e0 Sco (ow61 C.w) d8_0 fun T1 X1 e1 => ?_
  refine bN C X1 d8_3 ((if0 _ _).trans (feq hcs).1) ?_
  refine sA C X1 d8_6 ?_
  refine gF C X1 e1 Fco (ow41 C.w) d8_7 fun T2 X2 e2 => ?_
  refine bN C X2 d8_10 ((if0 _ _).trans (teq (by decide : (0 : Int32) = (0 : Int32))).2) ?_
  refine sC C X2 d8_13 ?_
  refine sG C X2 d8_14 18 ?_
  exact rN C X2 e2 (t := .boolean) (by simp) hret d8_18 ⟨rfl, N0, rfl⟩
theorem d14_0 : decode jdk_42_method_152_code 0 = .ok (.getstatic 38, 3) := by decide +kernel
theorem d14_3 : decode jdk_42_method_152_code 3 = .ok (.ifCond .eq 10, 3) := by decide +kernel
theorem d14_6 : decode jdk_42_method_152_code 6 = .ok (.aload_n 0, 1) := by decide +kernel
theorem d14_7 : decode jdk_42_method_152_code 7 = .ok (.getfield 15, 3) := by decide +kernel
theorem d14_10 : decode jdk_42_method_152_code 10 = .ok (.goto 4, 3) := by decide +kernel
theorem d14_14 : decode jdk_42_method_152_code 14 = .ok (.ireturn, 1) := by decide +kernel
theorem pn_14 : plainName "java/lang/String" = true := by first | (simp [plainName, overriddenIn]; done) | decide +kernel
theorem ef_14_R (m : MethodId) (y0 : Addr) : entryFrame m #[(.ref y0)] 1 = mkF m 0 #[.val (.ref y0)] [] := by first | (simp [entryFrame, mkF, argsToLocals, Value.category]; done) | rfl
theorem rm_cod (l : Launch) (Z : State) (a0 : Array Value) (hw : ∀ d ∈ tables_1, d.before a0 Z = true) (a : Addr) (cs : Int32) (wf : Value) (h0 : Heap) (n0 : Nat) (Z0 : n0 ≤ h0.size) (Ss : own_St Z h0 cs wf) (Fco : Fld Z h0 a "java/lang/String" "coder" "B" (.int (0 : Int32))) :
    own_Met l (⟨"java/lang/String", "coder", "()B"⟩ : MethodName) jdk_42_method_152_code 1 (some .byte) ({ frames := 0, cells := 0, slots := 0, locals := 0 } : Room) Z h0 #[(.ref a)] (fun v h L => v = some (.int (0 : Int32)) ∧ Fr n0 L ∧ h = h0) := by
  refine own_go hw (plainFor_of_name pn_14) (fun m => ef_14_R m a) fun p e s m below meth c T0 C hret X0 e0 => ?_
  have N0 := Fr.nil n0
  obtain ⟨Sco, hcs, Sfo, hwf⟩ := id Ss
  refine gS C X0 e0 Sco (ow61 C.w) d14_0 fun T1 X1 e1 => ?_
  refine bN C X1 d14_3 ((if0 _ _).trans (feq hcs).1) ?_
  refine sA C X1 d14_6 ?_
  refine gF C X1 e1 Fco (ow41 C.w) d14_7 fun T2 X2 e2 => ?_
  refine sG C X2 d14_10 14 ?_
  exact rN C X2 e2 (t := .byte) (by simp) hret d14_14 ⟨rfl, N0, rfl⟩
theorem d13_0 : decode jdk_42_method_54_code 0 = .ok (.aload_n 0, 1) := by decide +kernel
theorem d13_1 : decode jdk_42_method_54_code 1 = .ok (.getfield 9, 3) := by decide +kernel
theorem d13_4 : decode jdk_42_method_54_code 4 = .ok (.arraylength, 1) := by decide +kernel
theorem d13_5 : decode jdk_42_method_54_code 5 = .ok (.aload_n 0, 1) := by decide +kernel
theorem d13_6 : decode jdk_42_method_54_code 6 = .ok (.invokevirtual 335, 3) := by decide +kernel
theorem pd___B : parseMethodDescriptor "()B" = some ⟨[], some .byte⟩ := by decide +kernel
theorem d13_9 : decode jdk_42_method_54_code 9 = .ok (.ishr, 1) := by decide +kernel
theorem d13_10 : decode jdk_42_method_54_code 10 = .ok (.ireturn, 1) := by decide +kernel
theorem pn_13 : plainName "java/lang/String" = true := by first | (simp [plainName, overriddenIn]; done) | decide +kernel
theorem ef_13_R (m : MethodId) (y0 : Addr) : entryFrame m #[(.ref y0)] 1 = mkF m 0 #[.val (.ref y0)] [] := by first | (simp [entryFrame, mkF, argsToLocals, Value.category]; done) | rfl
theorem rm_len (l : Launch) (Z : State) (a0 : Array Value) (hw : ∀ d ∈ tables_1, d.before a0 Z = true) (a : Addr) (b : Addr) (k : ClassId) (hh : Int32) (hz : Int32) (n : Int32) (c0 : Int32) (c1 : Int32) (cs : Int32) (wf : Value) (h0 : Heap) (n0 : Nat) (Z0 : n0 ≤ h0.size) (Ss : own_St Z h0 cs wf) (S : own_Str Z h0 a b k hh hz n c0 c1) :
    own_Met l (⟨"java/lang/String", "length", "()I"⟩ : MethodName) jdk_42_method_54_code 1 (some .int) ({ frames := 1, cells := 0, slots := 0, locals := 13 } : Room) Z h0 #[(.ref a)] (fun v h L => v = some (.int n) ∧ Fr n0 L ∧ h = h0) := by
  refine own_go hw (plainFor_of_name pn_13) (fun m => ef_13_R m a) fun p e s m below meth c T0 C hret X0 e0 => ?_
  have N0 := Fr.nil n0
  obtain ⟨Sco, hcs, Sfo, hwf⟩ := id Ss
  obtain ⟨Es, Fco, Fva, Fha, Fhz, Sv, hh1, hz1⟩ := id S
  obtain ⟨Av, Eb, hok⟩ := id Sv
  refine sA C X0 d13_0 ?_
  refine gF C X0 e0 Fva (ow40 C.w) d13_1 fun T1 X1 e1 => ?_
  refine nA C X1 e1 Av d13_4 ?_
  refine sA C X1 d13_5 ?_
  refine cV C X1 e1 (rm_cod l Z a0 hw a cs wf  h0 n0 Z0 Ss Fco) Es (W := 1) (ow87 C.w) (ow88 C.w) (ow90 C.w) (ow89 C.w) (ow91 C.w) (ow25 C.w) (argsL := []) (lenOf pd___B rfl) d13_6 fun v2 T2 lo2 X2 hQ2 => ?_
  obtain ⟨rfl, Nq2, e2⟩ := hQ2
  refine sQ C X2 d13_9 ?_
  exact rI C X2 e2 hret d13_10 ⟨(congrArg (fun z => some (Value.int z)) (own_shr0 n)), (N0.app Nq2), rfl⟩
section OwnFe
variable {p : Program} {l : Launch} {e : Env} {R : Room} {s : State} {m : MethodId} {args : Array Value} {below : List Frame} {meth : Method} {c : Code} {T T' : State} {locs : List Loc} {cells slots : Nat} {a0 : Array Value} {code : ByteArray} {ml n0 : Nat} {own : String} {L : Array Slot} {S : List Value} {pc : Nat} {G : State → Prop} {Z : State} {h : Heap} {a : Addr} {z : Int32} {f : Int32 → Int32}
theorem fIe (C : own_C p c code ml s m own Z a0) (X : Stand p l e R s m args below meth c T locs cells slots) (eT : T.heap = h) (V : own_Fa Z h a .int z f) {j v : Int32} (hj : ¬ j < 0 ∧ j < z) (hv : f j = v) {pc' : Nat} (hd : decode code pc' = .ok (.iaload, 1)) (F : own_Fin p e below G T (mkF m (pc' + 1) L (.int v :: S))) (hp : pc = pc' := by rfl) : own_Fin p e below G T (mkF m pc L (.int j :: .ref a :: S)) := by subst hv; exact fI C X eT V hj hd F hp
end OwnFe
theorem d38_0 : decode jdk_43_method_2_code 0 = .ok (.iload_n 1, 1) := by decide +kernel
theorem d38_1 : decode jdk_43_method_2_code 1 = .ok (.aload_n 0, 1) := by decide +kernel
theorem d38_2 : decode jdk_43_method_2_code 2 = .ok (.arraylength, 1) := by decide +kernel
theorem d38_3 : decode jdk_43_method_2_code 3 = .ok (.invokestatic 9, 3) := by decide +kernel
theorem pd__II_V : parseMethodDescriptor "(II)V" = some ⟨[.int, .int], none⟩ := by decide +kernel
theorem d38_6 : decode jdk_43_method_2_code 6 = .ok (.aload_n 0, 1) := by decide +kernel
theorem d38_7 : decode jdk_43_method_2_code 7 = .ok (.iload_n 1, 1) := by decide +kernel
theorem d38_8 : decode jdk_43_method_2_code 8 = .ok (.baload, 1) := by decide +kernel
theorem d38_9 : decode jdk_43_method_2_code 9 = .ok (.sipush 255, 3) := by decide +kernel
theorem d38_12 : decode jdk_43_method_2_code 12 = .ok (.iand, 1) := by decide +kernel
theorem d38_13 : decode jdk_43_method_2_code 13 = .ok (.i2c, 1) := by decide +kernel
theorem d38_14 : decode jdk_43_method_2_code 14 = .ok (.ireturn, 1) := by decide +kernel
theorem pn_38 : plainName "java/lang/StringLatin1" = true := by first | (simp [plainName, overriddenIn]; done) | decide +kernel
theorem ef_38_RI (m : MethodId) (y0 : Addr) (y1 : Int32) : entryFrame m #[(.ref y0), (.int y1)] 2 = mkF m 0 #[.val (.ref y0), .val (.int y1)] [] := by first | (simp [entryFrame, mkF, argsToLocals, Value.category]; done) | rfl
theorem rm_lca (l : Launch) (Z : State) (a0 : Array Value) (hw : ∀ d ∈ tables_1, d.before a0 Z = true) (b : Addr) (k : ClassId) (n : Int32) (vs : List Value) (i : Int32) (B : Int32) (cx : Int32) (cs : Int32) (wf : Value) (h0 : Heap) (n0 : Nat) (Z0 : n0 ≤ h0.size) (Ss : own_St Z h0 cs wf) (Av : Arv Z h0 b k .byte n vs (.int (0 : Int32))) (q1 : ¬ i < 0) (q2 : i < n) (hv : vs.getD i.toNatClampNeg (.int (0 : Int32)) = .int B) (hB : B &&& 255 = cx) :
    own_Met l (⟨"java/lang/StringLatin1", "charAt", "([BI)C"⟩ : MethodName) jdk_43_method_2_code 2 (some .char) ({ frames := 2, cells := 0, slots := 0, locals := 27 } : Room) Z h0 #[(.ref b), (.int i)] (fun v h L => v = some (.int cx) ∧ Fr n0 L ∧ h = h0) := by
  refine own_go hw (plainFor_of_name pn_38) (fun m => ef_38_RI m b i) fun p e s m below meth c T0 C hret X0 e0 => ?_
  have N0 := Fr.nil n0
  obtain ⟨Sco, hcs, Sfo, hwf⟩ := id Ss
  refine sI C X0 d38_0 ?_
  refine sA C X0 d38_1 ?_
  refine nA C X0 e0 Av d38_2 ?_
  refine cS C X0 e0 (rm_six l Z a0 hw i n cs wf  h0 n0 Z0 Ss q1 q2) (W := 0) (ow189 C.w) (ow190 C.w) (ow191 C.w) (ow25 C.w) (argsL := [(.int i), (.int n)]) (lenOf pd__II_V rfl) d38_3 fun v1 T1 lo1 X1 hQ1 => ?_
  obtain ⟨rfl, Nq1, e1⟩ := hQ1
  refine sA C X1 d38_6 ?_
  refine sI C X1 d38_7 ?_
  refine yB C X1 e1 Av (v := (.int B)) d38_8 ?_ (hj := ⟨q1, q2⟩) (hv := hv)
  refine sU C X1 d38_9 ?_
  refine sN C X1 d38_12 ?_
  refine sc C X1 d38_13 ?_
  exact rN C X1 e1 (t := .char) (by simp) hret d38_14 ⟨(congrArg (fun z => some (Value.int z)) (show nar .char ((B &&& 255).toUInt32.toUInt16.toUInt32.toInt32) = cx by rw [i2c_mask, hB]; exact own_nc cx (by rw [← hB]; exact own_an B))), (N0.app Nq1), rfl⟩
theorem d37_0 : decode jdk_42_method_56_code 0 = .ok (.aload_n 0, 1) := by decide +kernel
theorem d37_1 : decode jdk_42_method_56_code 1 = .ok (.invokevirtual 492, 3) := by decide +kernel
theorem pd___Z : parseMethodDescriptor "()Z" = some ⟨[], some .boolean⟩ := by decide +kernel
theorem d37_4 : decode jdk_42_method_56_code 4 = .ok (.ifCond .eq 12, 3) := by decide +kernel
theorem d37_7 : decode jdk_42_method_56_code 7 = .ok (.aload_n 0, 1) := by decide +kernel
theorem d37_8 : decode jdk_42_method_56_code 8 = .ok (.getfield 9, 3) := by decide +kernel
theorem d37_11 : decode jdk_42_method_56_code 11 = .ok (.iload_n 1, 1) := by decide +kernel
theorem d37_12 : decode jdk_42_method_56_code 12 = .ok (.invokestatic 495, 3) := by decide +kernel
theorem pd___BI_C : parseMethodDescriptor "([BI)C" = some ⟨[(.array .byte), .int], some .char⟩ := by decide +kernel
theorem d37_15 : decode jdk_42_method_56_code 15 = .ok (.ireturn, 1) := by decide +kernel
theorem pn_37 : plainName "java/lang/String" = true := by first | (simp [plainName, overriddenIn]; done) | decide +kernel
theorem ef_37_RI (m : MethodId) (y0 : Addr) (y1 : Int32) : entryFrame m #[(.ref y0), (.int y1)] 2 = mkF m 0 #[.val (.ref y0), .val (.int y1)] [] := by first | (simp [entryFrame, mkF, argsToLocals, Value.category]; done) | rfl
theorem rm_sca (l : Launch) (Z : State) (a0 : Array Value) (hw : ∀ d ∈ tables_1, d.before a0 Z = true) (a : Addr) (b : Addr) (k : ClassId) (hh : Int32) (hz : Int32) (n : Int32) (c0 : Int32) (c1 : Int32) (i : Int32) (B : Int32) (cx : Int32) (cs : Int32) (wf : Value) (h0 : Heap) (n0 : Nat) (Z0 : n0 ≤ h0.size) (Ss : own_St Z h0 cs wf) (S : own_Str Z h0 a b k hh hz n c0 c1) (q1 : ¬ i < 0) (q2 : i < n) (hv : (own_bl n c0 c1).getD i.toNatClampNeg (.int (0 : Int32)) = .int B) (hB : B &&& 255 = cx) :
    own_Met l (⟨"java/lang/String", "charAt", "(I)C"⟩ : MethodName) jdk_42_method_56_code 2 (some .char) ({ frames := 3, cells := 0, slots := 0, locals := 40 } : Room) Z h0 #[(.ref a), (.int i)] (fun v h L => v = some (.int cx) ∧ Fr n0 L ∧ h = h0) := by
  refine own_go hw (plainFor_of_name pn_37) (fun m => ef_37_RI m a i) fun p e s m below meth c T0 C hret X0 e0 => ?_
  have N0 := Fr.nil n0
  obtain ⟨Sco, hcs, Sfo, hwf⟩ := id Ss
  obtain ⟨Es, Fco, Fva, Fha, Fhz, Sv, hh1, hz1⟩ := id S
  obtain ⟨Av, Eb, hok⟩ := id Sv
  refine sA C X0 d37_0 ?_
  refine cV C X0 e0 (rm_isl l Z a0 hw a cs wf  h0 n0 Z0 Ss Fco) Es (W := 0) (ow56 C.w) (ow57 C.w) (ow59 C.w) (ow58 C.w) (ow60 C.w) (ow25 C.w) (argsL := []) (lenOf pd___Z rfl) d37_1 fun v1 T1 lo1 X1 hQ1 => ?_
  obtain ⟨rfl, Nq1, e1⟩ := hQ1
  refine bN C X1 d37_4 ((if0 _ _).trans (feq (by decide : ¬ ((1 : Int32) = (0 : Int32)))).1) ?_
  refine sA C X1 d37_7 ?_
  refine gF C X1 e1 Fva (ow40 C.w) d37_8 fun T2 X2 e2 => ?_
  refine sI C X2 d37_11 ?_
  refine cS C X2 e2 (rm_lca l Z a0 hw b k n (own_bl n c0 c1) i B cx cs wf  h0 n0 Z0 Ss Av q1 q2 hv hB) (W := 0) (ow186 C.w) (ow187 C.w) (ow188 C.w) (ow64 C.w) (argsL := [(.ref b), (.int i)]) (lenOf pd___BI_C rfl) d37_12 fun v3 T3 lo3 X3 hQ3 => ?_
  obtain ⟨rfl, Nq3, e3⟩ := hQ3
  exact rN C X3 e3 (t := .char) (by simp) hret d37_15 ⟨(congrArg (fun z => some (Value.int z)) (own_nc cx (by rw [← hB]; exact own_an B))), ((N0.app Nq1).app Nq3), rfl⟩
theorem d41_0 : decode jdk_48_method_5_code 0 = .ok (.iload_n 2, 1) := by decide +kernel
theorem d41_1 : decode jdk_48_method_5_code 1 = .ok (.iload_n 3, 1) := by decide +kernel
theorem d41_2 : decode jdk_48_method_5_code 2 = .ok (.iadd, 1) := by decide +kernel
theorem d41_3 : decode jdk_48_method_5_code 3 = .ok (.istore 4, 2) := by decide +kernel
theorem d41_5 : decode jdk_48_method_5_code 5 = .ok (.iload_n 2, 1) := by decide +kernel
theorem d41_6 : decode jdk_48_method_5_code 6 = .ok (.istore 5, 2) := by decide +kernel
theorem d41_8 : decode jdk_48_method_5_code 8 = .ok (.iload 5, 2) := by decide +kernel
theorem d41_10 : decode jdk_48_method_5_code 10 = .ok (.iload 4, 2) := by decide +kernel
theorem d41_12 : decode jdk_48_method_5_code 12 = .ok (.if_icmp .ge 23, 3) := by decide +kernel
theorem d41_15 : decode jdk_48_method_5_code 15 = .ok (.bipush 31, 2) := by decide +kernel
theorem d41_17 : decode jdk_48_method_5_code 17 = .ok (.iload_n 0, 1) := by decide +kernel
theorem d41_18 : decode jdk_48_method_5_code 18 = .ok (.imul, 1) := by decide +kernel
theorem d41_19 : decode jdk_48_method_5_code 19 = .ok (.aload_n 1, 1) := by decide +kernel
theorem d41_20 : decode jdk_48_method_5_code 20 = .ok (.iload 5, 2) := by decide +kernel
theorem d41_22 : decode jdk_48_method_5_code 22 = .ok (.baload, 1) := by decide +kernel
theorem d41_23 : decode jdk_48_method_5_code 23 = .ok (.sipush 255, 3) := by decide +kernel
theorem d41_26 : decode jdk_48_method_5_code 26 = .ok (.iand, 1) := by decide +kernel
theorem d41_27 : decode jdk_48_method_5_code 27 = .ok (.iadd, 1) := by decide +kernel
theorem d41_28 : decode jdk_48_method_5_code 28 = .ok (.istore_n 0, 1) := by decide +kernel
theorem d41_29 : decode jdk_48_method_5_code 29 = .ok (.iinc 5 1, 3) := by decide +kernel
theorem d41_32 : decode jdk_48_method_5_code 32 = .ok (.goto (-24), 3) := by decide +kernel
theorem d41_35 : decode jdk_48_method_5_code 35 = .ok (.iload_n 0, 1) := by decide +kernel
theorem d41_36 : decode jdk_48_method_5_code 36 = .ok (.ireturn, 1) := by decide +kernel
theorem pn_41 : plainName "jdk/internal/util/ArraysSupport" = true := by first | (simp [plainName, overriddenIn]; done) | decide +kernel
theorem ef_41_IRII (m : MethodId) (y0 : Int32) (y1 : Addr) (y2 : Int32) (y3 : Int32) : entryFrame m #[(.int y0), (.ref y1), (.int y2), (.int y3)] 6 = mkF m 0 #[.val (.int y0), .val (.ref y1), .val (.int y2), .val (.int y3), .unset, .unset] [] := by first | (simp [entryFrame, mkF, argsToLocals, Value.category]; done) | rfl
theorem rm_shc (l : Launch) (Z : State) (a0 : Array Value) (hw : ∀ d ∈ tables_1, d.before a0 Z = true) (b : Addr) (k : ClassId) (c0 : Int32) (c1 : Int32) (h0 : Heap) (n0 : Nat) (Z0 : n0 ≤ h0.size) (Av : Arv Z h0 b k .byte 2 [.int (nar .byte c0), .int (nar .byte c1)] (.int (0 : Int32))) (hm0 : c0 &&& 255 = c0) (hm1 : c1 &&& 255 = c1) :
    own_Met l (⟨"jdk/internal/util/ArraysSupport", "signedHashCode", "(I[BII)I"⟩ : MethodName) jdk_48_method_5_code 6 (some .int) ({ frames := 0, cells := 0, slots := 0, locals := 0 } : Room) Z h0 #[(.int (0 : Int32)), (.ref b), (.int (0 : Int32)), (.int (2 : Int32))] (fun v h L => v = some (.int (own_hs 2 c0 c1)) ∧ Fr n0 L ∧ h = h0) := by
  refine own_go hw (plainFor_of_name pn_41) (fun m => ef_41_IRII m (0 : Int32) b (0 : Int32) (2 : Int32)) fun p e s m below meth c T0 C hret X0 e0 => ?_
  have N0 := Fr.nil n0
  refine sI C X0 d41_0 ?_
  refine sI C X0 d41_1 ?_
  refine sP C X0 d41_2 ?_
  refine wi C X0 #[.val (.int (0 : Int32)), .val (.ref b), .val (.int (0 : Int32)), .val (.int (2 : Int32)), .val (.int (2 : Int32)), .unset] d41_3 ?_
  refine sI C X0 d41_5 ?_
  refine wi C X0 #[.val (.int (0 : Int32)), .val (.ref b), .val (.int (0 : Int32)), .val (.int (2 : Int32)), .val (.int (2 : Int32)), .val (.int (0 : Int32))] d41_6 ?_
  refine si C X0 d41_8 ?_
  refine si C X0 d41_10 ?_
  refine cN C X0 d41_12 ((tlt (by decide : (0 : Int32) < (2 : Int32))).2.1) ?_
  refine sB C X0 d41_15 ?_
  refine sI C X0 d41_17 ?_
  refine sM C X0 d41_18 ?_
  refine sA C X0 d41_19 ?_
  refine si C X0 d41_20 ?_
  refine yB C X0 e0 Av (v := (.int (nar .byte c0))) d41_22 ?_
  refine sU C X0 d41_23 ?_
  refine sN C X0 d41_26 ?_
  refine sP C X0 d41_27 ?_
  refine wI C X0 #[.val (.int ((0 : Int32) + ((nar .byte c0) &&& (255 : Int32)))), .val (.ref b), .val (.int (0 : Int32)), .val (.int (2 : Int32)), .val (.int (2 : Int32)), .val (.int (0 : Int32))] d41_28 ?_
  refine wc C X0 #[.val (.int ((0 : Int32) + ((nar .byte c0) &&& (255 : Int32)))), .val (.ref b), .val (.int (0 : Int32)), .val (.int (2 : Int32)), .val (.int (2 : Int32)), .val (.int (1 : Int32))] d41_29 ?_
  refine sG C X0 d41_32 8 ?_
  refine si C X0 d41_8 ?_
  refine si C X0 d41_10 ?_
  refine cN C X0 d41_12 ((tlt (by decide : (1 : Int32) < (2 : Int32))).2.1) ?_
  refine sB C X0 d41_15 ?_
  refine sI C X0 d41_17 ?_
  refine sM C X0 d41_18 ?_
  refine sA C X0 d41_19 ?_
  refine si C X0 d41_20 ?_
  refine yB C X0 e0 Av (v := (.int (nar .byte c1))) d41_22 ?_
  refine sU C X0 d41_23 ?_
  refine sN C X0 d41_26 ?_
  refine sP C X0 d41_27 ?_
  refine wI C X0 #[.val (.int (((31 : Int32) * ((0 : Int32) + ((nar .byte c0) &&& (255 : Int32)))) + ((nar .byte c1) &&& (255 : Int32)))), .val (.ref b), .val (.int (0 : Int32)), .val (.int (2 : Int32)), .val (.int (2 : Int32)), .val (.int (1 : Int32))] d41_28 ?_
  refine wc C X0 #[.val (.int (((31 : Int32) * ((0 : Int32) + ((nar .byte c0) &&& (255 : Int32)))) + ((nar .byte c1) &&& (255 : Int32)))), .val (.ref b), .val (.int (0 : Int32)), .val (.int (2 : Int32)), .val (.int (2 : Int32)), .val (.int (2 : Int32))] d41_29 ?_
  refine sG C X0 d41_32 8 ?_
  refine si C X0 d41_8 ?_
  refine si C X0 d41_10 ?_
  refine cY C X0 d41_12 35 ((flt (by decide : ¬ ((2 : Int32) < (2 : Int32)))).2.1) ?_
  refine sI C X0 d41_35 ?_
  exact rI C X0 e0 hret d41_36 ⟨(congrArg (fun z => some (Value.int z)) (own_h2 c0 c1 hm0 hm1)), N0, rfl⟩
theorem d40_0 : decode jdk_48_method_4_code 0 = .ok (.iload 4, 2) := by decide +kernel
theorem d40_2 : decode jdk_48_method_4_code 2 = .ok (.tableswitch 127 4 10 #[42, 55, 127, 127, 88, 101, 114], 42) := by decide +kernel
theorem d40_44 : decode jdk_48_method_4_code 44 = .ok (.iload_n 3, 1) := by decide +kernel
theorem d40_45 : decode jdk_48_method_4_code 45 = .ok (.aload_n 0, 1) := by decide +kernel
theorem d40_46 : decode jdk_48_method_4_code 46 = .ok (.checkcast 60, 3) := by decide +kernel
theorem d40_49 : decode jdk_48_method_4_code 49 = .ok (.iload_n 1, 1) := by decide +kernel
theorem d40_50 : decode jdk_48_method_4_code 50 = .ok (.iload_n 2, 1) := by decide +kernel
theorem d40_51 : decode jdk_48_method_4_code 51 = .ok (.invokestatic 62, 3) := by decide +kernel
theorem pd__I_BII_I : parseMethodDescriptor "(I[BII)I" = some ⟨[.int, (.array .byte), .int, .int], some .int⟩ := by decide +kernel
theorem d40_54 : decode jdk_48_method_4_code 54 = .ok (.goto 103, 3) := by decide +kernel
theorem d40_157 : decode jdk_48_method_4_code 157 = .ok (.ireturn, 1) := by decide +kernel
theorem pn_40 : plainName "jdk/internal/util/ArraysSupport" = true := by first | (simp [plainName, overriddenIn]; done) | decide +kernel
theorem ef_40_RIIII (m : MethodId) (y0 : Addr) (y1 : Int32) (y2 : Int32) (y3 : Int32) (y4 : Int32) : entryFrame m #[(.ref y0), (.int y1), (.int y2), (.int y3), (.int y4)] 5 = mkF m 0 #[.val (.ref y0), .val (.int y1), .val (.int y2), .val (.int y3), .val (.int y4)] [] := by first | (simp [entryFrame, mkF, argsToLocals, Value.category]; done) | rfl
theorem rm_vhc (l : Launch) (Z : State) (a0 : Array Value) (hw : ∀ d ∈ tables_1, d.before a0 Z = true) (b : Addr) (k : ClassId) (c0 : Int32) (c1 : Int32) (h0 : Heap) (n0 : Nat) (Z0 : n0 ≤ h0.size) (Av : Arv Z h0 b k .byte 2 [.int (nar .byte c0), .int (nar .byte c1)] (.int (0 : Int32))) (E : Exa Z h0 b "[B") (hm0 : c0 &&& 255 = c0) (hm1 : c1 &&& 255 = c1) :
    own_Met l (⟨"jdk/internal/util/ArraysSupport", "vectorizedHashCode", "(Ljava/lang/Object;IIII)I"⟩ : MethodName) jdk_48_method_4_code 5 (some .int) ({ frames := 1, cells := 0, slots := 0, locals := 17 } : Room) Z h0 #[(.ref b), (.int (0 : Int32)), (.int (2 : Int32)), (.int (0 : Int32)), (.int (4 : Int32))] (fun v h L => v = some (.int (own_hs 2 c0 c1)) ∧ Fr n0 L ∧ h = h0) := by
  refine own_go hw (plainFor_of_name pn_40) (fun m => ef_40_RIIII m b (0 : Int32) (2 : Int32) (0 : Int32) (4 : Int32)) fun p e s m below meth c T0 C hret X0 e0 => ?_
  have N0 := Fr.nil n0
  refine si C X0 d40_0 ?_
  refine lT C X0 d40_2 42 44 ?_
  refine sI C X0 d40_44 ?_
  refine sA C X0 d40_45 ?_
  refine cC C X0 e0 E (ow197 C.w) d40_46 fun T1 X1 e1 => ?_
  refine sI C X1 d40_49 ?_
  refine sI C X1 d40_50 ?_
  refine cS C X1 e1 (rm_shc l Z a0 hw b k c0 c1  h0 n0 Z0 Av hm0 hm1) (W := 0) (ow199 C.w) (ow200 C.w) (ow201 C.w) (ow195 C.w) (argsL := [(.int (0 : Int32)), (.ref b), (.int (0 : Int32)), (.int (2 : Int32))]) (lenOf pd__I_BII_I rfl) d40_51 fun v2 T2 lo2 X2 hQ2 => ?_
  obtain ⟨rfl, Nq2, e2⟩ := hQ2
  refine sG C X2 d40_54 157 ?_
  exact rI C X2 e2 hret d40_157 ⟨rfl, (N0.app Nq2), rfl⟩
theorem d9_0 : decode jdk_43_method_21_code 0 = .ok (.aload_n 0, 1) := by decide +kernel
theorem d9_1 : decode jdk_43_method_21_code 1 = .ok (.arraylength, 1) := by decide +kernel
theorem d9_2 : decode jdk_43_method_21_code 2 = .ok (.lookupswitch 40 #[(0, 26), (1, 30)], 26) := by decide +kernel
theorem d9_28 : decode jdk_43_method_21_code 28 = .ok (.iconst 0, 1) := by decide +kernel
theorem d9_29 : decode jdk_43_method_21_code 29 = .ok (.goto 22, 3) := by decide +kernel
theorem d9_51 : decode jdk_43_method_21_code 51 = .ok (.ireturn, 1) := by decide +kernel
theorem d9_32 : decode jdk_43_method_21_code 32 = .ok (.aload_n 0, 1) := by decide +kernel
theorem d9_33 : decode jdk_43_method_21_code 33 = .ok (.iconst 0, 1) := by decide +kernel
theorem d9_34 : decode jdk_43_method_21_code 34 = .ok (.baload, 1) := by decide +kernel
theorem d9_35 : decode jdk_43_method_21_code 35 = .ok (.sipush 255, 3) := by decide +kernel
theorem d9_38 : decode jdk_43_method_21_code 38 = .ok (.iand, 1) := by decide +kernel
theorem d9_39 : decode jdk_43_method_21_code 39 = .ok (.goto 12, 3) := by decide +kernel
theorem d9_42 : decode jdk_43_method_21_code 42 = .ok (.aload_n 0, 1) := by decide +kernel
theorem d9_43 : decode jdk_43_method_21_code 43 = .ok (.iconst 0, 1) := by decide +kernel
theorem d9_44 : decode jdk_43_method_21_code 44 = .ok (.aload_n 0, 1) := by decide +kernel
theorem d9_45 : decode jdk_43_method_21_code 45 = .ok (.arraylength, 1) := by decide +kernel
theorem d9_46 : decode jdk_43_method_21_code 46 = .ok (.iconst 0, 1) := by decide +kernel
theorem d9_47 : decode jdk_43_method_21_code 47 = .ok (.iconst 4, 1) := by decide +kernel
theorem d9_48 : decode jdk_43_method_21_code 48 = .ok (.invokestatic 84, 3) := by decide +kernel
theorem pd__Ljava_lang_Object_IIII_I : parseMethodDescriptor "(Ljava/lang/Object;IIII)I" = some ⟨[(.object "java/lang/Object"), .int, .int, .int, .int], some .int⟩ := by decide +kernel
theorem pn_9 : plainName "java/lang/StringLatin1" = true := by first | (simp [plainName, overriddenIn]; done) | decide +kernel
theorem ef_9_R (m : MethodId) (y0 : Addr) : entryFrame m #[(.ref y0)] 1 = mkF m 0 #[.val (.ref y0)] [] := by first | (simp [entryFrame, mkF, argsToLocals, Value.category]; done) | rfl
theorem rm_lhc (l : Launch) (Z : State) (a0 : Array Value) (hw : ∀ d ∈ tables_1, d.before a0 Z = true) (b : Addr) (k : ClassId) (n : Int32) (c0 : Int32) (c1 : Int32) (h0 : Heap) (n0 : Nat) (Z0 : n0 ≤ h0.size) (Sv : own_Sv Z h0 b k n c0 c1) :
    own_Met l (⟨"java/lang/StringLatin1", "hashCode", "([B)I"⟩ : MethodName) jdk_43_method_21_code 1 (some .int) ({ frames := 2, cells := 0, slots := 0, locals := 33 } : Room) Z h0 #[(.ref b)] (fun v h L => v = some (.int (own_hs n c0 c1)) ∧ Fr n0 L ∧ h = h0) := by
  refine own_go hw (plainFor_of_name pn_9) (fun m => ef_9_R m b) fun p e s m below meth c T0 C hret X0 e0 => ?_
  have N0 := Fr.nil n0
  obtain ⟨Av, Eb, hok⟩ := id Sv
  rcases hok.1 with rfl | rfl | rfl
  · rw [own_bl0] at Av
    refine sA C X0 d9_0 ?_
    refine nA C X0 e0 Av d9_1 ?_
    refine lH C X0 d9_2 0 26 28 ?_
    refine sC C X0 d9_28 ?_
    refine sG C X0 d9_29 51 ?_
    exact rI C X0 e0 hret d9_51 ⟨rfl, N0, rfl⟩
  · rw [own_bl1] at Av
    refine sA C X0 d9_0 ?_
    refine nA C X0 e0 Av d9_1 ?_
    refine lH C X0 d9_2 1 30 32 ?_
    refine sA C X0 d9_32 ?_
    refine sC C X0 d9_33 ?_
    refine yB C X0 e0 Av (v := (.int (nar .byte c0))) d9_34 ?_
    refine sU C X0 d9_35 ?_
    refine sN C X0 d9_38 ?_
    refine sG C X0 d9_39 51 ?_
    exact rI C X0 e0 hret d9_51 ⟨(congrArg (fun z => some (Value.int z)) (own_nb c0 hok.2.1)), N0, rfl⟩
  · rw [own_bl2] at Av
    have E2b := Eb rfl
    refine sA C X0 d9_0 ?_
    refine nA C X0 e0 Av d9_1 ?_
    refine lN C X0 d9_2 42 ?_
    refine sA C X0 d9_42 ?_
    refine sC C X0 d9_43 ?_
    refine sA C X0 d9_44 ?_
    refine nA C X0 e0 Av d9_45 ?_
    refine sC C X0 d9_46 ?_
    refine sC C X0 d9_47 ?_
    refine cS C X0 e0 (rm_vhc l Z a0 hw b k c0 c1  h0 n0 Z0 Av E2b hok.2.1 hok.2.2) (W := 0) (ow193 C.w) (ow194 C.w) (ow196 C.w) (ow195 C.w) (argsL := [(.ref b), (.int (0 : Int32)), (.int (2 : Int32)), (.int (0 : Int32)), (.int (4 : Int32))]) (lenOf pd__Ljava_lang_Object_IIII_I rfl) d9_48 fun v1 T1 lo1 X1 hQ1 => ?_
    obtain ⟨rfl, Nq1, e1⟩ := hQ1
    exact rI C X1 e1 hret d9_51 ⟨rfl, (N0.app Nq1), rfl⟩
theorem d7_0 : decode jdk_42_method_78_code 0 = .ok (.aload_n 0, 1) := by decide +kernel
theorem d7_1 : decode jdk_42_method_78_code 1 = .ok (.getfield 19, 3) := by decide +kernel
theorem d7_4 : decode jdk_42_method_78_code 4 = .ok (.istore_n 1, 1) := by decide +kernel
theorem d7_5 : decode jdk_42_method_78_code 5 = .ok (.iload_n 1, 1) := by decide +kernel
theorem d7_6 : decode jdk_42_method_78_code 6 = .ok (.ifCond .ne 52, 3) := by decide +kernel
theorem d7_9 : decode jdk_42_method_78_code 9 = .ok (.aload_n 0, 1) := by decide +kernel
theorem d7_10 : decode jdk_42_method_78_code 10 = .ok (.getfield 23, 3) := by decide +kernel
theorem d7_13 : decode jdk_42_method_78_code 13 = .ok (.ifCond .ne 45, 3) := by decide +kernel
theorem d7_16 : decode jdk_42_method_78_code 16 = .ok (.aload_n 0, 1) := by decide +kernel
theorem d7_17 : decode jdk_42_method_78_code 17 = .ok (.invokevirtual 492, 3) := by decide +kernel
theorem d7_20 : decode jdk_42_method_78_code 20 = .ok (.ifCond .eq 13, 3) := by decide +kernel
theorem d7_23 : decode jdk_42_method_78_code 23 = .ok (.aload_n 0, 1) := by decide +kernel
theorem d7_24 : decode jdk_42_method_78_code 24 = .ok (.getfield 9, 3) := by decide +kernel
theorem d7_27 : decode jdk_42_method_78_code 27 = .ok (.invokestatic 628, 3) := by decide +kernel
theorem pd___B_I : parseMethodDescriptor "([B)I" = some ⟨[(.array .byte)], some .int⟩ := by decide +kernel
theorem d7_30 : decode jdk_42_method_78_code 30 = .ok (.goto 10, 3) := by decide +kernel
theorem d7_40 : decode jdk_42_method_78_code 40 = .ok (.istore_n 1, 1) := by decide +kernel
theorem d7_41 : decode jdk_42_method_78_code 41 = .ok (.iload_n 1, 1) := by decide +kernel
theorem d7_42 : decode jdk_42_method_78_code 42 = .ok (.ifCond .ne 11, 3) := by decide +kernel
theorem d7_45 : decode jdk_42_method_78_code 45 = .ok (.aload_n 0, 1) := by decide +kernel
theorem d7_46 : decode jdk_42_method_78_code 46 = .ok (.iconst 1, 1) := by decide +kernel
theorem d7_47 : decode jdk_42_method_78_code 47 = .ok (.putfield 23, 3) := by decide +kernel
theorem d7_50 : decode jdk_42_method_78_code 50 = .ok (.goto 8, 3) := by decide +kernel
theorem d7_58 : decode jdk_42_method_78_code 58 = .ok (.iload_n 1, 1) := by decide +kernel
theorem d7_59 : decode jdk_42_method_78_code 59 = .ok (.ireturn, 1) := by decide +kernel
theorem d7_53 : decode jdk_42_method_78_code 53 = .ok (.aload_n 0, 1) := by decide +kernel
theorem d7_54 : decode jdk_42_method_78_code 54 = .ok (.iload_n 1, 1) := by decide +kernel
theorem d7_55 : decode jdk_42_method_78_code 55 = .ok (.putfield 19, 3) := by decide +kernel
theorem pn_7 : plainName "java/lang/String" = true := by first | (simp [plainName, overriddenIn]; done) | decide +kernel
theorem ef_7_R (m : MethodId) (y0 : Addr) : entryFrame m #[(.ref y0)] 2 = mkF m 0 #[.val (.ref y0), .unset] [] := by first | (simp [entryFrame, mkF, argsToLocals, Value.category]; done) | rfl
theorem rm_shash (l : Launch) (Z : State) (a0 : Array Value) (hw : ∀ d ∈ tables_1, d.before a0 Z = true) (a : Addr) (b : Addr) (k : ClassId) (hh : Int32) (hz : Int32) (n : Int32) (c0 : Int32) (c1 : Int32) (cs : Int32) (wf : Value) (h0 : Heap) (n0 : Nat) (Z0 : n0 ≤ h0.size) (Ss : own_St Z h0 cs wf) (S : own_Str Z h0 a b k hh hz n c0 c1) (ga : n0 ≤ a) :
    own_Met l (⟨"java/lang/String", "hashCode", "()I"⟩ : MethodName) jdk_42_method_78_code 2 (some .int) ({ frames := 3, cells := 0, slots := 0, locals := 45 } : Room) Z h0 #[(.ref a)] (fun v h L => v = some (.int (own_hs n c0 c1)) ∧ Fr n0 L ∧ Keep h0 h [a] ∧ own_StK Z h0 h ∧ ∃ hh' hz', own_Str Z h a b k hh' hz' n c0 c1) := by
  refine own_go hw (plainFor_of_name pn_7) (fun m => ef_7_R m a) fun p e s m below meth c T0 C hret X0 e0 => ?_
  have N0 := Fr.nil n0
  obtain ⟨Sco, hcs, Sfo, hwf⟩ := id Ss
  obtain ⟨Es, Fco, Fva, Fha, Fhz, Sv, hh1, hz1⟩ := id S
  obtain ⟨Av, Eb, hok⟩ := id Sv
  refine sA C X0 d7_0 ?_
  refine gF C X0 e0 Fha (ow52 C.w) d7_1 fun T1 X1 e1 => ?_
  refine wI C X1 #[.val (.ref a), .val (.int hh)] d7_4 ?_
  refine sI C X1 d7_5 ?_
  by_cases hb6_2 : hh = (0 : Int32)
  · refine bN C X1 d7_6 ((if0 _ _).trans (teq hb6_2).2) ?_
    refine sA C X1 d7_9 ?_
    refine gF C X1 e1 Fhz (ow54 C.w) d7_10 fun T3 X3 e3 => ?_
    by_cases hb13_4 : hz = (0 : Int32)
    · refine bN C X3 d7_13 ((if0 _ _).trans (teq hb13_4).2) ?_
      refine sA C X3 d7_16 ?_
      refine cV C X3 e3 (rm_isl l Z a0 hw a cs wf  h0 n0 Z0 Ss Fco) Es (W := 0) (ow56 C.w) (ow57 C.w) (ow59 C.w) (ow58 C.w) (ow60 C.w) (ow25 C.w) (argsL := []) (lenOf pd___Z rfl) d7_17 fun v5 T5 lo5 X5 hQ5 => ?_
      obtain ⟨rfl, Nq5, e5⟩ := hQ5
      refine bN C X5 d7_20 ((if0 _ _).trans (feq (by decide : ¬ ((1 : Int32) = (0 : Int32)))).1) ?_
      refine sA C X5 d7_23 ?_
      refine gF C X5 e5 Fva (ow40 C.w) d7_24 fun T6 X6 e6 => ?_
      refine cS C X6 e6 (rm_lhc l Z a0 hw b k n c0 c1  h0 n0 Z0 Sv) (W := 0) (ow62 C.w) (ow63 C.w) (ow65 C.w) (ow64 C.w) (argsL := [(.ref b)]) (lenOf pd___B_I rfl) d7_27 fun v7 T7 lo7 X7 hQ7 => ?_
      obtain ⟨rfl, Nq7, e7⟩ := hQ7
      refine sG C X7 d7_30 40 ?_
      refine wI C X7 #[.val (.ref a), .val (.int (own_hs n c0 c1))] d7_40 ?_
      refine sI C X7 d7_41 ?_
      by_cases hb42_8 : (own_hs n c0 c1) = (0 : Int32)
      · refine bN C X7 d7_42 ((if0 _ _).trans (teq hb42_8).2) ?_
        refine sA C X7 d7_45 ?_
        refine sC C X7 d7_46 ?_
        refine pN C X7 e7 ((N0.app Nq5).app Nq7) ga Fhz Es (ow54 C.w) (Or.inl (ow55 C.w)) (ow24 C.w) (ty := .boolean) (v' := (.int (1 : Int32))) (by decide) rfl (by decide) d7_47 fun T9 h9 lo9 X9 e9 N9 W9 F9 => ?_
        have KC9 : Keep h0 h9 [a] := (Keep.refl h0 [a]).wr W9 (Or.inl (List.mem_of_getElem? (i := 0) rfl))
        have SK9 : own_StK Z h0 h9 := (own_StK.refl Z h0).wr W9
        refine sG C X9 d7_50 58 ?_
        refine sI C X9 d7_58 ?_
        have f10 := (Exa.wr W9 Es)
        have f11 := (Fld.other W9 Fco (Or.inr (slot_ne (Or.inr (ow37 C.w)) (Or.inl (ow55 C.w)) (by decide) (t := .byte) (t' := .boolean) (by decide) (by decide))))
        have f12 := (Fld.other W9 Fva (Or.inr (slot_ne (Or.inr (ow36 C.w)) (Or.inl (ow55 C.w)) (by decide) (t := (.array .byte)) (t' := .boolean) (by decide) (by decide))))
        have f13 := (Fld.other W9 Fha (Or.inr (slot_ne (Or.inl (ow53 C.w)) (Or.inl (ow55 C.w)) (by decide) (t := .int) (t' := .boolean) (by decide) (by decide))))
        have ne_b_a : b ≠ a := (Ne.symm (Exa.neArv Es Av (ow24 C.w)))
        have f15 := (Av.other W9 ne_b_a)
        have SR14 : own_Str Z h9 a b k hh (1 : Int32) n c0 c1 := ⟨f10, f11, f12, f13, F9, ⟨f15, (fun q => Exa.wr W9 (Eb q)), hok⟩, (fun q => absurd hb6_2 q), (fun _ => hb42_8)⟩
        exact rI C X9 e9 hret d7_59 ⟨rfl, N9, KC9, SK9, _, _, SR14⟩
      · refine bY C X7 d7_42 53 ((if0 _ _).trans (feq hb42_8).2) ?_
        refine sA C X7 d7_53 ?_
        refine sI C X7 d7_54 ?_
        refine pN C X7 e7 ((N0.app Nq5).app Nq7) ga Fha Es (ow52 C.w) (Or.inl (ow53 C.w)) (ow24 C.w) (ty := .int) (v' := (.int (own_hs n c0 c1))) (by decide) rfl rfl d7_55 fun T16 h16 lo16 X16 e16 N16 W16 F16 => ?_
        have KC16 : Keep h0 h16 [a] := (Keep.refl h0 [a]).wr W16 (Or.inl (List.mem_of_getElem? (i := 0) rfl))
        have SK16 : own_StK Z h0 h16 := (own_StK.refl Z h0).wr W16
        refine sI C X16 d7_58 ?_
        have f17 := (Exa.wr W16 Es)
        have f18 := (Fld.other W16 Fco (Or.inr (slot_ne (Or.inr (ow37 C.w)) (Or.inl (ow53 C.w)) (by decide) (t := .byte) (t' := .int) (by decide) (by decide))))
        have f19 := (Fld.other W16 Fva (Or.inr (slot_ne (Or.inr (ow36 C.w)) (Or.inl (ow53 C.w)) (by decide) (t := (.array .byte)) (t' := .int) (by decide) (by decide))))
        have f20 := (Fld.other W16 Fhz (Or.inr (slot_ne (Or.inl (ow55 C.w)) (Or.inl (ow53 C.w)) (by decide) (t := .boolean) (t' := .int) (by decide) (by decide))))
        have ne_b_a : b ≠ a := (Ne.symm (Exa.neArv Es Av (ow24 C.w)))
        have f22 := (Av.other W16 ne_b_a)
        have SR21 : own_Str Z h16 a b k (own_hs n c0 c1) hz n c0 c1 := ⟨f17, f18, f19, F16, f20, ⟨f22, (fun q => Exa.wr W16 (Eb q)), hok⟩, (fun _ => rfl), (fun q => absurd hb13_4 q)⟩
        exact rI C X16 e16 hret d7_59 ⟨rfl, N16, KC16, SK16, _, _, SR21⟩
    · refine bY C X3 d7_13 58 ((if0 _ _).trans (feq hb13_4).2) ?_
      refine sI C X3 d7_58 ?_
      exact rI C X3 e3 hret d7_59 ⟨(congrArg (fun z => some (Value.int z)) (hb6_2.trans (hz1 hb13_4).symm)), N0, Keep.refl _ _, own_StK.refl _ _, _, _, S⟩
  · refine bY C X1 d7_6 58 ((if0 _ _).trans (feq hb6_2).2) ?_
    refine sI C X1 d7_58 ?_
    exact rI C X1 e1 hret d7_59 ⟨(congrArg (fun z => some (Value.int z)) (hh1 hb6_2)), N0, Keep.refl _ _, own_StK.refl _ _, _, _, S⟩
theorem d11_0 : decode prog_76_method_13_code 0 = .ok (.iload_n 0, 1) := by decide +kernel
theorem d11_1 : decode prog_76_method_13_code 1 = .ok (.iload_n 0, 1) := by decide +kernel
theorem d11_2 : decode prog_76_method_13_code 2 = .ok (.bipush 16, 2) := by decide +kernel
theorem d11_4 : decode prog_76_method_13_code 4 = .ok (.iushr, 1) := by decide +kernel
theorem d11_5 : decode prog_76_method_13_code 5 = .ok (.ixor, 1) := by decide +kernel
theorem d11_6 : decode prog_76_method_13_code 6 = .ok (.istore_n 1, 1) := by decide +kernel
theorem d11_7 : decode prog_76_method_13_code 7 = .ok (.iload_n 1, 1) := by decide +kernel
theorem d11_8 : decode prog_76_method_13_code 8 = .ok (.ldc 114, 2) := by decide +kernel
theorem d11_10 : decode prog_76_method_13_code 10 = .ok (.imul, 1) := by decide +kernel
theorem d11_11 : decode prog_76_method_13_code 11 = .ok (.istore_n 1, 1) := by decide +kernel
theorem d11_12 : decode prog_76_method_13_code 12 = .ok (.iload_n 1, 1) := by decide +kernel
theorem d11_13 : decode prog_76_method_13_code 13 = .ok (.iload_n 1, 1) := by decide +kernel
theorem d11_14 : decode prog_76_method_13_code 14 = .ok (.bipush 13, 2) := by decide +kernel
theorem d11_16 : decode prog_76_method_13_code 16 = .ok (.iushr, 1) := by decide +kernel
theorem d11_17 : decode prog_76_method_13_code 17 = .ok (.ixor, 1) := by decide +kernel
def own_sp (x : Int32) : Int32 := (((x ^^^ ((x.toUInt32 >>> ((16 : Int32) &&& 31).toUInt32).toInt32)) * (-2048144789 : Int32)) ^^^ ((((x ^^^ ((x.toUInt32 >>> ((16 : Int32) &&& 31).toUInt32).toInt32)) * (-2048144789 : Int32)).toUInt32 >>> ((13 : Int32) &&& 31).toUInt32).toInt32))
theorem d11_18 : decode prog_76_method_13_code 18 = .ok (.ireturn, 1) := by decide +kernel
theorem pn_11 : plainName "com/example/holdback/holdback/util/StringIndex" = true := by first | (simp [plainName, overriddenIn]; done) | decide +kernel
theorem ef_11_I (m : MethodId) (y0 : Int32) : entryFrame m #[(.int y0)] 2 = mkF m 0 #[.val (.int y0), .unset] [] := by first | (simp [entryFrame, mkF, argsToLocals, Value.category]; done) | rfl
theorem rm_spr (l : Launch) (Z : State) (a0 : Array Value) (hw : ∀ d ∈ tables_1, d.before a0 Z = true) (x : Int32) (h0 : Heap) (n0 : Nat) (Z0 : n0 ≤ h0.size) :
    own_Met l (⟨"com/example/holdback/holdback/util/StringIndex", "spread", "(I)I"⟩ : MethodName) prog_76_method_13_code 2 (some .int) ({ frames := 0, cells := 0, slots := 0, locals := 0 } : Room) Z h0 #[(.int x)] (fun v h L => v = some (.int (own_sp x)) ∧ Fr n0 L ∧ h = h0) := by
  refine own_go hw (plainFor_of_name pn_11) (fun m => ef_11_I m x) fun p e s m below meth c T0 C hret X0 e0 => ?_
  have N0 := Fr.nil n0
  refine sI C X0 d11_0 ?_
  refine sI C X0 d11_1 ?_
  refine sB C X0 d11_2 ?_
  refine sR C X0 d11_4 ?_
  refine sX C X0 d11_5 ?_
  refine wI C X0 #[.val (.int x), .val (.int (x ^^^ ((x.toUInt32 >>> ((16 : Int32) &&& 31).toUInt32).toInt32)))] d11_6 ?_
  refine sI C X0 d11_7 ?_
  refine kI C X0 (ow73 C.w) d11_8 ?_
  refine sM C X0 d11_10 ?_
  refine wI C X0 #[.val (.int x), .val (.int ((x ^^^ ((x.toUInt32 >>> ((16 : Int32) &&& 31).toUInt32).toInt32)) * (-2048144789 : Int32)))] d11_11 ?_
  refine sI C X0 d11_12 ?_
  refine sI C X0 d11_13 ?_
  refine sB C X0 d11_14 ?_
  refine sR C X0 d11_16 ?_
  refine sX C X0 d11_17 ?_
  exact rI C X0 e0 hret d11_18 ⟨rfl, N0, rfl⟩
theorem d31_0 : decode prog_76_method_10_code 0 = .ok (.aload_n 0, 1) := by decide +kernel
theorem d31_1 : decode prog_76_method_10_code 1 = .ok (.getfield 13, 3) := by decide +kernel
theorem d31_4 : decode prog_76_method_10_code 4 = .ok (.iload_n 1, 1) := by decide +kernel
theorem d31_5 : decode prog_76_method_10_code 5 = .ok (.iaload, 1) := by decide +kernel
theorem d31_6 : decode prog_76_method_10_code 6 = .ok (.istore_n 3, 1) := by decide +kernel
theorem d31_7 : decode prog_76_method_10_code 7 = .ok (.aload_n 0, 1) := by decide +kernel
theorem d31_8 : decode prog_76_method_10_code 8 = .ok (.getfield 13, 3) := by decide +kernel
theorem d31_11 : decode prog_76_method_10_code 11 = .ok (.iload_n 1, 1) := by decide +kernel
theorem d31_12 : decode prog_76_method_10_code 12 = .ok (.iconst 1, 1) := by decide +kernel
theorem d31_13 : decode prog_76_method_10_code 13 = .ok (.iadd, 1) := by decide +kernel
theorem d31_14 : decode prog_76_method_10_code 14 = .ok (.iaload, 1) := by decide +kernel
theorem d31_15 : decode prog_76_method_10_code 15 = .ok (.iload_n 3, 1) := by decide +kernel
theorem d31_16 : decode prog_76_method_10_code 16 = .ok (.isub, 1) := by decide +kernel
theorem d31_17 : decode prog_76_method_10_code 17 = .ok (.aload_n 2, 1) := by decide +kernel
theorem d31_18 : decode prog_76_method_10_code 18 = .ok (.invokevirtual 91, 3) := by decide +kernel
theorem pd___I : parseMethodDescriptor "()I" = some ⟨[], some .int⟩ := by decide +kernel
theorem d31_21 : decode prog_76_method_10_code 21 = .ok (.if_icmp .eq 5, 3) := by decide +kernel
theorem d31_26 : decode prog_76_method_10_code 26 = .ok (.iconst 0, 1) := by decide +kernel
theorem d31_27 : decode prog_76_method_10_code 27 = .ok (.istore 4, 2) := by decide +kernel
theorem d31_29 : decode prog_76_method_10_code 29 = .ok (.iload 4, 2) := by decide +kernel
theorem d31_31 : decode prog_76_method_10_code 31 = .ok (.aload_n 2, 1) := by decide +kernel
theorem d31_32 : decode prog_76_method_10_code 32 = .ok (.invokevirtual 91, 3) := by decide +kernel
theorem d31_35 : decode prog_76_method_10_code 35 = .ok (.if_icmp .ge 29, 3) := by decide +kernel
theorem d31_64 : decode prog_76_method_10_code 64 = .ok (.iconst 1, 1) := by decide +kernel
theorem d31_65 : decode prog_76_method_10_code 65 = .ok (.ireturn, 1) := by decide +kernel
theorem d31_24 : decode prog_76_method_10_code 24 = .ok (.iconst 0, 1) := by decide +kernel
theorem d31_25 : decode prog_76_method_10_code 25 = .ok (.ireturn, 1) := by decide +kernel
theorem d31_38 : decode prog_76_method_10_code 38 = .ok (.aload_n 0, 1) := by decide +kernel
theorem d31_39 : decode prog_76_method_10_code 39 = .ok (.getfield 9, 3) := by decide +kernel
theorem d31_42 : decode prog_76_method_10_code 42 = .ok (.iload_n 3, 1) := by decide +kernel
theorem d31_43 : decode prog_76_method_10_code 43 = .ok (.iload 4, 2) := by decide +kernel
theorem d31_45 : decode prog_76_method_10_code 45 = .ok (.iadd, 1) := by decide +kernel
theorem d31_46 : decode prog_76_method_10_code 46 = .ok (.caload, 1) := by decide +kernel
theorem d31_47 : decode prog_76_method_10_code 47 = .ok (.aload_n 2, 1) := by decide +kernel
theorem d31_48 : decode prog_76_method_10_code 48 = .ok (.iload 4, 2) := by decide +kernel
theorem d31_50 : decode prog_76_method_10_code 50 = .ok (.invokevirtual 94, 3) := by decide +kernel
theorem pd__I_C : parseMethodDescriptor "(I)C" = some ⟨[.int], some .char⟩ := by decide +kernel
theorem d31_53 : decode prog_76_method_10_code 53 = .ok (.if_icmp .eq 5, 3) := by decide +kernel
theorem d31_58 : decode prog_76_method_10_code 58 = .ok (.iinc 4 1, 3) := by decide +kernel
theorem d31_61 : decode prog_76_method_10_code 61 = .ok (.goto (-32), 3) := by decide +kernel
theorem d31_56 : decode prog_76_method_10_code 56 = .ok (.iconst 0, 1) := by decide +kernel
theorem d31_57 : decode prog_76_method_10_code 57 = .ok (.ireturn, 1) := by decide +kernel
theorem pn_31 : plainName "com/example/holdback/holdback/util/StringIndex" = true := by first | (simp [plainName, overriddenIn]; done) | decide +kernel
theorem ef_31_RIR (m : MethodId) (y0 : Addr) (y1 : Int32) (y2 : Addr) : entryFrame m #[(.ref y0), (.int y1), (.ref y2)] 5 = mkF m 0 #[.val (.ref y0), .val (.int y1), .val (.ref y2), .unset, .unset] [] := by first | (simp [entryFrame, mkF, argsToLocals, Value.category]; done) | rfl
theorem rm_eqa (l : Launch) (Z : State) (a0 : Array Value) (hw : ∀ d ∈ tables_1, d.before a0 Z = true) (o : Addr) (ac : Addr) (as : Addr) (ah : Addr) (al : Addr) (sz : Int32) (cc : Int32) (fc : Int32 → Int32) (fs : Int32 → Int32) (fh : Int32 → Int32) (fl : Int32 → Int32) (a : Addr) (b : Addr) (k : ClassId) (hh : Int32) (hz : Int32) (n : Int32) (c0 : Int32) (c1 : Int32) (cs : Int32) (wf : Value) (h0 : Heap) (n0 : Nat) (Z0 : n0 ≤ h0.size) (Ss : own_St Z h0 cs wf) (Ix : own_Ix Z h0 o ac as ah al sz cc fc fs fh fl) (S : own_Str Z h0 a b k hh hz n c0 c1) (hs0 : fs (0 : Int32) = 0) :
    own_Met l (⟨"com/example/holdback/holdback/util/StringIndex", "equalsAt", "(ILjava/lang/String;)Z"⟩ : MethodName) prog_76_method_10_code 5 (some .boolean) ({ frames := 4, cells := 0, slots := 0, locals := 54 } : Room) Z h0 #[(.ref o), (.int (0 : Int32)), (.ref a)] (fun v h L => v = some (.int (own_e (fs (1 : Int32)) (fc (0 : Int32)) (fc (1 : Int32)) n c0 c1)) ∧ Fr n0 L ∧ h = h0) := by
  refine own_go hw (plainFor_of_name pn_31) (fun m => ef_31_RIR m o (0 : Int32) a) fun p e s m below meth c T0 C hret X0 e0 => ?_
  have N0 := Fr.nil n0
  obtain ⟨Sco, hcs, Sfo, hwf⟩ := id Ss
  obtain ⟨Es, Fco, Fva, Fha, Fhz, Sv, hh1, hz1⟩ := id S
  obtain ⟨Av, Eb, hok⟩ := id Sv
  obtain ⟨Eo, Fch, Fst, Fhs, Fsl, Fsz, Fcc, Bc, Bs, Bh, Bl⟩ := id Ix
  rcases hok.1 with rfl | rfl | rfl
  · rw [own_bl0] at Av
    refine sA C X0 d31_0 ?_
    refine gF C X0 e0 Fst (ow13 C.w) d31_1 fun T1 X1 e1 => ?_
    refine sI C X1 d31_4 ?_
    refine fIe C X1 e1 Bs ⟨by decide, by decide⟩ (v := (0 : Int32)) hs0 d31_5 ?_
    refine wI C X1 #[.val (.ref o), .val (.int (0 : Int32)), .val (.ref a), .val (.int (0 : Int32)), .unset] d31_6 ?_
    refine sA C X1 d31_7 ?_
    refine gF C X1 e1 Fst (ow13 C.w) d31_8 fun T2 X2 e2 => ?_
    refine sI C X2 d31_11 ?_
    refine sC C X2 d31_12 ?_
    refine sP C X2 d31_13 ?_
    refine fI C X2 e2 Bs ⟨by decide, by decide⟩ d31_14 ?_
    refine sI C X2 d31_15 ?_
    refine sS C X2 d31_16 ?_
    refine sA C X2 d31_17 ?_
    refine cV C X2 e2 (rm_len l Z a0 hw a b k hh hz (0 : Int32) c0 c1 cs wf  h0 n0 Z0 Ss S) Es (W := 1) (ow82 C.w) (ow83 C.w) (ow85 C.w) (ow84 C.w) (ow86 C.w) (ow25 C.w) (argsL := []) (lenOf pd___I rfl) d31_18 fun v3 T3 lo3 X3 hQ3 => ?_
    obtain ⟨rfl, Nq3, e3⟩ := hQ3
    by_cases hb21_4 : ((fs (1 : Int32)) - (0 : Int32)) = (0 : Int32)
    · refine cY C X3 d31_21 26 ((teq hb21_4).1) ?_
      refine sC C X3 d31_26 ?_
      refine wi C X3 #[.val (.ref o), .val (.int (0 : Int32)), .val (.ref a), .val (.int (0 : Int32)), .val (.int (0 : Int32))] d31_27 ?_
      refine si C X3 d31_29 ?_
      refine sA C X3 d31_31 ?_
      refine cV C X3 e3 (rm_len l Z a0 hw a b k hh hz (0 : Int32) c0 c1 cs wf  h0 n0 Z0 Ss S) Es (W := 1) (ow82 C.w) (ow83 C.w) (ow85 C.w) (ow84 C.w) (ow86 C.w) (ow25 C.w) (argsL := []) (lenOf pd___I rfl) d31_32 fun v5 T5 lo5 X5 hQ5 => ?_
      obtain ⟨rfl, Nq5, e5⟩ := hQ5
      refine cY C X5 d31_35 64 ((flt (by decide : ¬ ((0 : Int32) < (0 : Int32)))).2.1) ?_
      refine sC C X5 d31_64 ?_
      exact rN C X5 e5 (t := .boolean) (by simp) hret d31_65 ⟨(congrArg (fun z => some (Value.int z)) (show (1 : Int32) = own_e (fs (1 : Int32)) (fc (0 : Int32)) (fc (1 : Int32)) (0 : Int32) c0 c1 by rw [own_e, if_pos ((Int32.sub_zero (fs (1 : Int32))) ▸ hb21_4), if_pos rfl])), ((N0.app Nq3).app Nq5), rfl⟩
    · refine cN C X3 d31_21 ((feq hb21_4).1) ?_
      refine sC C X3 d31_24 ?_
      exact rN C X3 e3 (t := .boolean) (by simp) hret d31_25 ⟨(congrArg (fun z => some (Value.int z)) (show (0 : Int32) = own_e (fs (1 : Int32)) (fc (0 : Int32)) (fc (1 : Int32)) (0 : Int32) c0 c1 by rw [own_e, if_neg ((Int32.sub_zero (fs (1 : Int32))) ▸ hb21_4)])), (N0.app Nq3), rfl⟩
  · rw [own_bl1] at Av
    refine sA C X0 d31_0 ?_
    refine gF C X0 e0 Fst (ow13 C.w) d31_1 fun T6 X6 e6 => ?_
    refine sI C X6 d31_4 ?_
    refine fIe C X6 e6 Bs ⟨by decide, by decide⟩ (v := (0 : Int32)) hs0 d31_5 ?_
    refine wI C X6 #[.val (.ref o), .val (.int (0 : Int32)), .val (.ref a), .val (.int (0 : Int32)), .unset] d31_6 ?_
    refine sA C X6 d31_7 ?_
    refine gF C X6 e6 Fst (ow13 C.w) d31_8 fun T7 X7 e7 => ?_
    refine sI C X7 d31_11 ?_
    refine sC C X7 d31_12 ?_
    refine sP C X7 d31_13 ?_
    refine fI C X7 e7 Bs ⟨by decide, by decide⟩ d31_14 ?_
    refine sI C X7 d31_15 ?_
    refine sS C X7 d31_16 ?_
    refine sA C X7 d31_17 ?_
    refine cV C X7 e7 (rm_len l Z a0 hw a b k hh hz (1 : Int32) c0 c1 cs wf  h0 n0 Z0 Ss S) Es (W := 1) (ow82 C.w) (ow83 C.w) (ow85 C.w) (ow84 C.w) (ow86 C.w) (ow25 C.w) (argsL := []) (lenOf pd___I rfl) d31_18 fun v8 T8 lo8 X8 hQ8 => ?_
    obtain ⟨rfl, Nq8, e8⟩ := hQ8
    by_cases hb21_9 : ((fs (1 : Int32)) - (0 : Int32)) = (1 : Int32)
    · refine cY C X8 d31_21 26 ((teq hb21_9).1) ?_
      refine sC C X8 d31_26 ?_
      refine wi C X8 #[.val (.ref o), .val (.int (0 : Int32)), .val (.ref a), .val (.int (0 : Int32)), .val (.int (0 : Int32))] d31_27 ?_
      refine si C X8 d31_29 ?_
      refine sA C X8 d31_31 ?_
      refine cV C X8 e8 (rm_len l Z a0 hw a b k hh hz (1 : Int32) c0 c1 cs wf  h0 n0 Z0 Ss S) Es (W := 1) (ow82 C.w) (ow83 C.w) (ow85 C.w) (ow84 C.w) (ow86 C.w) (ow25 C.w) (argsL := []) (lenOf pd___I rfl) d31_32 fun v10 T10 lo10 X10 hQ10 => ?_
      obtain ⟨rfl, Nq10, e10⟩ := hQ10
      refine cN C X10 d31_35 ((tlt (by decide : (0 : Int32) < (1 : Int32))).2.1) ?_
      refine sA C X10 d31_38 ?_
      refine gF C X10 e10 Fch (ow10 C.w) d31_39 fun T11 X11 e11 => ?_
      refine sI C X11 d31_42 ?_
      refine si C X11 d31_43 ?_
      refine sP C X11 d31_45 ?_
      refine fC C X11 e11 Bc ⟨by decide, by decide⟩ d31_46 ?_
      refine sA C X11 d31_47 ?_
      refine si C X11 d31_48 ?_
      refine cV C X11 e11 (rm_sca l Z a0 hw a b k hh hz (1 : Int32) c0 c1 (0 : Int32) (nar .byte c0) c0 cs wf  h0 n0 Z0 Ss S (by decide) (by decide) rfl (own_nb c0 hok.2.1)) Es (W := 1) (ow181 C.w) (ow182 C.w) (ow184 C.w) (ow183 C.w) (ow185 C.w) (ow25 C.w) (argsL := [(.int (0 : Int32))]) (lenOf pd__I_C rfl) d31_50 fun v12 T12 lo12 X12 hQ12 => ?_
      obtain ⟨rfl, Nq12, e12⟩ := hQ12
      by_cases hb53_13 : (fc (0 : Int32)) = c0
      · refine cY C X12 d31_53 58 ((teq hb53_13).1) ?_
        refine wc C X12 #[.val (.ref o), .val (.int (0 : Int32)), .val (.ref a), .val (.int (0 : Int32)), .val (.int (1 : Int32))] d31_58 ?_
        refine sG C X12 d31_61 29 ?_
        refine si C X12 d31_29 ?_
        refine sA C X12 d31_31 ?_
        refine cV C X12 e12 (rm_len l Z a0 hw a b k hh hz (1 : Int32) c0 c1 cs wf  h0 n0 Z0 Ss S) Es (W := 1) (ow82 C.w) (ow83 C.w) (ow85 C.w) (ow84 C.w) (ow86 C.w) (ow25 C.w) (argsL := []) (lenOf pd___I rfl) d31_32 fun v14 T14 lo14 X14 hQ14 => ?_
        obtain ⟨rfl, Nq14, e14⟩ := hQ14
        refine cY C X14 d31_35 64 ((flt (by decide : ¬ ((1 : Int32) < (1 : Int32)))).2.1) ?_
        refine sC C X14 d31_64 ?_
        exact rN C X14 e14 (t := .boolean) (by simp) hret d31_65 ⟨(congrArg (fun z => some (Value.int z)) (show (1 : Int32) = own_e (fs (1 : Int32)) (fc (0 : Int32)) (fc (1 : Int32)) (1 : Int32) c0 c1 by rw [own_e, if_pos ((Int32.sub_zero (fs (1 : Int32))) ▸ hb21_9), if_neg (by decide), if_pos hb53_13, if_pos rfl])), ((((N0.app Nq8).app Nq10).app Nq12).app Nq14), rfl⟩
      · refine cN C X12 d31_53 ((feq hb53_13).1) ?_
        refine sC C X12 d31_56 ?_
        exact rN C X12 e12 (t := .boolean) (by simp) hret d31_57 ⟨(congrArg (fun z => some (Value.int z)) (show (0 : Int32) = own_e (fs (1 : Int32)) (fc (0 : Int32)) (fc (1 : Int32)) (1 : Int32) c0 c1 by rw [own_e, if_pos ((Int32.sub_zero (fs (1 : Int32))) ▸ hb21_9), if_neg (by decide), if_neg hb53_13])), (((N0.app Nq8).app Nq10).app Nq12), rfl⟩
    · refine cN C X8 d31_21 ((feq hb21_9).1) ?_
      refine sC C X8 d31_24 ?_
      exact rN C X8 e8 (t := .boolean) (by simp) hret d31_25 ⟨(congrArg (fun z => some (Value.int z)) (show (0 : Int32) = own_e (fs (1 : Int32)) (fc (0 : Int32)) (fc (1 : Int32)) (1 : Int32) c0 c1 by rw [own_e, if_neg ((Int32.sub_zero (fs (1 : Int32))) ▸ hb21_9)])), (N0.app Nq8), rfl⟩
  · rw [own_bl2] at Av
    have E2b := Eb rfl
    refine sA C X0 d31_0 ?_
    refine gF C X0 e0 Fst (ow13 C.w) d31_1 fun T15 X15 e15 => ?_
    refine sI C X15 d31_4 ?_
    refine fIe C X15 e15 Bs ⟨by decide, by decide⟩ (v := (0 : Int32)) hs0 d31_5 ?_
    refine wI C X15 #[.val (.ref o), .val (.int (0 : Int32)), .val (.ref a), .val (.int (0 : Int32)), .unset] d31_6 ?_
    refine sA C X15 d31_7 ?_
    refine gF C X15 e15 Fst (ow13 C.w) d31_8 fun T16 X16 e16 => ?_
    refine sI C X16 d31_11 ?_
    refine sC C X16 d31_12 ?_
    refine sP C X16 d31_13 ?_
    refine fI C X16 e16 Bs ⟨by decide, by decide⟩ d31_14 ?_
    refine sI C X16 d31_15 ?_
    refine sS C X16 d31_16 ?_
    refine sA C X16 d31_17 ?_
    refine cV C X16 e16 (rm_len l Z a0 hw a b k hh hz (2 : Int32) c0 c1 cs wf  h0 n0 Z0 Ss S) Es (W := 1) (ow82 C.w) (ow83 C.w) (ow85 C.w) (ow84 C.w) (ow86 C.w) (ow25 C.w) (argsL := []) (lenOf pd___I rfl) d31_18 fun v17 T17 lo17 X17 hQ17 => ?_
    obtain ⟨rfl, Nq17, e17⟩ := hQ17
    by_cases hb21_18 : ((fs (1 : Int32)) - (0 : Int32)) = (2 : Int32)
    · refine cY C X17 d31_21 26 ((teq hb21_18).1) ?_
      refine sC C X17 d31_26 ?_
      refine wi C X17 #[.val (.ref o), .val (.int (0 : Int32)), .val (.ref a), .val (.int (0 : Int32)), .val (.int (0 : Int32))] d31_27 ?_
      refine si C X17 d31_29 ?_
      refine sA C X17 d31_31 ?_
      refine cV C X17 e17 (rm_len l Z a0 hw a b k hh hz (2 : Int32) c0 c1 cs wf  h0 n0 Z0 Ss S) Es (W := 1) (ow82 C.w) (ow83 C.w) (ow85 C.w) (ow84 C.w) (ow86 C.w) (ow25 C.w) (argsL := []) (lenOf pd___I rfl) d31_32 fun v19 T19 lo19 X19 hQ19 => ?_
      obtain ⟨rfl, Nq19, e19⟩ := hQ19
      refine cN C X19 d31_35 ((tlt (by decide : (0 : Int32) < (2 : Int32))).2.1) ?_
      refine sA C X19 d31_38 ?_
      refine gF C X19 e19 Fch (ow10 C.w) d31_39 fun T20 X20 e20 => ?_
      refine sI C X20 d31_42 ?_
      refine si C X20 d31_43 ?_
      refine sP C X20 d31_45 ?_
      refine fC C X20 e20 Bc ⟨by decide, by decide⟩ d31_46 ?_
      refine sA C X20 d31_47 ?_
      refine si C X20 d31_48 ?_
      refine cV C X20 e20 (rm_sca l Z a0 hw a b k hh hz (2 : Int32) c0 c1 (0 : Int32) (nar .byte c0) c0 cs wf  h0 n0 Z0 Ss S (by decide) (by decide) rfl (own_nb c0 hok.2.1)) Es (W := 1) (ow181 C.w) (ow182 C.w) (ow184 C.w) (ow183 C.w) (ow185 C.w) (ow25 C.w) (argsL := [(.int (0 : Int32))]) (lenOf pd__I_C rfl) d31_50 fun v21 T21 lo21 X21 hQ21 => ?_
      obtain ⟨rfl, Nq21, e21⟩ := hQ21
      by_cases hb53_22 : (fc (0 : Int32)) = c0
      · refine cY C X21 d31_53 58 ((teq hb53_22).1) ?_
        refine wc C X21 #[.val (.ref o), .val (.int (0 : Int32)), .val (.ref a), .val (.int (0 : Int32)), .val (.int (1 : Int32))] d31_58 ?_
        refine sG C X21 d31_61 29 ?_
        refine si C X21 d31_29 ?_
        refine sA C X21 d31_31 ?_
        refine cV C X21 e21 (rm_len l Z a0 hw a b k hh hz (2 : Int32) c0 c1 cs wf  h0 n0 Z0 Ss S) Es (W := 1) (ow82 C.w) (ow83 C.w) (ow85 C.w) (ow84 C.w) (ow86 C.w) (ow25 C.w) (argsL := []) (lenOf pd___I rfl) d31_32 fun v23 T23 lo23 X23 hQ23 => ?_
        obtain ⟨rfl, Nq23, e23⟩ := hQ23
        refine cN C X23 d31_35 ((tlt (by decide : (1 : Int32) < (2 : Int32))).2.1) ?_
        refine sA C X23 d31_38 ?_
        refine gF C X23 e23 Fch (ow10 C.w) d31_39 fun T24 X24 e24 => ?_
        refine sI C X24 d31_42 ?_
        refine si C X24 d31_43 ?_
        refine sP C X24 d31_45 ?_
        refine fC C X24 e24 Bc ⟨by decide, by decide⟩ d31_46 ?_
        refine sA C X24 d31_47 ?_
        refine si C X24 d31_48 ?_
        refine cV C X24 e24 (rm_sca l Z a0 hw a b k hh hz (2 : Int32) c0 c1 (1 : Int32) (nar .byte c1) c1 cs wf  h0 n0 Z0 Ss S (by decide) (by decide) rfl (own_nb c1 hok.2.2)) Es (W := 1) (ow181 C.w) (ow182 C.w) (ow184 C.w) (ow183 C.w) (ow185 C.w) (ow25 C.w) (argsL := [(.int (1 : Int32))]) (lenOf pd__I_C rfl) d31_50 fun v25 T25 lo25 X25 hQ25 => ?_
        obtain ⟨rfl, Nq25, e25⟩ := hQ25
        by_cases hb53_26 : (fc (1 : Int32)) = c1
        · refine cY C X25 d31_53 58 ((teq hb53_26).1) ?_
          refine wc C X25 #[.val (.ref o), .val (.int (0 : Int32)), .val (.ref a), .val (.int (0 : Int32)), .val (.int (2 : Int32))] d31_58 ?_
          refine sG C X25 d31_61 29 ?_
          refine si C X25 d31_29 ?_
          refine sA C X25 d31_31 ?_
          refine cV C X25 e25 (rm_len l Z a0 hw a b k hh hz (2 : Int32) c0 c1 cs wf  h0 n0 Z0 Ss S) Es (W := 1) (ow82 C.w) (ow83 C.w) (ow85 C.w) (ow84 C.w) (ow86 C.w) (ow25 C.w) (argsL := []) (lenOf pd___I rfl) d31_32 fun v27 T27 lo27 X27 hQ27 => ?_
          obtain ⟨rfl, Nq27, e27⟩ := hQ27
          refine cY C X27 d31_35 64 ((flt (by decide : ¬ ((2 : Int32) < (2 : Int32)))).2.1) ?_
          refine sC C X27 d31_64 ?_
          exact rN C X27 e27 (t := .boolean) (by simp) hret d31_65 ⟨(congrArg (fun z => some (Value.int z)) (show (1 : Int32) = own_e (fs (1 : Int32)) (fc (0 : Int32)) (fc (1 : Int32)) (2 : Int32) c0 c1 by rw [own_e, if_pos ((Int32.sub_zero (fs (1 : Int32))) ▸ hb21_18), if_neg (by decide), if_pos hb53_22, if_neg (by decide), if_pos hb53_26])), ((((((N0.app Nq17).app Nq19).app Nq21).app Nq23).app Nq25).app Nq27), rfl⟩
        · refine cN C X25 d31_53 ((feq hb53_26).1) ?_
          refine sC C X25 d31_56 ?_
          exact rN C X25 e25 (t := .boolean) (by simp) hret d31_57 ⟨(congrArg (fun z => some (Value.int z)) (show (0 : Int32) = own_e (fs (1 : Int32)) (fc (0 : Int32)) (fc (1 : Int32)) (2 : Int32) c0 c1 by rw [own_e, if_pos ((Int32.sub_zero (fs (1 : Int32))) ▸ hb21_18), if_neg (by decide), if_pos hb53_22, if_neg (by decide), if_neg hb53_26])), (((((N0.app Nq17).app Nq19).app Nq21).app Nq23).app Nq25), rfl⟩
      · refine cN C X21 d31_53 ((feq hb53_22).1) ?_
        refine sC C X21 d31_56 ?_
        exact rN C X21 e21 (t := .boolean) (by simp) hret d31_57 ⟨(congrArg (fun z => some (Value.int z)) (show (0 : Int32) = own_e (fs (1 : Int32)) (fc (0 : Int32)) (fc (1 : Int32)) (2 : Int32) c0 c1 by rw [own_e, if_pos ((Int32.sub_zero (fs (1 : Int32))) ▸ hb21_18), if_neg (by decide), if_neg hb53_22])), (((N0.app Nq17).app Nq19).app Nq21), rfl⟩
    · refine cN C X17 d31_21 ((feq hb21_18).1) ?_
      refine sC C X17 d31_24 ?_
      exact rN C X17 e17 (t := .boolean) (by simp) hret d31_25 ⟨(congrArg (fun z => some (Value.int z)) (show (0 : Int32) = own_e (fs (1 : Int32)) (fc (0 : Int32)) (fc (1 : Int32)) (2 : Int32) c0 c1 by rw [own_e, if_neg ((Int32.sub_zero (fs (1 : Int32))) ▸ hb21_18)])), (N0.app Nq17), rfl⟩
theorem d10_0 : decode prog_76_method_9_code 0 = .ok (.aload_n 0, 1) := by decide +kernel
theorem d10_1 : decode prog_76_method_9_code 1 = .ok (.getfield 20, 3) := by decide +kernel
theorem d10_4 : decode prog_76_method_9_code 4 = .ok (.arraylength, 1) := by decide +kernel
theorem d10_5 : decode prog_76_method_9_code 5 = .ok (.iconst 1, 1) := by decide +kernel
theorem d10_6 : decode prog_76_method_9_code 6 = .ok (.isub, 1) := by decide +kernel
theorem d10_7 : decode prog_76_method_9_code 7 = .ok (.istore_n 3, 1) := by decide +kernel
theorem d10_8 : decode prog_76_method_9_code 8 = .ok (.iload_n 2, 1) := by decide +kernel
theorem d10_9 : decode prog_76_method_9_code 9 = .ok (.invokestatic 83, 3) := by decide +kernel
theorem pd__I_I : parseMethodDescriptor "(I)I" = some ⟨[.int], some .int⟩ := by decide +kernel
theorem d10_12 : decode prog_76_method_9_code 12 = .ok (.iload_n 3, 1) := by decide +kernel
theorem d10_13 : decode prog_76_method_9_code 13 = .ok (.iand, 1) := by decide +kernel
theorem d10_14 : decode prog_76_method_9_code 14 = .ok (.istore 4, 2) := by decide +kernel
theorem d10_16 : decode prog_76_method_9_code 16 = .ok (.aload_n 0, 1) := by decide +kernel
theorem d10_17 : decode prog_76_method_9_code 17 = .ok (.getfield 20, 3) := by decide +kernel
theorem d10_20 : decode prog_76_method_9_code 20 = .ok (.iload 4, 2) := by decide +kernel
theorem d10_22 : decode prog_76_method_9_code 22 = .ok (.iaload, 1) := by decide +kernel
theorem d10_23 : decode prog_76_method_9_code 23 = .ok (.ifCond .eq 49, 3) := by decide +kernel
theorem d10_72 : decode prog_76_method_9_code 72 = .ok (.iload 4, 2) := by decide +kernel
theorem d10_74 : decode prog_76_method_9_code 74 = .ok (.ireturn, 1) := by decide +kernel
theorem d10_26 : decode prog_76_method_9_code 26 = .ok (.aload_n 0, 1) := by decide +kernel
theorem d10_27 : decode prog_76_method_9_code 27 = .ok (.getfield 20, 3) := by decide +kernel
theorem d10_30 : decode prog_76_method_9_code 30 = .ok (.iload 4, 2) := by decide +kernel
theorem d10_32 : decode prog_76_method_9_code 32 = .ok (.iaload, 1) := by decide +kernel
theorem d10_33 : decode prog_76_method_9_code 33 = .ok (.iconst 1, 1) := by decide +kernel
theorem d10_34 : decode prog_76_method_9_code 34 = .ok (.isub, 1) := by decide +kernel
theorem d10_35 : decode prog_76_method_9_code 35 = .ok (.istore 5, 2) := by decide +kernel
theorem d10_37 : decode prog_76_method_9_code 37 = .ok (.aload_n 0, 1) := by decide +kernel
theorem d10_38 : decode prog_76_method_9_code 38 = .ok (.getfield 17, 3) := by decide +kernel
theorem d10_41 : decode prog_76_method_9_code 41 = .ok (.iload 5, 2) := by decide +kernel
theorem d10_43 : decode prog_76_method_9_code 43 = .ok (.iaload, 1) := by decide +kernel
theorem d10_44 : decode prog_76_method_9_code 44 = .ok (.iload_n 2, 1) := by decide +kernel
theorem d10_45 : decode prog_76_method_9_code 45 = .ok (.if_icmp .ne 16, 3) := by decide +kernel
theorem d10_48 : decode prog_76_method_9_code 48 = .ok (.aload_n 0, 1) := by decide +kernel
theorem d10_49 : decode prog_76_method_9_code 49 = .ok (.iload 5, 2) := by decide +kernel
theorem d10_51 : decode prog_76_method_9_code 51 = .ok (.aload_n 1, 1) := by decide +kernel
theorem d10_52 : decode prog_76_method_9_code 52 = .ok (.invokevirtual 87, 3) := by decide +kernel
theorem pd__ILjava_lang_String__Z : parseMethodDescriptor "(ILjava/lang/String;)Z" = some ⟨[.int, (.object "java/lang/String")], some .boolean⟩ := by decide +kernel
theorem d10_55 : decode prog_76_method_9_code 55 = .ok (.ifCond .eq 6, 3) := by decide +kernel
theorem d10_61 : decode prog_76_method_9_code 61 = .ok (.iload 4, 2) := by decide +kernel
theorem d10_63 : decode prog_76_method_9_code 63 = .ok (.iconst 1, 1) := by decide +kernel
theorem d10_64 : decode prog_76_method_9_code 64 = .ok (.iadd, 1) := by decide +kernel
theorem d10_65 : decode prog_76_method_9_code 65 = .ok (.iload_n 3, 1) := by decide +kernel
theorem d10_66 : decode prog_76_method_9_code 66 = .ok (.iand, 1) := by decide +kernel
theorem d10_67 : decode prog_76_method_9_code 67 = .ok (.istore 4, 2) := by decide +kernel
theorem d10_69 : decode prog_76_method_9_code 69 = .ok (.goto (-53), 3) := by decide +kernel
theorem d10_58 : decode prog_76_method_9_code 58 = .ok (.iload 4, 2) := by decide +kernel
theorem d10_60 : decode prog_76_method_9_code 60 = .ok (.ireturn, 1) := by decide +kernel
theorem pn_10 : plainName "com/example/holdback/holdback/util/StringIndex" = true := by first | (simp [plainName, overriddenIn]; done) | decide +kernel
theorem ef_10_RRI (m : MethodId) (y0 : Addr) (y1 : Addr) (y2 : Int32) : entryFrame m #[(.ref y0), (.ref y1), (.int y2)] 6 = mkF m 0 #[.val (.ref y0), .val (.ref y1), .val (.int y2), .unset, .unset, .unset] [] := by first | (simp [entryFrame, mkF, argsToLocals, Value.category]; done) | rfl
theorem rm_find (l : Launch) (Z : State) (a0 : Array Value) (hw : ∀ d ∈ tables_1, d.before a0 Z = true) (o : Addr) (ac : Addr) (as : Addr) (ah : Addr) (al : Addr) (sz : Int32) (cc : Int32) (fc : Int32 → Int32) (fs : Int32 → Int32) (fh : Int32 → Int32) (fl : Int32 → Int32) (a : Addr) (b : Addr) (k : ClassId) (hh : Int32) (hz : Int32) (n : Int32) (c0 : Int32) (c1 : Int32) (cs : Int32) (wf : Value) (hq : Int32) (h0 : Heap) (n0 : Nat) (Z0 : n0 ≤ h0.size) (Ss : own_St Z h0 cs wf) (Ix : own_Ix Z h0 o ac as ah al sz cc fc fs fh fl) (S : own_Str Z h0 a b k hh hz n c0 c1) (hs0 : fs (0 : Int32) = 0) (hq0 : fl ((own_sp hq) &&& (127 : Int32)) = 0 ∨ (fl ((own_sp hq) &&& (127 : Int32)) = 1 ∧ fl ((((own_sp hq) &&& (127 : Int32)) + (1 : Int32)) &&& (127 : Int32)) = 0)) :
    own_Met l (⟨"com/example/holdback/holdback/util/StringIndex", "find", "(Ljava/lang/String;I)I"⟩ : MethodName) prog_76_method_9_code 6 (some .int) ({ frames := 5, cells := 0, slots := 0, locals := 70 } : Room) Z h0 #[(.ref o), (.ref a), (.int hq)] (fun v h L => v = some (.int (own_fd ((own_sp hq) &&& (127 : Int32)) (fl ((own_sp hq) &&& (127 : Int32))) (fh (0 : Int32)) hq (own_e (fs (1 : Int32)) (fc (0 : Int32)) (fc (1 : Int32)) n c0 c1))) ∧ Fr n0 L ∧ h = h0) := by
  refine own_go hw (plainFor_of_name pn_10) (fun m => ef_10_RRI m o a hq) fun p e s m below meth c T0 C hret X0 e0 => ?_
  have N0 := Fr.nil n0
  obtain ⟨Sco, hcs, Sfo, hwf⟩ := id Ss
  obtain ⟨Es, Fco, Fva, Fha, Fhz, Sv, hh1, hz1⟩ := id S
  obtain ⟨Av, Eb, hok⟩ := id Sv
  obtain ⟨Eo, Fch, Fst, Fhs, Fsl, Fsz, Fcc, Bc, Bs, Bh, Bl⟩ := id Ix
  refine sA C X0 d10_0 ?_
  refine gF C X0 e0 Fsl (ow17 C.w) d10_1 fun T1 X1 e1 => ?_
  refine fN C X1 e1 Bl d10_4 ?_
  refine sC C X1 d10_5 ?_
  refine sS C X1 d10_6 ?_
  refine wI C X1 #[.val (.ref o), .val (.ref a), .val (.int hq), .val (.int (127 : Int32)), .unset, .unset] d10_7 ?_
  refine sI C X1 d10_8 ?_
  refine cS C X1 e1 (rm_spr l Z a0 hw hq  h0 n0 Z0) (W := 0) (ow70 C.w) (ow71 C.w) (ow72 C.w) (ow2 C.w) (argsL := [(.int hq)]) (lenOf pd__I_I rfl) d10_9 fun v2 T2 lo2 X2 hQ2 => ?_
  obtain ⟨rfl, Nq2, e2⟩ := hQ2
  refine sI C X2 d10_12 ?_
  refine sN C X2 d10_13 ?_
  refine wi C X2 #[.val (.ref o), .val (.ref a), .val (.int hq), .val (.int (127 : Int32)), .val (.int ((own_sp hq) &&& (127 : Int32))), .unset] d10_14 ?_
  rcases hq0 with hl0 | ⟨hl1, hl2⟩
  · skip
    refine sA C X2 d10_16 ?_
    refine gF C X2 e2 Fsl (ow17 C.w) d10_17 fun T3 X3 e3 => ?_
    refine si C X3 d10_20 ?_
    refine fIe C X3 e3 Bl (own_m127 _) (v := (0 : Int32)) hl0 d10_22 ?_
    refine bY C X3 d10_23 72 ((if0 _ _).trans (teq (by decide : (0 : Int32) = (0 : Int32))).1) ?_
    refine si C X3 d10_72 ?_
    exact rI C X3 e3 hret d10_74 ⟨(congrArg (fun z => some (Value.int z)) (own_fd0 hl0).symm), (N0.app Nq2), rfl⟩
  · skip
    refine sA C X2 d10_16 ?_
    refine gF C X2 e2 Fsl (ow17 C.w) d10_17 fun T4 X4 e4 => ?_
    refine si C X4 d10_20 ?_
    refine fIe C X4 e4 Bl (own_m127 _) (v := (1 : Int32)) hl1 d10_22 ?_
    refine bN C X4 d10_23 ((if0 _ _).trans (feq (by decide : ¬ ((1 : Int32) = (0 : Int32)))).1) ?_
    refine sA C X4 d10_26 ?_
    refine gF C X4 e4 Fsl (ow17 C.w) d10_27 fun T5 X5 e5 => ?_
    refine si C X5 d10_30 ?_
    refine fIe C X5 e5 Bl (own_m127 _) (v := (1 : Int32)) hl1 d10_32 ?_
    refine sC C X5 d10_33 ?_
    refine sS C X5 d10_34 ?_
    refine wi C X5 #[.val (.ref o), .val (.ref a), .val (.int hq), .val (.int (127 : Int32)), .val (.int ((own_sp hq) &&& (127 : Int32))), .val (.int (0 : Int32))] d10_35 ?_
    refine sA C X5 d10_37 ?_
    refine gF C X5 e5 Fhs (ow15 C.w) d10_38 fun T6 X6 e6 => ?_
    refine si C X6 d10_41 ?_
    refine fI C X6 e6 Bh ⟨by decide, by decide⟩ d10_43 ?_
    refine sI C X6 d10_44 ?_
    by_cases hb45_7 : (fh (0 : Int32)) = hq
    · refine cN C X6 d10_45 ((teq hb45_7).2) ?_
      refine sA C X6 d10_48 ?_
      refine si C X6 d10_49 ?_
      refine sA C X6 d10_51 ?_
      refine cP C X6 e6 (rm_eqa l Z a0 hw o ac as ah al sz cc fc fs fh fl a b k hh hz n c0 c1 cs wf  h0 n0 Z0 Ss Ix S hs0) Eo (W := 0) (ow158 C.w) (ow159 C.w) (own_selp (x := (⟨"com/example/holdback/holdback/util/StringIndex", "add", "(Ljava/lang/String;)I"⟩ : MethodName)) rfl (mvT (args := #[]) C.z (ow45 C.w)) (Cond.privateMethod_at (mvP C.z (ow160 C.w) (args := #[]))) (mvT C.z (ow159 C.w)) (by decide)) (ow160 C.w) (ow161 C.w) (ow2 C.w) (argsL := [(.int (0 : Int32)), (.ref a)]) (lenOf pd__ILjava_lang_String__Z rfl) d10_52 fun v8 T8 lo8 X8 hQ8 => ?_
      obtain ⟨rfl, Nq8, e8⟩ := hQ8
      by_cases hb55_9 : (own_e (fs (1 : Int32)) (fc (0 : Int32)) (fc (1 : Int32)) n c0 c1) = (0 : Int32)
      · refine bY C X8 d10_55 61 ((if0 _ _).trans (teq hb55_9).1) ?_
        refine si C X8 d10_61 ?_
        refine sC C X8 d10_63 ?_
        refine sP C X8 d10_64 ?_
        refine sI C X8 d10_65 ?_
        refine sN C X8 d10_66 ?_
        refine wi C X8 #[.val (.ref o), .val (.ref a), .val (.int hq), .val (.int (127 : Int32)), .val (.int ((((own_sp hq) &&& (127 : Int32)) + (1 : Int32)) &&& (127 : Int32))), .val (.int (0 : Int32))] d10_67 ?_
        refine sG C X8 d10_69 16 ?_
        refine sA C X8 d10_16 ?_
        refine gF C X8 e8 Fsl (ow17 C.w) d10_17 fun T10 X10 e10 => ?_
        refine si C X10 d10_20 ?_
        refine fIe C X10 e10 Bl (own_m127 _) (v := (0 : Int32)) hl2 d10_22 ?_
        refine bY C X10 d10_23 72 ((if0 _ _).trans (teq (by decide : (0 : Int32) = (0 : Int32))).1) ?_
        refine si C X10 d10_72 ?_
        exact rI C X10 e10 hret d10_74 ⟨(congrArg (fun z => some (Value.int z)) (by rw [own_fd, hl1, if_neg (by decide), if_pos hb45_7, if_pos hb55_9])), ((N0.app Nq2).app Nq8), rfl⟩
      · refine bN C X8 d10_55 ((if0 _ _).trans (feq hb55_9).1) ?_
        refine si C X8 d10_58 ?_
        exact rI C X8 e8 hret d10_60 ⟨(congrArg (fun z => some (Value.int z)) (by rw [own_fd, hl1, if_neg (by decide), if_pos hb45_7, if_neg hb55_9])), ((N0.app Nq2).app Nq8), rfl⟩
    · refine cY C X6 d10_45 61 ((feq hb45_7).2) ?_
      refine si C X6 d10_61 ?_
      refine sC C X6 d10_63 ?_
      refine sP C X6 d10_64 ?_
      refine sI C X6 d10_65 ?_
      refine sN C X6 d10_66 ?_
      refine wi C X6 #[.val (.ref o), .val (.ref a), .val (.int hq), .val (.int (127 : Int32)), .val (.int ((((own_sp hq) &&& (127 : Int32)) + (1 : Int32)) &&& (127 : Int32))), .val (.int (0 : Int32))] d10_67 ?_
      refine sG C X6 d10_69 16 ?_
      refine sA C X6 d10_16 ?_
      refine gF C X6 e6 Fsl (ow17 C.w) d10_17 fun T11 X11 e11 => ?_
      refine si C X11 d10_20 ?_
      refine fIe C X11 e11 Bl (own_m127 _) (v := (0 : Int32)) hl2 d10_22 ?_
      refine bY C X11 d10_23 72 ((if0 _ _).trans (teq (by decide : (0 : Int32) = (0 : Int32))).1) ?_
      refine si C X11 d10_72 ?_
      exact rI C X11 e11 hret d10_74 ⟨(congrArg (fun z => some (Value.int z)) (by rw [own_fd, hl1, if_neg (by decide), if_neg hb45_7])), (N0.app Nq2), rfl⟩
theorem d21_0 : decode jdk_43_method_49_code 0 = .ok (.iconst 0, 1) := by decide +kernel
theorem d21_1 : decode jdk_43_method_49_code 1 = .ok (.istore 5, 2) := by decide +kernel
theorem d21_3 : decode jdk_43_method_49_code 3 = .ok (.iload 5, 2) := by decide +kernel
theorem d21_5 : decode jdk_43_method_49_code 5 = .ok (.iload 4, 2) := by decide +kernel
theorem d21_7 : decode jdk_43_method_49_code 7 = .ok (.if_icmp .ge 26, 3) := by decide +kernel
theorem d21_33 : decode jdk_43_method_49_code 33 = .ok (.return_, 1) := by decide +kernel
theorem d21_10 : decode jdk_43_method_49_code 10 = .ok (.aload_n 2, 1) := by decide +kernel
theorem d21_11 : decode jdk_43_method_49_code 11 = .ok (.iload_n 3, 1) := by decide +kernel
theorem d21_12 : decode jdk_43_method_49_code 12 = .ok (.iinc 3 1, 3) := by decide +kernel
theorem d21_15 : decode jdk_43_method_49_code 15 = .ok (.aload_n 0, 1) := by decide +kernel
theorem d21_16 : decode jdk_43_method_49_code 16 = .ok (.iload_n 1, 1) := by decide +kernel
theorem d21_17 : decode jdk_43_method_49_code 17 = .ok (.iinc 1 1, 3) := by decide +kernel
theorem d21_20 : decode jdk_43_method_49_code 20 = .ok (.baload, 1) := by decide +kernel
theorem d21_21 : decode jdk_43_method_49_code 21 = .ok (.sipush 255, 3) := by decide +kernel
theorem d21_24 : decode jdk_43_method_49_code 24 = .ok (.iand, 1) := by decide +kernel
theorem d21_25 : decode jdk_43_method_49_code 25 = .ok (.i2c, 1) := by decide +kernel
theorem d21_26 : decode jdk_43_method_49_code 26 = .ok (.castore, 1) := by decide +kernel
theorem d21_27 : decode jdk_43_method_49_code 27 = .ok (.iinc 5 1, 3) := by decide +kernel
theorem d21_30 : decode jdk_43_method_49_code 30 = .ok (.goto (-27), 3) := by decide +kernel
theorem pn_21 : plainName "java/lang/StringLatin1" = true := by first | (simp [plainName, overriddenIn]; done) | decide +kernel
theorem ef_21_RIRII (m : MethodId) (y0 : Addr) (y1 : Int32) (y2 : Addr) (y3 : Int32) (y4 : Int32) : entryFrame m #[(.ref y0), (.int y1), (.ref y2), (.int y3), (.int y4)] 6 = mkF m 0 #[.val (.ref y0), .val (.int y1), .val (.ref y2), .val (.int y3), .val (.int y4), .unset] [] := by first | (simp [entryFrame, mkF, argsToLocals, Value.category]; done) | rfl
theorem rm_infl (l : Launch) (Z : State) (a0 : Array Value) (hw : ∀ d ∈ tables_1, d.before a0 Z = true) (b : Addr) (k : ClassId) (n : Int32) (c0 : Int32) (c1 : Int32) (ac : Addr) (fc : Int32 → Int32) (cc : Int32) (h0 : Heap) (n0 : Nat) (Z0 : n0 ≤ h0.size) (Sv : own_Sv Z h0 b k n c0 c1) (Bc : own_Fa Z h0 ac .char (512 : Int32) fc) (gac : n0 ≤ ac) (hcc : cc = 0 ∨ cc = 1 ∨ cc = 2) :
    own_Met l (⟨"java/lang/StringLatin1", "inflate", "([BI[CII)V"⟩ : MethodName) jdk_43_method_49_code 6 none ({ frames := 0, cells := 0, slots := 0, locals := 0 } : Room) Z h0 #[(.ref b), (.int (0 : Int32)), (.ref ac), (.int cc), (.int n)] (fun v h L => v = none ∧ Fr n0 L ∧ Keep h0 h [ac] ∧ own_StK Z h0 h ∧ ∃ fc', own_Fa Z h ac .char (512 : Int32) fc' ∧ (cc = 0 → (¬ n = 0 → fc' 0 = c0) ∧ (n = 2 → fc' 1 = c1))) := by
  refine own_go hw (plainFor_of_name pn_21) (fun m => ef_21_RIRII m b (0 : Int32) ac cc n) fun p e s m below meth c T0 C hret X0 e0 => ?_
  have N0 := Fr.nil n0
  obtain ⟨Av, Eb, hok⟩ := id Sv
  rcases hok.1 with rfl | rfl | rfl
  · rw [own_bl0] at Av
    refine sC C X0 d21_0 ?_
    refine wi C X0 #[.val (.ref b), .val (.int (0 : Int32)), .val (.ref ac), .val (.int cc), .val (.int (0 : Int32)), .val (.int (0 : Int32))] d21_1 ?_
    refine si C X0 d21_3 ?_
    refine si C X0 d21_5 ?_
    refine cY C X0 d21_7 33 ((flt (by decide : ¬ ((0 : Int32) < (0 : Int32)))).2.1) ?_
    exact rV C X0 e0 hret d21_33 ⟨rfl, N0, Keep.refl _ _, own_StK.refl _ _, fc, Bc, fun q => by subst q; exact ⟨fun q => absurd rfl q, fun q => absurd q (by decide)⟩⟩
  · rw [own_bl1] at Av
    refine sC C X0 d21_0 ?_
    refine wi C X0 #[.val (.ref b), .val (.int (0 : Int32)), .val (.ref ac), .val (.int cc), .val (.int (1 : Int32)), .val (.int (0 : Int32))] d21_1 ?_
    refine si C X0 d21_3 ?_
    refine si C X0 d21_5 ?_
    refine cN C X0 d21_7 ((tlt (by decide : (0 : Int32) < (1 : Int32))).2.1) ?_
    refine sA C X0 d21_10 ?_
    refine sI C X0 d21_11 ?_
    refine wc C X0 #[.val (.ref b), .val (.int (0 : Int32)), .val (.ref ac), .val (.int (cc + (1 : Int32))), .val (.int (1 : Int32)), .val (.int (0 : Int32))] d21_12 ?_
    refine sA C X0 d21_15 ?_
    refine sI C X0 d21_16 ?_
    refine wc C X0 #[.val (.ref b), .val (.int (1 : Int32)), .val (.ref ac), .val (.int (cc + (1 : Int32))), .val (.int (1 : Int32)), .val (.int (0 : Int32))] d21_17 ?_
    refine yB C X0 e0 Av (v := (.int (nar .byte c0))) d21_20 ?_
    refine sU C X0 d21_21 ?_
    refine sN C X0 d21_24 ?_
    refine sc C X0 d21_25 ?_
    refine xC C X0 e0 N0 gac Bc (own_c0 hcc) d21_26 fun T1 h1 lo1 X1 e1 N1 W1 V1 => ?_
    have KC1 : Keep h0 h1 [ac] := (Keep.refl h0 [ac]).wr W1 (Or.inl (List.mem_of_getElem? (i := 0) rfl))
    have SK1 : own_StK Z h0 h1 := (own_StK.refl Z h0).wr W1
    refine wc C X1 #[.val (.ref b), .val (.int (1 : Int32)), .val (.ref ac), .val (.int (cc + (1 : Int32))), .val (.int (1 : Int32)), .val (.int (1 : Int32))] d21_27 ?_
    refine sG C X1 d21_30 3 ?_
    refine si C X1 d21_3 ?_
    refine si C X1 d21_5 ?_
    refine cY C X1 d21_7 33 ((flt (by decide : ¬ ((1 : Int32) < (1 : Int32)))).2.1) ?_
    exact rV C X1 e1 hret d21_33 ⟨rfl, N1, KC1, SK1, (fun i => if i = cc then (nar .char (((nar .byte c0) &&& (255 : Int32)).toUInt32.toUInt16.toUInt32.toInt32)) else fc i), V1, fun q => by subst q; exact ⟨fun _ => (if_pos rfl).trans (own_icn c0 hok.2.1), fun q => absurd q (by decide)⟩⟩
  · rw [own_bl2] at Av
    have E2b := Eb rfl
    refine sC C X0 d21_0 ?_
    refine wi C X0 #[.val (.ref b), .val (.int (0 : Int32)), .val (.ref ac), .val (.int cc), .val (.int (2 : Int32)), .val (.int (0 : Int32))] d21_1 ?_
    refine si C X0 d21_3 ?_
    refine si C X0 d21_5 ?_
    refine cN C X0 d21_7 ((tlt (by decide : (0 : Int32) < (2 : Int32))).2.1) ?_
    refine sA C X0 d21_10 ?_
    refine sI C X0 d21_11 ?_
    refine wc C X0 #[.val (.ref b), .val (.int (0 : Int32)), .val (.ref ac), .val (.int (cc + (1 : Int32))), .val (.int (2 : Int32)), .val (.int (0 : Int32))] d21_12 ?_
    refine sA C X0 d21_15 ?_
    refine sI C X0 d21_16 ?_
    refine wc C X0 #[.val (.ref b), .val (.int (1 : Int32)), .val (.ref ac), .val (.int (cc + (1 : Int32))), .val (.int (2 : Int32)), .val (.int (0 : Int32))] d21_17 ?_
    refine yB C X0 e0 Av (v := (.int (nar .byte c0))) d21_20 ?_
    refine sU C X0 d21_21 ?_
    refine sN C X0 d21_24 ?_
    refine sc C X0 d21_25 ?_
    refine xC C X0 e0 N0 gac Bc (own_c0 hcc) d21_26 fun T2 h2 lo2 X2 e2 N2 W2 V2 => ?_
    have KC2 : Keep h0 h2 [ac] := (Keep.refl h0 [ac]).wr W2 (Or.inl (List.mem_of_getElem? (i := 0) rfl))
    have SK2 : own_StK Z h0 h2 := (own_StK.refl Z h0).wr W2
    refine wc C X2 #[.val (.ref b), .val (.int (1 : Int32)), .val (.ref ac), .val (.int (cc + (1 : Int32))), .val (.int (2 : Int32)), .val (.int (1 : Int32))] d21_27 ?_
    refine sG C X2 d21_30 3 ?_
    refine si C X2 d21_3 ?_
    refine si C X2 d21_5 ?_
    refine cN C X2 d21_7 ((tlt (by decide : (1 : Int32) < (2 : Int32))).2.1) ?_
    refine sA C X2 d21_10 ?_
    refine sI C X2 d21_11 ?_
    refine wc C X2 #[.val (.ref b), .val (.int (1 : Int32)), .val (.ref ac), .val (.int ((cc + (1 : Int32)) + (1 : Int32))), .val (.int (2 : Int32)), .val (.int (1 : Int32))] d21_12 ?_
    refine sA C X2 d21_15 ?_
    refine sI C X2 d21_16 ?_
    refine wc C X2 #[.val (.ref b), .val (.int (2 : Int32)), .val (.ref ac), .val (.int ((cc + (1 : Int32)) + (1 : Int32))), .val (.int (2 : Int32)), .val (.int (1 : Int32))] d21_17 ?_
    have ne_b_ac : b ≠ ac := (own_Fa.neV Av Bc (by decide))
    have f3 := (Av.other W2 ne_b_ac)
    refine yB C X2 e2 f3 (v := (.int (nar .byte c1))) d21_20 ?_
    refine sU C X2 d21_21 ?_
    refine sN C X2 d21_24 ?_
    refine sc C X2 d21_25 ?_
    refine xC C X2 e2 N2 gac V2 (own_c1 hcc) d21_26 fun T4 h4 lo4 X4 e4 N4 W4 V4 => ?_
    have KC4 : Keep h0 h4 [ac] := KC2.wr W4 (Or.inl (List.mem_of_getElem? (i := 0) rfl))
    have SK4 : own_StK Z h0 h4 := SK2.wr W4
    refine wc C X4 #[.val (.ref b), .val (.int (2 : Int32)), .val (.ref ac), .val (.int ((cc + (1 : Int32)) + (1 : Int32))), .val (.int (2 : Int32)), .val (.int (2 : Int32))] d21_27 ?_
    refine sG C X4 d21_30 3 ?_
    refine si C X4 d21_3 ?_
    refine si C X4 d21_5 ?_
    refine cY C X4 d21_7 33 ((flt (by decide : ¬ ((2 : Int32) < (2 : Int32)))).2.1) ?_
    exact rV C X4 e4 hret d21_33 ⟨rfl, N4, KC4, SK4, (fun i => if i = (cc + (1 : Int32)) then (nar .char (((nar .byte c1) &&& (255 : Int32)).toUInt32.toUInt16.toUInt32.toInt32)) else (fun i => if i = cc then (nar .char (((nar .byte c0) &&& (255 : Int32)).toUInt32.toUInt16.toUInt32.toInt32)) else fc i) i), V4, fun q => by subst q; exact ⟨fun _ => (if_neg (by decide)).trans ((if_pos rfl).trans (own_icn c0 hok.2.1)), fun _ => (if_pos (by decide)).trans (own_icn c1 hok.2.2)⟩⟩
theorem d20_0 : decode jdk_43_method_11_code 0 = .ok (.aload_n 0, 1) := by decide +kernel
theorem d20_1 : decode jdk_43_method_11_code 1 = .ok (.iload_n 1, 1) := by decide +kernel
theorem d20_2 : decode jdk_43_method_11_code 2 = .ok (.aload_n 3, 1) := by decide +kernel
theorem d20_3 : decode jdk_43_method_11_code 3 = .ok (.iload 4, 2) := by decide +kernel
theorem d20_5 : decode jdk_43_method_11_code 5 = .ok (.iload_n 2, 1) := by decide +kernel
theorem d20_6 : decode jdk_43_method_11_code 6 = .ok (.iload_n 1, 1) := by decide +kernel
theorem d20_7 : decode jdk_43_method_11_code 7 = .ok (.isub, 1) := by decide +kernel
theorem d20_8 : decode jdk_43_method_11_code 8 = .ok (.invokestatic 13, 3) := by decide +kernel
theorem pd___BI_CII_V : parseMethodDescriptor "([BI[CII)V" = some ⟨[(.array .byte), .int, (.array .char), .int, .int], none⟩ := by decide +kernel
theorem d20_11 : decode jdk_43_method_11_code 11 = .ok (.return_, 1) := by decide +kernel
theorem pn_20 : plainName "java/lang/StringLatin1" = true := by first | (simp [plainName, overriddenIn]; done) | decide +kernel
theorem ef_20_RIIRI (m : MethodId) (y0 : Addr) (y1 : Int32) (y2 : Int32) (y3 : Addr) (y4 : Int32) : entryFrame m #[(.ref y0), (.int y1), (.int y2), (.ref y3), (.int y4)] 5 = mkF m 0 #[.val (.ref y0), .val (.int y1), .val (.int y2), .val (.ref y3), .val (.int y4)] [] := by first | (simp [entryFrame, mkF, argsToLocals, Value.category]; done) | rfl
theorem rm_lgc (l : Launch) (Z : State) (a0 : Array Value) (hw : ∀ d ∈ tables_1, d.before a0 Z = true) (b : Addr) (k : ClassId) (n : Int32) (c0 : Int32) (c1 : Int32) (ac : Addr) (fc : Int32 → Int32) (cc : Int32) (h0 : Heap) (n0 : Nat) (Z0 : n0 ≤ h0.size) (Sv : own_Sv Z h0 b k n c0 c1) (Bc : own_Fa Z h0 ac .char (512 : Int32) fc) (gac : n0 ≤ ac) (hcc : cc = 0 ∨ cc = 1 ∨ cc = 2) :
    own_Met l (⟨"java/lang/StringLatin1", "getChars", "([BII[CI)V"⟩ : MethodName) jdk_43_method_11_code 5 none ({ frames := 1, cells := 0, slots := 0, locals := 17 } : Room) Z h0 #[(.ref b), (.int (0 : Int32)), (.int n), (.ref ac), (.int cc)] (fun v h L => v = none ∧ Fr n0 L ∧ Keep h0 h [ac] ∧ own_StK Z h0 h ∧ ∃ fc', own_Fa Z h ac .char (512 : Int32) fc' ∧ (cc = 0 → (¬ n = 0 → fc' 0 = c0) ∧ (n = 2 → fc' 1 = c1))) := by
  refine own_go hw (plainFor_of_name pn_20) (fun m => ef_20_RIIRI m b (0 : Int32) n ac cc) fun p e s m below meth c T0 C hret X0 e0 => ?_
  have N0 := Fr.nil n0
  obtain ⟨Av, Eb, hok⟩ := id Sv
  rcases hok.1 with rfl | rfl | rfl
  · rw [own_bl0] at Av
    refine sA C X0 d20_0 ?_
    refine sI C X0 d20_1 ?_
    refine sA C X0 d20_2 ?_
    refine si C X0 d20_3 ?_
    refine sI C X0 d20_5 ?_
    refine sI C X0 d20_6 ?_
    refine sS C X0 d20_7 ?_
    refine cS C X0 e0 (rm_infl l Z a0 hw b k (0 : Int32) c0 c1 ac fc cc  h0 n0 Z0 Sv Bc gac hcc) (W := 0) (ow115 C.w) (ow116 C.w) (ow117 C.w) (ow64 C.w) (argsL := [(.ref b), (.int (0 : Int32)), (.ref ac), (.int cc), (.int (0 : Int32))]) (lenOf pd___BI_CII_V rfl) d20_8 fun v1 T1 lo1 X1 hQ1 => ?_
    obtain ⟨h1, e1⟩ : ∃ h', T1.heap = h' := ⟨_, rfl⟩
    rw [e1] at hQ1
    obtain ⟨rfl, Nq1, Kc1, Sc1, fcN1, Bn1, hcp1⟩ := hQ1
    have KC1 : Keep h0 h1 [ac] := Keep.trans (Keep.refl h0 [ac]) Kc1 (allS (P := fun x => x ∈ ([ac] : List Addr) ∨ h0.size ≤ x) (Or.inl (List.mem_of_getElem? (i := 0) rfl)) all0)
    have SK1 : own_StK Z h0 h1 := (own_StK.refl Z h0).tr Sc1
    exact rV C X1 e1 hret d20_11 ⟨rfl, (N0.app Nq1), KC1, SK1, _, Bn1, hcp1⟩
  · rw [own_bl1] at Av
    refine sA C X0 d20_0 ?_
    refine sI C X0 d20_1 ?_
    refine sA C X0 d20_2 ?_
    refine si C X0 d20_3 ?_
    refine sI C X0 d20_5 ?_
    refine sI C X0 d20_6 ?_
    refine sS C X0 d20_7 ?_
    refine cS C X0 e0 (rm_infl l Z a0 hw b k (1 : Int32) c0 c1 ac fc cc  h0 n0 Z0 Sv Bc gac hcc) (W := 0) (ow115 C.w) (ow116 C.w) (ow117 C.w) (ow64 C.w) (argsL := [(.ref b), (.int (0 : Int32)), (.ref ac), (.int cc), (.int (1 : Int32))]) (lenOf pd___BI_CII_V rfl) d20_8 fun v2 T2 lo2 X2 hQ2 => ?_
    obtain ⟨h2, e2⟩ : ∃ h', T2.heap = h' := ⟨_, rfl⟩
    rw [e2] at hQ2
    obtain ⟨rfl, Nq2, Kc2, Sc2, fcN2, Bn2, hcp2⟩ := hQ2
    have KC2 : Keep h0 h2 [ac] := Keep.trans (Keep.refl h0 [ac]) Kc2 (allS (P := fun x => x ∈ ([ac] : List Addr) ∨ h0.size ≤ x) (Or.inl (List.mem_of_getElem? (i := 0) rfl)) all0)
    have SK2 : own_StK Z h0 h2 := (own_StK.refl Z h0).tr Sc2
    exact rV C X2 e2 hret d20_11 ⟨rfl, (N0.app Nq2), KC2, SK2, _, Bn2, hcp2⟩
  · rw [own_bl2] at Av
    have E2b := Eb rfl
    refine sA C X0 d20_0 ?_
    refine sI C X0 d20_1 ?_
    refine sA C X0 d20_2 ?_
    refine si C X0 d20_3 ?_
    refine sI C X0 d20_5 ?_
    refine sI C X0 d20_6 ?_
    refine sS C X0 d20_7 ?_
    refine cS C X0 e0 (rm_infl l Z a0 hw b k (2 : Int32) c0 c1 ac fc cc  h0 n0 Z0 Sv Bc gac hcc) (W := 0) (ow115 C.w) (ow116 C.w) (ow117 C.w) (ow64 C.w) (argsL := [(.ref b), (.int (0 : Int32)), (.ref ac), (.int cc), (.int (2 : Int32))]) (lenOf pd___BI_CII_V rfl) d20_8 fun v3 T3 lo3 X3 hQ3 => ?_
    obtain ⟨h3, e3⟩ : ∃ h', T3.heap = h' := ⟨_, rfl⟩
    rw [e3] at hQ3
    obtain ⟨rfl, Nq3, Kc3, Sc3, fcN3, Bn3, hcp3⟩ := hQ3
    have KC3 : Keep h0 h3 [ac] := Keep.trans (Keep.refl h0 [ac]) Kc3 (allS (P := fun x => x ∈ ([ac] : List Addr) ∨ h0.size ≤ x) (Or.inl (List.mem_of_getElem? (i := 0) rfl)) all0)
    have SK3 : own_StK Z h0 h3 := (own_StK.refl Z h0).tr Sc3
    exact rV C X3 e3 hret d20_11 ⟨rfl, (N0.app Nq3), KC3, SK3, _, Bn3, hcp3⟩
theorem d15_0 : decode jdk_42_method_61_code 0 = .ok (.iload_n 1, 1) := by decide +kernel
theorem d15_1 : decode jdk_42_method_61_code 1 = .ok (.iload_n 2, 1) := by decide +kernel
theorem d15_2 : decode jdk_42_method_61_code 2 = .ok (.aload_n 0, 1) := by decide +kernel
theorem d15_3 : decode jdk_42_method_61_code 3 = .ok (.invokevirtual 505, 3) := by decide +kernel
theorem d15_6 : decode jdk_42_method_61_code 6 = .ok (.invokestatic 521, 3) := by decide +kernel
theorem pd__III_V : parseMethodDescriptor "(III)V" = some ⟨[.int, .int, .int], none⟩ := by decide +kernel
theorem d15_9 : decode jdk_42_method_61_code 9 = .ok (.iload 4, 2) := by decide +kernel
theorem d15_11 : decode jdk_42_method_61_code 11 = .ok (.iload_n 2, 1) := by decide +kernel
theorem d15_12 : decode jdk_42_method_61_code 12 = .ok (.iload_n 1, 1) := by decide +kernel
theorem d15_13 : decode jdk_42_method_61_code 13 = .ok (.isub, 1) := by decide +kernel
theorem d15_14 : decode jdk_42_method_61_code 14 = .ok (.aload_n 3, 1) := by decide +kernel
theorem d15_15 : decode jdk_42_method_61_code 15 = .ok (.arraylength, 1) := by decide +kernel
theorem d15_16 : decode jdk_42_method_61_code 16 = .ok (.invokestatic 34, 3) := by decide +kernel
theorem pd__III_I : parseMethodDescriptor "(III)I" = some ⟨[.int, .int, .int], some .int⟩ := by decide +kernel
theorem d15_19 : decode jdk_42_method_61_code 19 = .ok (.pop, 1) := by decide +kernel
theorem d15_20 : decode jdk_42_method_61_code 20 = .ok (.aload_n 0, 1) := by decide +kernel
theorem d15_21 : decode jdk_42_method_61_code 21 = .ok (.invokevirtual 492, 3) := by decide +kernel
theorem d15_24 : decode jdk_42_method_61_code 24 = .ok (.ifCond .eq 18, 3) := by decide +kernel
theorem d15_27 : decode jdk_42_method_61_code 27 = .ok (.aload_n 0, 1) := by decide +kernel
theorem d15_28 : decode jdk_42_method_61_code 28 = .ok (.getfield 9, 3) := by decide +kernel
theorem d15_31 : decode jdk_42_method_61_code 31 = .ok (.iload_n 1, 1) := by decide +kernel
theorem d15_32 : decode jdk_42_method_61_code 32 = .ok (.iload_n 2, 1) := by decide +kernel
theorem d15_33 : decode jdk_42_method_61_code 33 = .ok (.aload_n 3, 1) := by decide +kernel
theorem d15_34 : decode jdk_42_method_61_code 34 = .ok (.iload 4, 2) := by decide +kernel
theorem d15_36 : decode jdk_42_method_61_code 36 = .ok (.invokestatic 525, 3) := by decide +kernel
theorem pd___BII_CI_V : parseMethodDescriptor "([BII[CI)V" = some ⟨[(.array .byte), .int, .int, (.array .char), .int], none⟩ := by decide +kernel
theorem d15_39 : decode jdk_42_method_61_code 39 = .ok (.goto 15, 3) := by decide +kernel
theorem d15_54 : decode jdk_42_method_61_code 54 = .ok (.return_, 1) := by decide +kernel
theorem pn_15 : plainName "java/lang/String" = true := by first | (simp [plainName, overriddenIn]; done) | decide +kernel
theorem ef_15_RIIRI (m : MethodId) (y0 : Addr) (y1 : Int32) (y2 : Int32) (y3 : Addr) (y4 : Int32) : entryFrame m #[(.ref y0), (.int y1), (.int y2), (.ref y3), (.int y4)] 5 = mkF m 0 #[.val (.ref y0), .val (.int y1), .val (.int y2), .val (.ref y3), .val (.int y4)] [] := by first | (simp [entryFrame, mkF, argsToLocals, Value.category]; done) | rfl
theorem rm_sgc (l : Launch) (Z : State) (a0 : Array Value) (hw : ∀ d ∈ tables_1, d.before a0 Z = true) (a : Addr) (b : Addr) (k : ClassId) (hh : Int32) (hz : Int32) (n : Int32) (c0 : Int32) (c1 : Int32) (cs : Int32) (wf : Value) (ac : Addr) (fc : Int32 → Int32) (cc : Int32) (h0 : Heap) (n0 : Nat) (Z0 : n0 ≤ h0.size) (Ss : own_St Z h0 cs wf) (S : own_Str Z h0 a b k hh hz n c0 c1) (Bc : own_Fa Z h0 ac .char (512 : Int32) fc) (gac : n0 ≤ ac) (hcc : cc = 0 ∨ cc = 1 ∨ cc = 2) :
    own_Met l (⟨"java/lang/String", "getChars", "(II[CI)V"⟩ : MethodName) jdk_42_method_61_code 5 none ({ frames := 2, cells := 0, slots := 0, locals := 33 } : Room) Z h0 #[(.ref a), (.int (0 : Int32)), (.int n), (.ref ac), (.int cc)] (fun v h L => v = none ∧ Fr n0 L ∧ Keep h0 h [ac] ∧ own_StK Z h0 h ∧ ∃ fc', own_Fa Z h ac .char (512 : Int32) fc' ∧ (cc = 0 → (¬ n = 0 → fc' 0 = c0) ∧ (n = 2 → fc' 1 = c1))) := by
  refine own_go hw (plainFor_of_name pn_15) (fun m => ef_15_RIIRI m a (0 : Int32) n ac cc) fun p e s m below meth c T0 C hret X0 e0 => ?_
  have N0 := Fr.nil n0
  obtain ⟨Sco, hcs, Sfo, hwf⟩ := id Ss
  obtain ⟨Es, Fco, Fva, Fha, Fhz, Sv, hh1, hz1⟩ := id S
  obtain ⟨Av, Eb, hok⟩ := id Sv
  rcases hok.1 with rfl | rfl | rfl
  · rw [own_bl0] at Av
    refine sI C X0 d15_0 ?_
    refine sI C X0 d15_1 ?_
    refine sA C X0 d15_2 ?_
    refine cV C X0 e0 (rm_len l Z a0 hw a b k hh hz (0 : Int32) c0 c1 cs wf  h0 n0 Z0 Ss S) Es (W := 2) (ow97 C.w) (ow83 C.w) (ow85 C.w) (ow84 C.w) (ow86 C.w) (ow25 C.w) (argsL := []) (lenOf pd___I rfl) d15_3 fun v1 T1 lo1 X1 hQ1 => ?_
    obtain ⟨rfl, Nq1, e1⟩ := hQ1
    refine cS C X1 e1 (rm_cbe l Z a0 hw (0 : Int32) (0 : Int32) (0 : Int32) cs wf  h0 n0 Z0 Ss (by decide) (by decide) (by decide)) (W := 0) (ow98 C.w) (ow99 C.w) (ow100 C.w) (ow25 C.w) (argsL := [(.int (0 : Int32)), (.int (0 : Int32)), (.int (0 : Int32))]) (lenOf pd__III_V rfl) d15_6 fun v2 T2 lo2 X2 hQ2 => ?_
    obtain ⟨rfl, Nq2, e2⟩ := hQ2
    refine si C X2 d15_9 ?_
    refine sI C X2 d15_11 ?_
    refine sI C X2 d15_12 ?_
    refine sS C X2 d15_13 ?_
    refine sA C X2 d15_14 ?_
    refine fN C X2 e2 Bc d15_15 ?_
    refine cS C X2 e2 (rm_coc l Z a0 hw cc (0 : Int32) (512 : Int32) cs wf  h0 n0 Z0 Ss (by rcases hcc with rfl | rfl | rfl <;> decide) (by rcases hcc with rfl | rfl | rfl <;> decide)) (W := 0) (ow106 C.w) (ow107 C.w) (ow108 C.w) (ow25 C.w) (argsL := [(.int cc), (.int (0 : Int32)), (.int (512 : Int32))]) (lenOf pd__III_I rfl) d15_16 fun v3 T3 lo3 X3 hQ3 => ?_
    obtain ⟨rfl, Nq3, e3⟩ := hQ3
    refine sO C X3 d15_19 ?_
    refine sA C X3 d15_20 ?_
    refine cV C X3 e3 (rm_isl l Z a0 hw a cs wf  h0 n0 Z0 Ss Fco) Es (W := 0) (ow56 C.w) (ow57 C.w) (ow59 C.w) (ow58 C.w) (ow60 C.w) (ow25 C.w) (argsL := []) (lenOf pd___Z rfl) d15_21 fun v4 T4 lo4 X4 hQ4 => ?_
    obtain ⟨rfl, Nq4, e4⟩ := hQ4
    refine bN C X4 d15_24 ((if0 _ _).trans (feq (by decide : ¬ ((1 : Int32) = (0 : Int32)))).1) ?_
    refine sA C X4 d15_27 ?_
    refine gF C X4 e4 Fva (ow40 C.w) d15_28 fun T5 X5 e5 => ?_
    refine sI C X5 d15_31 ?_
    refine sI C X5 d15_32 ?_
    refine sA C X5 d15_33 ?_
    refine si C X5 d15_34 ?_
    refine cS C X5 e5 (rm_lgc l Z a0 hw b k (0 : Int32) c0 c1 ac fc cc  h0 n0 Z0 Sv Bc gac hcc) (W := 0) (ow112 C.w) (ow113 C.w) (ow114 C.w) (ow64 C.w) (argsL := [(.ref b), (.int (0 : Int32)), (.int (0 : Int32)), (.ref ac), (.int cc)]) (lenOf pd___BII_CI_V rfl) d15_36 fun v6 T6 lo6 X6 hQ6 => ?_
    obtain ⟨h6, e6⟩ : ∃ h', T6.heap = h' := ⟨_, rfl⟩
    rw [e6] at hQ6
    obtain ⟨rfl, Nq6, Kc6, Sc6, fcN6, Bn6, hcp6⟩ := hQ6
    have KC6 : Keep h0 h6 [ac] := Keep.trans (Keep.refl h0 [ac]) Kc6 (allS (P := fun x => x ∈ ([ac] : List Addr) ∨ h0.size ≤ x) (Or.inl (List.mem_of_getElem? (i := 0) rfl)) all0)
    have SK6 : own_StK Z h0 h6 := (own_StK.refl Z h0).tr Sc6
    refine sG C X6 d15_39 54 ?_
    exact rV C X6 e6 hret d15_54 ⟨rfl, (((((N0.app Nq1).app Nq2).app Nq3).app Nq4).app Nq6), KC6, SK6, _, Bn6, hcp6⟩
  · rw [own_bl1] at Av
    refine sI C X0 d15_0 ?_
    refine sI C X0 d15_1 ?_
    refine sA C X0 d15_2 ?_
    refine cV C X0 e0 (rm_len l Z a0 hw a b k hh hz (1 : Int32) c0 c1 cs wf  h0 n0 Z0 Ss S) Es (W := 2) (ow97 C.w) (ow83 C.w) (ow85 C.w) (ow84 C.w) (ow86 C.w) (ow25 C.w) (argsL := []) (lenOf pd___I rfl) d15_3 fun v7 T7 lo7 X7 hQ7 => ?_
    obtain ⟨rfl, Nq7, e7⟩ := hQ7
    refine cS C X7 e7 (rm_cbe l Z a0 hw (0 : Int32) (1 : Int32) (1 : Int32) cs wf  h0 n0 Z0 Ss (by decide) (by decide) (by decide)) (W := 0) (ow98 C.w) (ow99 C.w) (ow100 C.w) (ow25 C.w) (argsL := [(.int (0 : Int32)), (.int (1 : Int32)), (.int (1 : Int32))]) (lenOf pd__III_V rfl) d15_6 fun v8 T8 lo8 X8 hQ8 => ?_
    obtain ⟨rfl, Nq8, e8⟩ := hQ8
    refine si C X8 d15_9 ?_
    refine sI C X8 d15_11 ?_
    refine sI C X8 d15_12 ?_
    refine sS C X8 d15_13 ?_
    refine sA C X8 d15_14 ?_
    refine fN C X8 e8 Bc d15_15 ?_
    refine cS C X8 e8 (rm_coc l Z a0 hw cc (1 : Int32) (512 : Int32) cs wf  h0 n0 Z0 Ss (by rcases hcc with rfl | rfl | rfl <;> decide) (by rcases hcc with rfl | rfl | rfl <;> decide)) (W := 0) (ow106 C.w) (ow107 C.w) (ow108 C.w) (ow25 C.w) (argsL := [(.int cc), (.int (1 : Int32)), (.int (512 : Int32))]) (lenOf pd__III_I rfl) d15_16 fun v9 T9 lo9 X9 hQ9 => ?_
    obtain ⟨rfl, Nq9, e9⟩ := hQ9
    refine sO C X9 d15_19 ?_
    refine sA C X9 d15_20 ?_
    refine cV C X9 e9 (rm_isl l Z a0 hw a cs wf  h0 n0 Z0 Ss Fco) Es (W := 0) (ow56 C.w) (ow57 C.w) (ow59 C.w) (ow58 C.w) (ow60 C.w) (ow25 C.w) (argsL := []) (lenOf pd___Z rfl) d15_21 fun v10 T10 lo10 X10 hQ10 => ?_
    obtain ⟨rfl, Nq10, e10⟩ := hQ10
    refine bN C X10 d15_24 ((if0 _ _).trans (feq (by decide : ¬ ((1 : Int32) = (0 : Int32)))).1) ?_
    refine sA C X10 d15_27 ?_
    refine gF C X10 e10 Fva (ow40 C.w) d15_28 fun T11 X11 e11 => ?_
    refine sI C X11 d15_31 ?_
    refine sI C X11 d15_32 ?_
    refine sA C X11 d15_33 ?_
    refine si C X11 d15_34 ?_
    refine cS C X11 e11 (rm_lgc l Z a0 hw b k (1 : Int32) c0 c1 ac fc cc  h0 n0 Z0 Sv Bc gac hcc) (W := 0) (ow112 C.w) (ow113 C.w) (ow114 C.w) (ow64 C.w) (argsL := [(.ref b), (.int (0 : Int32)), (.int (1 : Int32)), (.ref ac), (.int cc)]) (lenOf pd___BII_CI_V rfl) d15_36 fun v12 T12 lo12 X12 hQ12 => ?_
    obtain ⟨h12, e12⟩ : ∃ h', T12.heap = h' := ⟨_, rfl⟩
    rw [e12] at hQ12
    obtain ⟨rfl, Nq12, Kc12, Sc12, fcN12, Bn12, hcp12⟩ := hQ12
    have KC12 : Keep h0 h12 [ac] := Keep.trans (Keep.refl h0 [ac]) Kc12 (allS (P := fun x => x ∈ ([ac] : List Addr) ∨ h0.size ≤ x) (Or.inl (List.mem_of_getElem? (i := 0) rfl)) all0)
    have SK12 : own_StK Z h0 h12 := (own_StK.refl Z h0).tr Sc12
    refine sG C X12 d15_39 54 ?_
    exact rV C X12 e12 hret d15_54 ⟨rfl, (((((N0.app Nq7).app Nq8).app Nq9).app Nq10).app Nq12), KC12, SK12, _, Bn12, hcp12⟩
  · rw [own_bl2] at Av
    have E2b := Eb rfl
    refine sI C X0 d15_0 ?_
    refine sI C X0 d15_1 ?_
    refine sA C X0 d15_2 ?_
    refine cV C X0 e0 (rm_len l Z a0 hw a b k hh hz (2 : Int32) c0 c1 cs wf  h0 n0 Z0 Ss S) Es (W := 2) (ow97 C.w) (ow83 C.w) (ow85 C.w) (ow84 C.w) (ow86 C.w) (ow25 C.w) (argsL := []) (lenOf pd___I rfl) d15_3 fun v13 T13 lo13 X13 hQ13 => ?_
    obtain ⟨rfl, Nq13, e13⟩ := hQ13
    refine cS C X13 e13 (rm_cbe l Z a0 hw (0 : Int32) (2 : Int32) (2 : Int32) cs wf  h0 n0 Z0 Ss (by decide) (by decide) (by decide)) (W := 0) (ow98 C.w) (ow99 C.w) (ow100 C.w) (ow25 C.w) (argsL := [(.int (0 : Int32)), (.int (2 : Int32)), (.int (2 : Int32))]) (lenOf pd__III_V rfl) d15_6 fun v14 T14 lo14 X14 hQ14 => ?_
    obtain ⟨rfl, Nq14, e14⟩ := hQ14
    refine si C X14 d15_9 ?_
    refine sI C X14 d15_11 ?_
    refine sI C X14 d15_12 ?_
    refine sS C X14 d15_13 ?_
    refine sA C X14 d15_14 ?_
    refine fN C X14 e14 Bc d15_15 ?_
    refine cS C X14 e14 (rm_coc l Z a0 hw cc (2 : Int32) (512 : Int32) cs wf  h0 n0 Z0 Ss (by rcases hcc with rfl | rfl | rfl <;> decide) (by rcases hcc with rfl | rfl | rfl <;> decide)) (W := 0) (ow106 C.w) (ow107 C.w) (ow108 C.w) (ow25 C.w) (argsL := [(.int cc), (.int (2 : Int32)), (.int (512 : Int32))]) (lenOf pd__III_I rfl) d15_16 fun v15 T15 lo15 X15 hQ15 => ?_
    obtain ⟨rfl, Nq15, e15⟩ := hQ15
    refine sO C X15 d15_19 ?_
    refine sA C X15 d15_20 ?_
    refine cV C X15 e15 (rm_isl l Z a0 hw a cs wf  h0 n0 Z0 Ss Fco) Es (W := 0) (ow56 C.w) (ow57 C.w) (ow59 C.w) (ow58 C.w) (ow60 C.w) (ow25 C.w) (argsL := []) (lenOf pd___Z rfl) d15_21 fun v16 T16 lo16 X16 hQ16 => ?_
    obtain ⟨rfl, Nq16, e16⟩ := hQ16
    refine bN C X16 d15_24 ((if0 _ _).trans (feq (by decide : ¬ ((1 : Int32) = (0 : Int32)))).1) ?_
    refine sA C X16 d15_27 ?_
    refine gF C X16 e16 Fva (ow40 C.w) d15_28 fun T17 X17 e17 => ?_
    refine sI C X17 d15_31 ?_
    refine sI C X17 d15_32 ?_
    refine sA C X17 d15_33 ?_
    refine si C X17 d15_34 ?_
    refine cS C X17 e17 (rm_lgc l Z a0 hw b k (2 : Int32) c0 c1 ac fc cc  h0 n0 Z0 Sv Bc gac hcc) (W := 0) (ow112 C.w) (ow113 C.w) (ow114 C.w) (ow64 C.w) (argsL := [(.ref b), (.int (0 : Int32)), (.int (2 : Int32)), (.ref ac), (.int cc)]) (lenOf pd___BII_CI_V rfl) d15_36 fun v18 T18 lo18 X18 hQ18 => ?_
    obtain ⟨h18, e18⟩ : ∃ h', T18.heap = h' := ⟨_, rfl⟩
    rw [e18] at hQ18
    obtain ⟨rfl, Nq18, Kc18, Sc18, fcN18, Bn18, hcp18⟩ := hQ18
    have KC18 : Keep h0 h18 [ac] := Keep.trans (Keep.refl h0 [ac]) Kc18 (allS (P := fun x => x ∈ ([ac] : List Addr) ∨ h0.size ≤ x) (Or.inl (List.mem_of_getElem? (i := 0) rfl)) all0)
    have SK18 : own_StK Z h0 h18 := (own_StK.refl Z h0).tr Sc18
    refine sG C X18 d15_39 54 ?_
    exact rV C X18 e18 hret d15_54 ⟨rfl, (((((N0.app Nq13).app Nq14).app Nq15).app Nq16).app Nq18), KC18, SK18, _, Bn18, hcp18⟩
theorem d12_0 : decode prog_76_method_11_code 0 = .ok (.aload_n 0, 1) := by decide +kernel
theorem d12_1 : decode prog_76_method_11_code 1 = .ok (.getfield 80, 3) := by decide +kernel
theorem d12_4 : decode prog_76_method_11_code 4 = .ok (.aload_n 1, 1) := by decide +kernel
theorem d12_5 : decode prog_76_method_11_code 5 = .ok (.invokevirtual 91, 3) := by decide +kernel
theorem d12_8 : decode prog_76_method_11_code 8 = .ok (.iadd, 1) := by decide +kernel
theorem d12_9 : decode prog_76_method_11_code 9 = .ok (.aload_n 0, 1) := by decide +kernel
theorem d12_10 : decode prog_76_method_11_code 10 = .ok (.getfield 9, 3) := by decide +kernel
theorem d12_13 : decode prog_76_method_11_code 13 = .ok (.arraylength, 1) := by decide +kernel
theorem d12_14 : decode prog_76_method_11_code 14 = .ok (.if_icmp .le 33, 3) := by decide +kernel
theorem d12_47 : decode prog_76_method_11_code 47 = .ok (.aload_n 0, 1) := by decide +kernel
theorem d12_48 : decode prog_76_method_11_code 48 = .ok (.getfield 23, 3) := by decide +kernel
theorem d12_51 : decode prog_76_method_11_code 51 = .ok (.aload_n 0, 1) := by decide +kernel
theorem d12_52 : decode prog_76_method_11_code 52 = .ok (.getfield 17, 3) := by decide +kernel
theorem d12_55 : decode prog_76_method_11_code 55 = .ok (.arraylength, 1) := by decide +kernel
theorem d12_56 : decode prog_76_method_11_code 56 = .ok (.if_icmp .ne 39, 3) := by decide +kernel
theorem d12_95 : decode prog_76_method_11_code 95 = .ok (.aload_n 1, 1) := by decide +kernel
theorem d12_96 : decode prog_76_method_11_code 96 = .ok (.iconst 0, 1) := by decide +kernel
theorem d12_97 : decode prog_76_method_11_code 97 = .ok (.aload_n 1, 1) := by decide +kernel
theorem d12_98 : decode prog_76_method_11_code 98 = .ok (.invokevirtual 91, 3) := by decide +kernel
theorem d12_101 : decode prog_76_method_11_code 101 = .ok (.aload_n 0, 1) := by decide +kernel
theorem d12_102 : decode prog_76_method_11_code 102 = .ok (.getfield 9, 3) := by decide +kernel
theorem d12_105 : decode prog_76_method_11_code 105 = .ok (.aload_n 0, 1) := by decide +kernel
theorem d12_106 : decode prog_76_method_11_code 106 = .ok (.getfield 80, 3) := by decide +kernel
theorem d12_109 : decode prog_76_method_11_code 109 = .ok (.invokevirtual 110, 3) := by decide +kernel
theorem pd__II_CI_V : parseMethodDescriptor "(II[CI)V" = some ⟨[.int, .int, (.array .char), .int], none⟩ := by decide +kernel
theorem d12_112 : decode prog_76_method_11_code 112 = .ok (.aload_n 0, 1) := by decide +kernel
theorem d12_113 : decode prog_76_method_11_code 113 = .ok (.dup, 1) := by decide +kernel
theorem d12_114 : decode prog_76_method_11_code 114 = .ok (.getfield 80, 3) := by decide +kernel
theorem d12_117 : decode prog_76_method_11_code 117 = .ok (.aload_n 1, 1) := by decide +kernel
theorem d12_118 : decode prog_76_method_11_code 118 = .ok (.invokevirtual 91, 3) := by decide +kernel
theorem d12_121 : decode prog_76_method_11_code 121 = .ok (.iadd, 1) := by decide +kernel
theorem d12_122 : decode prog_76_method_11_code 122 = .ok (.putfield 80, 3) := by decide +kernel
theorem d12_125 : decode prog_76_method_11_code 125 = .ok (.aload_n 0, 1) := by decide +kernel
theorem d12_126 : decode prog_76_method_11_code 126 = .ok (.getfield 17, 3) := by decide +kernel
theorem d12_129 : decode prog_76_method_11_code 129 = .ok (.aload_n 0, 1) := by decide +kernel
theorem d12_130 : decode prog_76_method_11_code 130 = .ok (.getfield 23, 3) := by decide +kernel
theorem d12_133 : decode prog_76_method_11_code 133 = .ok (.iload_n 2, 1) := by decide +kernel
theorem d12_134 : decode prog_76_method_11_code 134 = .ok (.iastore, 1) := by decide +kernel
theorem d12_135 : decode prog_76_method_11_code 135 = .ok (.aload_n 0, 1) := by decide +kernel
theorem d12_136 : decode prog_76_method_11_code 136 = .ok (.dup, 1) := by decide +kernel
theorem d12_137 : decode prog_76_method_11_code 137 = .ok (.getfield 23, 3) := by decide +kernel
theorem d12_140 : decode prog_76_method_11_code 140 = .ok (.iconst 1, 1) := by decide +kernel
theorem d12_141 : decode prog_76_method_11_code 141 = .ok (.iadd, 1) := by decide +kernel
theorem d12_142 : decode prog_76_method_11_code 142 = .ok (.putfield 23, 3) := by decide +kernel
theorem d12_145 : decode prog_76_method_11_code 145 = .ok (.aload_n 0, 1) := by decide +kernel
theorem d12_146 : decode prog_76_method_11_code 146 = .ok (.getfield 13, 3) := by decide +kernel
theorem d12_149 : decode prog_76_method_11_code 149 = .ok (.aload_n 0, 1) := by decide +kernel
theorem d12_150 : decode prog_76_method_11_code 150 = .ok (.getfield 23, 3) := by decide +kernel
theorem d12_153 : decode prog_76_method_11_code 153 = .ok (.aload_n 0, 1) := by decide +kernel
theorem d12_154 : decode prog_76_method_11_code 154 = .ok (.getfield 80, 3) := by decide +kernel
theorem d12_157 : decode prog_76_method_11_code 157 = .ok (.iastore, 1) := by decide +kernel
theorem d12_158 : decode prog_76_method_11_code 158 = .ok (.return_, 1) := by decide +kernel
theorem pn_12 : plainName "com/example/holdback/holdback/util/StringIndex" = true := by first | (simp [plainName, overriddenIn]; done) | decide +kernel
theorem ef_12_RRI (m : MethodId) (y0 : Addr) (y1 : Addr) (y2 : Int32) : entryFrame m #[(.ref y0), (.ref y1), (.int y2)] 3 = mkF m 0 #[.val (.ref y0), .val (.ref y1), .val (.int y2)] [] := by first | (simp [entryFrame, mkF, argsToLocals, Value.category]; done) | rfl
theorem rm_app (l : Launch) (Z : State) (a0 : Array Value) (hw : ∀ d ∈ tables_1, d.before a0 Z = true) (o : Addr) (ac : Addr) (as : Addr) (ah : Addr) (al : Addr) (sz : Int32) (cc : Int32) (fc : Int32 → Int32) (fs : Int32 → Int32) (fh : Int32 → Int32) (fl : Int32 → Int32) (a : Addr) (b : Addr) (k : ClassId) (hh : Int32) (hz : Int32) (n : Int32) (c0 : Int32) (c1 : Int32) (cs : Int32) (wf : Value) (hq : Int32) (h0 : Heap) (n0 : Nat) (Z0 : n0 ≤ h0.size) (Ss : own_St Z h0 cs wf) (Ix : own_Ix Z h0 o ac as ah al sz cc fc fs fh fl) (S : own_Str Z h0 a b k hh hz n c0 c1) (hNe : own_Ne as ah al) (Ge : own_Ge n0 o ac as ah al) (hcc : cc = 0 ∨ cc = 1 ∨ cc = 2) (hsz : sz = 0 ∨ sz = 1) :
    own_Met l (⟨"com/example/holdback/holdback/util/StringIndex", "append", "(Ljava/lang/String;I)V"⟩ : MethodName) prog_76_method_11_code 3 none ({ frames := 3, cells := 0, slots := 0, locals := 49 } : Room) Z h0 #[(.ref o), (.ref a), (.int hq)] (fun v h L => v = none ∧ Fr n0 L ∧ Keep h0 h [o, ac, as, ah] ∧ own_StK Z h0 h ∧ ∃ fc' fs' fh', own_Ix Z h o ac as ah al (sz + 1) (cc + n) fc' fs' fh' fl ∧ (cc = 0 → (¬ n = 0 → fc' 0 = c0) ∧ (n = 2 → fc' 1 = c1)) ∧ fs' 0 = fs 0 ∧ (sz = 0 → fs' 1 = cc + n ∧ fh' 0 = hq)) := by
  refine own_go hw (plainFor_of_name pn_12) (fun m => ef_12_RRI m o a hq) fun p e s m below meth c T0 C hret X0 e0 => ?_
  have N0 := Fr.nil n0
  obtain ⟨Sco, hcs, Sfo, hwf⟩ := id Ss
  obtain ⟨Es, Fco, Fva, Fha, Fhz, Sv, hh1, hz1⟩ := id S
  obtain ⟨Av, Eb, hok⟩ := id Sv
  obtain ⟨Eo, Fch, Fst, Fhs, Fsl, Fsz, Fcc, Bc, Bs, Bh, Bl⟩ := id Ix
  refine sA C X0 d12_0 ?_
  refine gF C X0 e0 Fcc (ow80 C.w) d12_1 fun T1 X1 e1 => ?_
  refine sA C X1 d12_4 ?_
  refine cV C X1 e1 (rm_len l Z a0 hw a b k hh hz n c0 c1 cs wf  h0 n0 Z0 Ss S) Es (W := 1) (ow82 C.w) (ow83 C.w) (ow85 C.w) (ow84 C.w) (ow86 C.w) (ow25 C.w) (argsL := []) (lenOf pd___I rfl) d12_5 fun v2 T2 lo2 X2 hQ2 => ?_
  obtain ⟨rfl, Nq2, e2⟩ := hQ2
  refine sP C X2 d12_8 ?_
  refine sA C X2 d12_9 ?_
  refine gF C X2 e2 Fch (ow10 C.w) d12_10 fun T3 X3 e3 => ?_
  refine fN C X3 e3 Bc d12_13 ?_
  refine cY C X3 d12_14 47 ((flt (by rcases hcc with rfl | rfl | rfl <;> rcases hok.1 with rfl | rfl | rfl <;> decide)).2.2.2) ?_
  refine sA C X3 d12_47 ?_
  refine gF C X3 e3 Fsz (ow74 C.w) d12_48 fun T4 X4 e4 => ?_
  refine sA C X4 d12_51 ?_
  refine gF C X4 e4 Fhs (ow15 C.w) d12_52 fun T5 X5 e5 => ?_
  refine fN C X5 e5 Bh d12_55 ?_
  refine cY C X5 d12_56 95 ((feq (by rcases hsz with rfl | rfl <;> decide)).2) ?_
  refine sA C X5 d12_95 ?_
  refine sC C X5 d12_96 ?_
  refine sA C X5 d12_97 ?_
  refine cV C X5 e5 (rm_len l Z a0 hw a b k hh hz n c0 c1 cs wf  h0 n0 Z0 Ss S) Es (W := 2) (ow82 C.w) (ow83 C.w) (ow85 C.w) (ow84 C.w) (ow86 C.w) (ow25 C.w) (argsL := []) (lenOf pd___I rfl) d12_98 fun v6 T6 lo6 X6 hQ6 => ?_
  obtain ⟨rfl, Nq6, e6⟩ := hQ6
  refine sA C X6 d12_101 ?_
  refine gF C X6 e6 Fch (ow10 C.w) d12_102 fun T7 X7 e7 => ?_
  refine sA C X7 d12_105 ?_
  refine gF C X7 e7 Fcc (ow80 C.w) d12_106 fun T8 X8 e8 => ?_
  have SR9 : own_Str Z h0 a b k hh hz n c0 c1 := ⟨Es, Fco, Fva, Fha, Fhz, ⟨Av, Eb, hok⟩, hh1, hz1⟩
  refine cV C X8 e8 (rm_sgc l Z a0 hw a b k hh hz n c0 c1 cs wf ac fc cc  h0 n0 Z0 Ss SR9 Bc Ge.2.1 hcc) Es (W := 0) (ow92 C.w) (ow93 C.w) (ow95 C.w) (ow94 C.w) (ow96 C.w) (ow25 C.w) (argsL := [(.int (0 : Int32)), (.int n), (.ref ac), (.int cc)]) (lenOf pd__II_CI_V rfl) d12_109 fun v10 T10 lo10 X10 hQ10 => ?_
  obtain ⟨h10, e10⟩ : ∃ h', T10.heap = h' := ⟨_, rfl⟩
  rw [e10] at hQ10
  obtain ⟨rfl, Nq10, Kc10, Sc10, fcN10, Bn10, hcp10⟩ := hQ10
  have KC10 : Keep h0 h10 [o, ac, as, ah] := Keep.trans (Keep.refl h0 [o, ac, as, ah]) Kc10 (allS (P := fun x => x ∈ ([o, ac, as, ah] : List Addr) ∨ h0.size ≤ x) (Or.inl (List.mem_of_getElem? (i := 1) rfl)) all0)
  have SK10 : own_StK Z h0 h10 := (own_StK.refl Z h0).tr Sc10
  refine sA C X10 d12_112 ?_
  refine sD C X10 d12_113 ?_
  have ne_o_ac : o ≠ ac := (own_Fa.neE Eo Bc (ow1 C.w))
  have f11 := (Fcc.keep Kc10 (ninS ne_o_ac nin0))
  refine gF C X10 e10 f11 (ow80 C.w) d12_114 fun T12 X12 e12 => ?_
  refine sA C X12 d12_117 ?_
  have f13 := (Es.keep Kc10)
  have ne_a_ac : a ≠ ac := (own_Fa.neE Es Bc (ow24 C.w))
  have f14 := (Fco.keep Kc10 (ninS ne_a_ac nin0))
  have f15 := (Fva.keep Kc10 (ninS ne_a_ac nin0))
  have f16 := (Fha.keep Kc10 (ninS ne_a_ac nin0))
  have f17 := (Fhz.keep Kc10 (ninS ne_a_ac nin0))
  have ne_b_ac : b ≠ ac := (own_Fa.neV Av Bc (by decide))
  have f19 := (Av.keep Kc10 (ninS ne_b_ac nin0))
  have SR18 : own_Str Z h10 a b k hh hz n c0 c1 := ⟨f13, f14, f15, f16, f17, ⟨f19, (fun q => (Eb q).keep Kc10), hok⟩, hh1, hz1⟩
  refine cV C X12 e12 (rm_len l Z a0 hw a b k hh hz n c0 c1 cs wf  h10 n0 (Nat.le_trans Z0 KC10.1) (Ss.k SK10) SR18) f13 (W := 2) (ow82 C.w) (ow83 C.w) (ow85 C.w) (ow84 C.w) (ow86 C.w) (ow25 C.w) (argsL := []) (lenOf pd___I rfl) d12_118 fun v20 T20 lo20 X20 hQ20 => ?_
  obtain ⟨rfl, Nq20, e20⟩ := hQ20
  refine sP C X20 d12_121 ?_
  have f21 := (Eo.keep Kc10)
  refine pN C X20 e20 ((((N0.app Nq2).app Nq6).app Nq10).app Nq20) Ge.1 f11 f21 (ow80 C.w) (Or.inl (ow81 C.w)) (ow1 C.w) (ty := .int) (v' := (.int (cc + n))) (by decide) rfl rfl d12_122 fun T22 h22 lo22 X22 e22 N22 W22 F22 => ?_
  have KC22 : Keep h0 h22 [o, ac, as, ah] := KC10.wr W22 (Or.inl (List.mem_of_getElem? (i := 0) rfl))
  have SK22 : own_StK Z h0 h22 := SK10.wr W22
  refine sA C X22 d12_125 ?_
  have f23 := (Fld.other W22 (Fhs.keep Kc10 (ninS ne_o_ac nin0)) (Or.inr (slot_ne (Or.inl (ow16 C.w)) (Or.inl (ow81 C.w)) (by decide) (t := (.array .int)) (t' := .int) (by decide) (by decide))))
  refine gF C X22 e22 f23 (ow15 C.w) d12_126 fun T24 X24 e24 => ?_
  refine sA C X24 d12_129 ?_
  have f25 := (Fld.other W22 (Fsz.keep Kc10 (ninS ne_o_ac nin0)) (Or.inr (slot_ne (Or.inl (ow75 C.w)) (Or.inl (ow81 C.w)) (by decide) (t := .int) (t' := .int) (by decide) (by decide))))
  refine gF C X24 e24 f25 (ow74 C.w) d12_130 fun T26 X26 e26 => ?_
  refine sI C X26 d12_133 ?_
  have ne_ah_ac : ah ≠ ac := (own_Fa.neT Bh Bc (by decide))
  have ne_ah_o : ah ≠ o := (Ne.symm (own_Fa.neE Eo Bh (ow1 C.w)))
  have f27 := ((Bh.keep Kc10 (ninS ne_ah_ac nin0)).other W22 ne_ah_o)
  refine xI C X26 e26 N22 Ge.2.2.2.1 f27 (by rcases hsz with rfl | rfl <;> decide) d12_134 fun T28 h28 lo28 X28 e28 N28 W28 V28 => ?_
  have KC28 : Keep h0 h28 [o, ac, as, ah] := KC22.wr W28 (Or.inl (List.mem_of_getElem? (i := 3) rfl))
  have SK28 : own_StK Z h0 h28 := SK22.wr W28
  refine sA C X28 d12_135 ?_
  refine sD C X28 d12_136 ?_
  have f29 := (Fld.other W28 f25 (Or.inl (Ne.symm ne_ah_o)))
  refine gF C X28 e28 f29 (ow74 C.w) d12_137 fun T30 X30 e30 => ?_
  refine sC C X30 d12_140 ?_
  refine sP C X30 d12_141 ?_
  have f31 := (Exa.wr W28 (Exa.wr W22 f21))
  refine pN C X30 e30 N28 Ge.1 f29 f31 (ow74 C.w) (Or.inl (ow75 C.w)) (ow1 C.w) (ty := .int) (v' := (.int (sz + (1 : Int32)))) (by decide) rfl rfl d12_142 fun T32 h32 lo32 X32 e32 N32 W32 F32 => ?_
  have KC32 : Keep h0 h32 [o, ac, as, ah] := KC28.wr W32 (Or.inl (List.mem_of_getElem? (i := 0) rfl))
  have SK32 : own_StK Z h0 h32 := SK28.wr W32
  refine sA C X32 d12_145 ?_
  have f33 := (Fld.other W32 (Fld.other W28 (Fld.other W22 (Fst.keep Kc10 (ninS ne_o_ac nin0)) (Or.inr (slot_ne (Or.inl (ow14 C.w)) (Or.inl (ow81 C.w)) (by decide) (t := (.array .int)) (t' := .int) (by decide) (by decide)))) (Or.inl (Ne.symm ne_ah_o))) (Or.inr (slot_ne (Or.inl (ow14 C.w)) (Or.inl (ow75 C.w)) (by decide) (t := (.array .int)) (t' := .int) (by decide) (by decide))))
  refine gF C X32 e32 f33 (ow13 C.w) d12_146 fun T34 X34 e34 => ?_
  refine sA C X34 d12_149 ?_
  refine gF C X34 e34 F32 (ow74 C.w) d12_150 fun T35 X35 e35 => ?_
  refine sA C X35 d12_153 ?_
  have f36 := (Fld.other W32 (Fld.other W28 F22 (Or.inl (Ne.symm ne_ah_o))) (Or.inr (slot_ne (Or.inl (ow81 C.w)) (Or.inl (ow75 C.w)) (by decide) (t := .int) (t' := .int) (by decide) (by decide))))
  refine gF C X35 e35 f36 (ow80 C.w) d12_154 fun T37 X37 e37 => ?_
  have ne_as_ac : as ≠ ac := (own_Fa.neT Bs Bc (by decide))
  have ne_as_o : as ≠ o := (Ne.symm (own_Fa.neE Eo Bs (ow1 C.w)))
  have f38 := ((((Bs.keep Kc10 (ninS ne_as_ac nin0)).other W22 ne_as_o).other W28 hNe.1).other W32 ne_as_o)
  refine xI C X37 e37 N32 Ge.2.2.1 f38 (by rcases hsz with rfl | rfl <;> decide) d12_157 fun T39 h39 lo39 X39 e39 N39 W39 V39 => ?_
  have KC39 : Keep h0 h39 [o, ac, as, ah] := KC32.wr W39 (Or.inl (List.mem_of_getElem? (i := 2) rfl))
  have SK39 : own_StK Z h0 h39 := SK32.wr W39
  have f40 := (Exa.wr W39 (Exa.wr W32 f31))
  have f41 := (Fld.other W39 (Fld.other W32 (Fld.other W28 (Fld.other W22 (Fch.keep Kc10 (ninS ne_o_ac nin0)) (Or.inr (slot_ne (Or.inl (ow11 C.w)) (Or.inl (ow81 C.w)) (by decide) (t := (.array .char)) (t' := .int) (by decide) (by decide)))) (Or.inl (Ne.symm ne_ah_o))) (Or.inr (slot_ne (Or.inl (ow11 C.w)) (Or.inl (ow75 C.w)) (by decide) (t := (.array .char)) (t' := .int) (by decide) (by decide)))) (Or.inl (Ne.symm ne_as_o)))
  have f42 := (Fld.other W39 f33 (Or.inl (Ne.symm ne_as_o)))
  have f43 := (Fld.other W39 (Fld.other W32 (Fld.other W28 f23 (Or.inl (Ne.symm ne_ah_o))) (Or.inr (slot_ne (Or.inl (ow16 C.w)) (Or.inl (ow75 C.w)) (by decide) (t := (.array .int)) (t' := .int) (by decide) (by decide)))) (Or.inl (Ne.symm ne_as_o)))
  have f44 := (Fld.other W39 (Fld.other W32 (Fld.other W28 (Fld.other W22 (Fsl.keep Kc10 (ninS ne_o_ac nin0)) (Or.inr (slot_ne (Or.inl (ow18 C.w)) (Or.inl (ow81 C.w)) (by decide) (t := (.array .int)) (t' := .int) (by decide) (by decide)))) (Or.inl (Ne.symm ne_ah_o))) (Or.inr (slot_ne (Or.inl (ow18 C.w)) (Or.inl (ow75 C.w)) (by decide) (t := (.array .int)) (t' := .int) (by decide) (by decide)))) (Or.inl (Ne.symm ne_as_o)))
  have f45 := (Fld.other W39 F32 (Or.inl (Ne.symm ne_as_o)))
  have f46 := (Fld.other W39 f36 (Or.inl (Ne.symm ne_as_o)))
  have f47 := ((((Bn10.other W22 (Ne.symm ne_o_ac)).other W28 (Ne.symm ne_ah_ac)).other W32 (Ne.symm ne_o_ac)).other W39 (Ne.symm ne_as_ac))
  have f48 := ((V28.other W32 ne_ah_o).other W39 (Ne.symm hNe.1))
  have ne_al_ac : al ≠ ac := (own_Fa.neT Bl Bc (by decide))
  have ne_al_o : al ≠ o := (Ne.symm (own_Fa.neE Eo Bl (ow1 C.w)))
  have f49 := (((((Bl.keep Kc10 (ninS ne_al_ac nin0)).other W22 ne_al_o).other W28 (Ne.symm hNe.2.2)).other W32 ne_al_o).other W39 (Ne.symm hNe.2.1))
  have IX50 : own_Ix Z h39 o ac as ah al (sz + (1 : Int32)) (cc + n) fcN10 (fun i => if i = (sz + (1 : Int32)) then (cc + n) else fs i) (fun i => if i = sz then hq else fh i) fl := ⟨f40, f41, f42, f43, f44, f45, f46, f47, V39, f48, f49⟩
  exact rV C X39 e39 hret d12_158 ⟨rfl, N39, KC39, SK39, _, _, _, IX50, hcp10, (by rcases hsz with rfl | rfl <;> rfl), (fun q => by subst q; exact ⟨rfl, rfl⟩)⟩
theorem d6_0 : decode prog_76_method_7_code 0 = .ok (.aload_n 1, 1) := by decide +kernel
theorem d6_1 : decode prog_76_method_7_code 1 = .ok (.invokevirtual 57, 3) := by decide +kernel
theorem d6_4 : decode prog_76_method_7_code 4 = .ok (.istore_n 2, 1) := by decide +kernel
theorem d6_5 : decode prog_76_method_7_code 5 = .ok (.aload_n 0, 1) := by decide +kernel
theorem d6_6 : decode prog_76_method_7_code 6 = .ok (.aload_n 1, 1) := by decide +kernel
theorem d6_7 : decode prog_76_method_7_code 7 = .ok (.iload_n 2, 1) := by decide +kernel
theorem d6_8 : decode prog_76_method_7_code 8 = .ok (.invokevirtual 62, 3) := by decide +kernel
theorem pd__Ljava_lang_String_I_I : parseMethodDescriptor "(Ljava/lang/String;I)I" = some ⟨[(.object "java/lang/String"), .int], some .int⟩ := by decide +kernel
theorem d6_11 : decode prog_76_method_7_code 11 = .ok (.istore_n 3, 1) := by decide +kernel
theorem d6_12 : decode prog_76_method_7_code 12 = .ok (.aload_n 0, 1) := by decide +kernel
theorem d6_13 : decode prog_76_method_7_code 13 = .ok (.getfield 20, 3) := by decide +kernel
theorem d6_16 : decode prog_76_method_7_code 16 = .ok (.iload_n 3, 1) := by decide +kernel
theorem d6_17 : decode prog_76_method_7_code 17 = .ok (.iaload, 1) := by decide +kernel
theorem d6_18 : decode prog_76_method_7_code 18 = .ok (.ifCond .eq 5, 3) := by decide +kernel
theorem d6_23 : decode prog_76_method_7_code 23 = .ok (.aload_n 0, 1) := by decide +kernel
theorem d6_24 : decode prog_76_method_7_code 24 = .ok (.getfield 23, 3) := by decide +kernel
theorem d6_27 : decode prog_76_method_7_code 27 = .ok (.istore 4, 2) := by decide +kernel
theorem d6_29 : decode prog_76_method_7_code 29 = .ok (.aload_n 0, 1) := by decide +kernel
theorem d6_30 : decode prog_76_method_7_code 30 = .ok (.aload_n 1, 1) := by decide +kernel
theorem d6_31 : decode prog_76_method_7_code 31 = .ok (.iload_n 2, 1) := by decide +kernel
theorem d6_32 : decode prog_76_method_7_code 32 = .ok (.invokevirtual 66, 3) := by decide +kernel
theorem pd__Ljava_lang_String_I_V : parseMethodDescriptor "(Ljava/lang/String;I)V" = some ⟨[(.object "java/lang/String"), .int], none⟩ := by decide +kernel
theorem d6_35 : decode prog_76_method_7_code 35 = .ok (.aload_n 0, 1) := by decide +kernel
theorem d6_36 : decode prog_76_method_7_code 36 = .ok (.getfield 20, 3) := by decide +kernel
theorem d6_39 : decode prog_76_method_7_code 39 = .ok (.iload_n 3, 1) := by decide +kernel
theorem d6_40 : decode prog_76_method_7_code 40 = .ok (.iload 4, 2) := by decide +kernel
theorem d6_42 : decode prog_76_method_7_code 42 = .ok (.iconst 1, 1) := by decide +kernel
theorem d6_43 : decode prog_76_method_7_code 43 = .ok (.iadd, 1) := by decide +kernel
theorem d6_44 : decode prog_76_method_7_code 44 = .ok (.iastore, 1) := by decide +kernel
theorem d6_45 : decode prog_76_method_7_code 45 = .ok (.aload_n 0, 1) := by decide +kernel
theorem d6_46 : decode prog_76_method_7_code 46 = .ok (.getfield 23, 3) := by decide +kernel
theorem d6_49 : decode prog_76_method_7_code 49 = .ok (.iconst 2, 1) := by decide +kernel
theorem d6_50 : decode prog_76_method_7_code 50 = .ok (.imul, 1) := by decide +kernel
theorem d6_51 : decode prog_76_method_7_code 51 = .ok (.aload_n 0, 1) := by decide +kernel
theorem d6_52 : decode prog_76_method_7_code 52 = .ok (.getfield 20, 3) := by decide +kernel
theorem d6_55 : decode prog_76_method_7_code 55 = .ok (.arraylength, 1) := by decide +kernel
theorem d6_56 : decode prog_76_method_7_code 56 = .ok (.if_icmp .le 14, 3) := by decide +kernel
theorem d6_70 : decode prog_76_method_7_code 70 = .ok (.iload 4, 2) := by decide +kernel
theorem d6_72 : decode prog_76_method_7_code 72 = .ok (.ireturn, 1) := by decide +kernel
theorem d6_21 : decode prog_76_method_7_code 21 = .ok (.iconst (-1), 1) := by decide +kernel
theorem d6_22 : decode prog_76_method_7_code 22 = .ok (.ireturn, 1) := by decide +kernel
theorem pn_6 : plainName "com/example/holdback/holdback/util/StringIndex" = true := by first | (simp [plainName, overriddenIn]; done) | decide +kernel
theorem ef_6_RR (m : MethodId) (y0 : Addr) (y1 : Addr) : entryFrame m #[(.ref y0), (.ref y1)] 5 = mkF m 0 #[.val (.ref y0), .val (.ref y1), .unset, .unset, .unset] [] := by first | (simp [entryFrame, mkF, argsToLocals, Value.category]; done) | rfl
theorem rm_add (l : Launch) (Z : State) (a0 : Array Value) (hw : ∀ d ∈ tables_1, d.before a0 Z = true) (o : Addr) (ac : Addr) (as : Addr) (ah : Addr) (al : Addr) (sz : Int32) (cc : Int32) (fc : Int32 → Int32) (fs : Int32 → Int32) (fh : Int32 → Int32) (fl : Int32 → Int32) (a : Addr) (b : Addr) (k : ClassId) (hh : Int32) (hz : Int32) (n : Int32) (c0 : Int32) (c1 : Int32) (cs : Int32) (wf : Value) (h0 : Heap) (n0 : Nat) (Z0 : n0 ≤ h0.size) (Ss : own_St Z h0 cs wf) (Ix : own_Ix Z h0 o ac as ah al sz cc fc fs fh fl) (S : own_Str Z h0 a b k hh hz n c0 c1) (hNe : own_Ne as ah al) (Ge : own_Ge n0 o ac as ah al) (ga : n0 ≤ a) (hcc : cc = 0 ∨ cc = 1 ∨ cc = 2) (hsz : sz = 0 ∨ sz = 1) (hs0 : fs (0 : Int32) = 0) (hq0 : fl ((own_sp (own_hs n c0 c1)) &&& (127 : Int32)) = 0 ∨ (fl ((own_sp (own_hs n c0 c1)) &&& (127 : Int32)) = 1 ∧ fl ((((own_sp (own_hs n c0 c1)) &&& (127 : Int32)) + (1 : Int32)) &&& (127 : Int32)) = 0)) :
    own_Met l (⟨"com/example/holdback/holdback/util/StringIndex", "add", "(Ljava/lang/String;)I"⟩ : MethodName) prog_76_method_7_code 5 (some .int) ({ frames := 6, cells := 0, slots := 0, locals := 87 } : Room) Z h0 #[(.ref o), (.ref a)] (fun v h L => ((v = some (.int (-1)) ∧ ¬ fl (own_fd ((own_sp (own_hs n c0 c1)) &&& (127 : Int32)) (fl ((own_sp (own_hs n c0 c1)) &&& (127 : Int32))) (fh (0 : Int32)) (own_hs n c0 c1) (own_e (fs (1 : Int32)) (fc (0 : Int32)) (fc (1 : Int32)) n c0 c1)) = 0 ∧ own_Ix Z h o ac as ah al sz cc fc fs fh fl) ∨ (v = some (.int sz) ∧ fl (own_fd ((own_sp (own_hs n c0 c1)) &&& (127 : Int32)) (fl ((own_sp (own_hs n c0 c1)) &&& (127 : Int32))) (fh (0 : Int32)) (own_hs n c0 c1) (own_e (fs (1 : Int32)) (fc (0 : Int32)) (fc (1 : Int32)) n c0 c1)) = 0 ∧ ∃ fc' fs' fh' fl', own_Ix Z h o ac as ah al (sz + 1) (cc + n) fc' fs' fh' fl' ∧ (cc = 0 → (¬ n = 0 → fc' 0 = c0) ∧ (n = 2 → fc' 1 = c1)) ∧ fs' 0 = 0 ∧ (sz = 0 → fs' 1 = cc + n ∧ fh' 0 = (own_hs n c0 c1)) ∧ fl' (own_fd ((own_sp (own_hs n c0 c1)) &&& (127 : Int32)) (fl ((own_sp (own_hs n c0 c1)) &&& (127 : Int32))) (fh (0 : Int32)) (own_hs n c0 c1) (own_e (fs (1 : Int32)) (fc (0 : Int32)) (fc (1 : Int32)) n c0 c1)) = sz + 1 ∧ ∀ i, ¬ i = (own_fd ((own_sp (own_hs n c0 c1)) &&& (127 : Int32)) (fl ((own_sp (own_hs n c0 c1)) &&& (127 : Int32))) (fh (0 : Int32)) (own_hs n c0 c1) (own_e (fs (1 : Int32)) (fc (0 : Int32)) (fc (1 : Int32)) n c0 c1)) → fl' i = fl i)) ∧ Fr n0 L ∧ Keep h0 h [o, ac, as, ah, al, a] ∧ own_StK Z h0 h ∧ ∃ hh' hz', own_Str Z h a b k hh' hz' n c0 c1) := by
  refine own_go hw (plainFor_of_name pn_6) (fun m => ef_6_RR m o a) fun p e s m below meth c T0 C hret X0 e0 => ?_
  have N0 := Fr.nil n0
  obtain ⟨Sco, hcs, Sfo, hwf⟩ := id Ss
  obtain ⟨Es, Fco, Fva, Fha, Fhz, Sv, hh1, hz1⟩ := id S
  obtain ⟨Av, Eb, hok⟩ := id Sv
  obtain ⟨Eo, Fch, Fst, Fhs, Fsl, Fsz, Fcc, Bc, Bs, Bh, Bl⟩ := id Ix
  refine sA C X0 d6_0 ?_
  refine cV C X0 e0 (rm_shash l Z a0 hw a b k hh hz n c0 c1 cs wf  h0 n0 Z0 Ss S ga) Es (W := 0) (ow47 C.w) (ow48 C.w) (ow50 C.w) (ow49 C.w) (ow51 C.w) (ow25 C.w) (argsL := []) (lenOf pd___I rfl) d6_1 fun v1 T1 lo1 X1 hQ1 => ?_
  obtain ⟨h1, e1⟩ : ∃ h', T1.heap = h' := ⟨_, rfl⟩
  rw [e1] at hQ1
  obtain ⟨rfl, Nq1, Kc1, Sc1, hhN1, hzN1, SN1⟩ := hQ1
  have KC1 : Keep h0 h1 [o, ac, as, ah, al, a] := Keep.trans (Keep.refl h0 [o, ac, as, ah, al, a]) Kc1 (allS (P := fun x => x ∈ ([o, ac, as, ah, al, a] : List Addr) ∨ h0.size ≤ x) (Or.inl (List.mem_of_getElem? (i := 5) rfl)) all0)
  have SK1 : own_StK Z h0 h1 := (own_StK.refl Z h0).tr Sc1
  obtain ⟨Es_1, Fco_1, Fva_1, Fha_1, Fhz_1, Sv_1, hh1_1, hz1_1⟩ := id SN1
  obtain ⟨Av_1, Eb_1, hok_1⟩ := id Sv_1
  refine wI C X1 #[.val (.ref o), .val (.ref a), .val (.int (own_hs n c0 c1)), .unset, .unset] d6_4 ?_
  refine sA C X1 d6_5 ?_
  refine sA C X1 d6_6 ?_
  refine sI C X1 d6_7 ?_
  have f2 := (Eo.keep Kc1)
  have ne_o_a : o ≠ a := (Exa.ne Eo Es (by decide))
  have f3 := (Fch.keep Kc1 (ninS ne_o_a nin0))
  have f4 := (Fst.keep Kc1 (ninS ne_o_a nin0))
  have f5 := (Fhs.keep Kc1 (ninS ne_o_a nin0))
  have f6 := (Fsl.keep Kc1 (ninS ne_o_a nin0))
  have f7 := (Fsz.keep Kc1 (ninS ne_o_a nin0))
  have f8 := (Fcc.keep Kc1 (ninS ne_o_a nin0))
  have ne_ac_a : ac ≠ a := (Ne.symm (own_Fa.neE Es Bc (ow24 C.w)))
  have f9 := (Bc.keep Kc1 (ninS ne_ac_a nin0))
  have ne_as_a : as ≠ a := (Ne.symm (own_Fa.neE Es Bs (ow24 C.w)))
  have f10 := (Bs.keep Kc1 (ninS ne_as_a nin0))
  have ne_ah_a : ah ≠ a := (Ne.symm (own_Fa.neE Es Bh (ow24 C.w)))
  have f11 := (Bh.keep Kc1 (ninS ne_ah_a nin0))
  have ne_al_a : al ≠ a := (Ne.symm (own_Fa.neE Es Bl (ow24 C.w)))
  have f12 := (Bl.keep Kc1 (ninS ne_al_a nin0))
  have IX13 : own_Ix Z h1 o ac as ah al sz cc fc fs fh fl := ⟨f2, f3, f4, f5, f6, f7, f8, f9, f10, f11, f12⟩
  have SR14 : own_Str Z h1 a b k hhN1 hzN1 n c0 c1 := ⟨Es_1, Fco_1, Fva_1, Fha_1, Fhz_1, ⟨Av_1, Eb_1, hok_1⟩, hh1_1, hz1_1⟩
  refine cP C X1 e1 (rm_find l Z a0 hw o ac as ah al sz cc fc fs fh fl a b k hhN1 hzN1 n c0 c1 cs wf (own_hs n c0 c1)  h1 n0 (Nat.le_trans Z0 KC1.1) (Ss.k SK1) IX13 SR14 hs0 hq0) f2 (W := 0) (ow66 C.w) (ow67 C.w) (own_selp (x := (⟨"com/example/holdback/holdback/util/StringIndex", "add", "(Ljava/lang/String;)I"⟩ : MethodName)) rfl (mvT (args := #[]) C.z (ow45 C.w)) (Cond.privateMethod_at (mvP C.z (ow68 C.w) (args := #[]))) (mvT C.z (ow67 C.w)) (by decide)) (ow68 C.w) (ow69 C.w) (ow2 C.w) (argsL := [(.ref a), (.int (own_hs n c0 c1))]) (lenOf pd__Ljava_lang_String_I_I rfl) d6_8 fun v15 T15 lo15 X15 hQ15 => ?_
  obtain ⟨rfl, Nq15, e15⟩ := hQ15
  refine wI C X15 #[.val (.ref o), .val (.ref a), .val (.int (own_hs n c0 c1)), .val (.int (own_fd ((own_sp (own_hs n c0 c1)) &&& (127 : Int32)) (fl ((own_sp (own_hs n c0 c1)) &&& (127 : Int32))) (fh (0 : Int32)) (own_hs n c0 c1) (own_e (fs (1 : Int32)) (fc (0 : Int32)) (fc (1 : Int32)) n c0 c1))), .unset] d6_11 ?_
  refine sA C X15 d6_12 ?_
  refine gF C X15 e15 f6 (ow17 C.w) d6_13 fun T16 X16 e16 => ?_
  refine sI C X16 d6_16 ?_
  refine fI C X16 e16 f12 (own_fdr _ _ _ _ _) d6_17 ?_
  by_cases hb18_17 : (fl (own_fd ((own_sp (own_hs n c0 c1)) &&& (127 : Int32)) (fl ((own_sp (own_hs n c0 c1)) &&& (127 : Int32))) (fh (0 : Int32)) (own_hs n c0 c1) (own_e (fs (1 : Int32)) (fc (0 : Int32)) (fc (1 : Int32)) n c0 c1))) = (0 : Int32)
  · refine bY C X16 d6_18 23 ((if0 _ _).trans (teq hb18_17).1) ?_
    refine sA C X16 d6_23 ?_
    refine gF C X16 e16 f7 (ow74 C.w) d6_24 fun T18 X18 e18 => ?_
    refine wi C X18 #[.val (.ref o), .val (.ref a), .val (.int (own_hs n c0 c1)), .val (.int (own_fd ((own_sp (own_hs n c0 c1)) &&& (127 : Int32)) (fl ((own_sp (own_hs n c0 c1)) &&& (127 : Int32))) (fh (0 : Int32)) (own_hs n c0 c1) (own_e (fs (1 : Int32)) (fc (0 : Int32)) (fc (1 : Int32)) n c0 c1))), .val (.int sz)] d6_27 ?_
    refine sA C X18 d6_29 ?_
    refine sA C X18 d6_30 ?_
    refine sI C X18 d6_31 ?_
    have IX19 : own_Ix Z h1 o ac as ah al sz cc fc fs fh fl := ⟨f2, f3, f4, f5, f6, f7, f8, f9, f10, f11, f12⟩
    have SR20 : own_Str Z h1 a b k hhN1 hzN1 n c0 c1 := ⟨Es_1, Fco_1, Fva_1, Fha_1, Fhz_1, ⟨Av_1, Eb_1, hok_1⟩, hh1_1, hz1_1⟩
    refine cP C X18 e18 (rm_app l Z a0 hw o ac as ah al sz cc fc fs fh fl a b k hhN1 hzN1 n c0 c1 cs wf (own_hs n c0 c1)  h1 n0 (Nat.le_trans Z0 KC1.1) (Ss.k SK1) IX19 SR20 hNe Ge hcc hsz) f2 (W := 0) (ow76 C.w) (ow77 C.w) (own_selp (x := (⟨"com/example/holdback/holdback/util/StringIndex", "add", "(Ljava/lang/String;)I"⟩ : MethodName)) rfl (mvT (args := #[]) C.z (ow45 C.w)) (Cond.privateMethod_at (mvP C.z (ow78 C.w) (args := #[]))) (mvT C.z (ow77 C.w)) (by decide)) (ow78 C.w) (ow79 C.w) (ow2 C.w) (argsL := [(.ref a), (.int (own_hs n c0 c1))]) (lenOf pd__Ljava_lang_String_I_V rfl) d6_32 fun v21 T21 lo21 X21 hQ21 => ?_
    obtain ⟨h21, e21⟩ : ∃ h', T21.heap = h' := ⟨_, rfl⟩
    rw [e21] at hQ21
    obtain ⟨rfl, Nq21, Kc21, Sc21, fcA21, fsA21, fhA21, IA21, cp21, q121, q221⟩ := hQ21
    have KC21 : Keep h0 h21 [o, ac, as, ah, al, a] := Keep.trans KC1 Kc21 (allS (P := fun x => x ∈ ([o, ac, as, ah, al, a] : List Addr) ∨ h0.size ≤ x) (Or.inl (List.mem_of_getElem? (i := 0) rfl)) (allS (P := fun x => x ∈ ([o, ac, as, ah, al, a] : List Addr) ∨ h0.size ≤ x) (Or.inl (List.mem_of_getElem? (i := 1) rfl)) (allS (P := fun x => x ∈ ([o, ac, as, ah, al, a] : List Addr) ∨ h0.size ≤ x) (Or.inl (List.mem_of_getElem? (i := 2) rfl)) (allS (P := fun x => x ∈ ([o, ac, as, ah, al, a] : List Addr) ∨ h0.size ≤ x) (Or.inl (List.mem_of_getElem? (i := 3) rfl)) all0))))
    have SK21 : own_StK Z h0 h21 := SK1.tr Sc21
    obtain ⟨Eo_21, Fch_21, Fst_21, Fhs_21, Fsl_21, Fsz_21, Fcc_21, Bc_21, Bs_21, Bh_21, Bl_21⟩ := id IA21
    refine sA C X21 d6_35 ?_
    refine gF C X21 e21 Fsl_21 (ow17 C.w) d6_36 fun T22 X22 e22 => ?_
    refine sI C X22 d6_39 ?_
    refine si C X22 d6_40 ?_
    refine sC C X22 d6_42 ?_
    refine sP C X22 d6_43 ?_
    refine xI C X22 e22 (((N0.app Nq1).app Nq15).app Nq21) Ge.2.2.2.2 Bl_21 (own_fdr _ _ _ _ _) d6_44 fun T23 h23 lo23 X23 e23 N23 W23 V23 => ?_
    have KC23 : Keep h0 h23 [o, ac, as, ah, al, a] := KC21.wr W23 (Or.inl (List.mem_of_getElem? (i := 4) rfl))
    have SK23 : own_StK Z h0 h23 := SK21.wr W23
    refine sA C X23 d6_45 ?_
    have ne_o_al : o ≠ al := (own_Fa.neE Eo Bl (ow1 C.w))
    have f24 := (Fld.other W23 Fsz_21 (Or.inl ne_o_al))
    refine gF C X23 e23 f24 (ow74 C.w) d6_46 fun T25 X25 e25 => ?_
    refine sC C X25 d6_49 ?_
    refine sM C X25 d6_50 ?_
    refine sA C X25 d6_51 ?_
    have f26 := (Fld.other W23 Fsl_21 (Or.inl ne_o_al))
    refine gF C X25 e25 f26 (ow17 C.w) d6_52 fun T27 X27 e27 => ?_
    refine fN C X27 e27 V23 d6_55 ?_
    refine cY C X27 d6_56 70 ((flt (by rcases hsz with rfl | rfl <;> decide)).2.2.2) ?_
    refine si C X27 d6_70 ?_
    have f28 := (Exa.wr W23 Eo_21)
    have f29 := (Fld.other W23 Fch_21 (Or.inl ne_o_al))
    have f30 := (Fld.other W23 Fst_21 (Or.inl ne_o_al))
    have f31 := (Fld.other W23 Fhs_21 (Or.inl ne_o_al))
    have f32 := (Fld.other W23 Fcc_21 (Or.inl ne_o_al))
    have ne_ac_al : ac ≠ al := (own_Fa.neT Bc Bl (by decide))
    have f33 := (Bc_21.other W23 ne_ac_al)
    have f34 := (Bs_21.other W23 hNe.2.1)
    have f35 := (Bh_21.other W23 hNe.2.2)
    have IX36 : own_Ix Z h23 o ac as ah al (sz + (1 : Int32)) (cc + n) fcA21 fsA21 fhA21 (fun i => if i = (own_fd ((own_sp (own_hs n c0 c1)) &&& (127 : Int32)) (fl ((own_sp (own_hs n c0 c1)) &&& (127 : Int32))) (fh (0 : Int32)) (own_hs n c0 c1) (own_e (fs (1 : Int32)) (fc (0 : Int32)) (fc (1 : Int32)) n c0 c1)) then (sz + (1 : Int32)) else fl i) := ⟨f28, f29, f30, f31, f26, f24, f32, f33, f34, f35, V23⟩
    have f37 := (Exa.wr W23 (Es_1.keep Kc21))
    have f38 := (Fld.other W23 (Fco_1.keep Kc21 (ninS (Ne.symm ne_o_a) (ninS (Ne.symm ne_ac_a) (ninS (Ne.symm ne_as_a) (ninS (Ne.symm ne_ah_a) nin0))))) (Or.inl (Ne.symm ne_al_a)))
    have f39 := (Fld.other W23 (Fva_1.keep Kc21 (ninS (Ne.symm ne_o_a) (ninS (Ne.symm ne_ac_a) (ninS (Ne.symm ne_as_a) (ninS (Ne.symm ne_ah_a) nin0))))) (Or.inl (Ne.symm ne_al_a)))
    have f40 := (Fld.other W23 (Fha_1.keep Kc21 (ninS (Ne.symm ne_o_a) (ninS (Ne.symm ne_ac_a) (ninS (Ne.symm ne_as_a) (ninS (Ne.symm ne_ah_a) nin0))))) (Or.inl (Ne.symm ne_al_a)))
    have f41 := (Fld.other W23 (Fhz_1.keep Kc21 (ninS (Ne.symm ne_o_a) (ninS (Ne.symm ne_ac_a) (ninS (Ne.symm ne_as_a) (ninS (Ne.symm ne_ah_a) nin0))))) (Or.inl (Ne.symm ne_al_a)))
    have ne_b_ah : b ≠ ah := (own_Fa.neV Av Bh (by decide))
    have ne_b_as : b ≠ as := (own_Fa.neV Av Bs (by decide))
    have ne_b_ac : b ≠ ac := (own_Fa.neV Av Bc (by decide))
    have ne_b_o : b ≠ o := (Ne.symm (Exa.neArv Eo Av (ow1 C.w)))
    have ne_b_al : b ≠ al := (own_Fa.neV Av Bl (by decide))
    have f43 := ((Av_1.keep Kc21 (ninS ne_b_o (ninS ne_b_ac (ninS ne_b_as (ninS ne_b_ah nin0))))).other W23 ne_b_al)
    have SR42 : own_Str Z h23 a b k hhN1 hzN1 n c0 c1 := ⟨f37, f38, f39, f40, f41, ⟨f43, (fun q => Exa.wr W23 ((fun q => (Eb_1 q).keep Kc21) q)), hok_1⟩, hh1_1, hz1_1⟩
    exact rI C X27 e27 hret d6_72 ⟨Or.inr ⟨rfl, hb18_17, _, _, _, _, IX36, cp21, q121.trans hs0, q221, if_pos rfl, fun i hi => if_neg hi⟩, N23, KC23, SK23, _, _, SR42⟩
  · refine bN C X16 d6_18 ((if0 _ _).trans (feq hb18_17).1) ?_
    refine sC C X16 d6_21 ?_
    have IX44 : own_Ix Z h1 o ac as ah al sz cc fc fs fh fl := ⟨f2, f3, f4, f5, f6, f7, f8, f9, f10, f11, f12⟩
    have SR45 : own_Str Z h1 a b k hhN1 hzN1 n c0 c1 := ⟨Es_1, Fco_1, Fva_1, Fha_1, Fhz_1, ⟨Av_1, Eb_1, hok_1⟩, hh1_1, hz1_1⟩
    exact rI C X16 e16 hret d6_22 ⟨Or.inl ⟨rfl, hb18_17, IX44⟩, ((N0.app Nq1).app Nq15), KC1, SK1, _, _, SR45⟩
theorem d25_0 : decode prog_76_method_6_code 0 = .ok (.aload_n 1, 1) := by decide +kernel
theorem d25_1 : decode prog_76_method_6_code 1 = .ok (.invokevirtual 57, 3) := by decide +kernel
theorem d25_4 : decode prog_76_method_6_code 4 = .ok (.istore_n 2, 1) := by decide +kernel
theorem d25_5 : decode prog_76_method_6_code 5 = .ok (.aload_n 0, 1) := by decide +kernel
theorem d25_6 : decode prog_76_method_6_code 6 = .ok (.aload_n 1, 1) := by decide +kernel
theorem d25_7 : decode prog_76_method_6_code 7 = .ok (.iload_n 2, 1) := by decide +kernel
theorem d25_8 : decode prog_76_method_6_code 8 = .ok (.invokevirtual 62, 3) := by decide +kernel
theorem d25_11 : decode prog_76_method_6_code 11 = .ok (.istore_n 3, 1) := by decide +kernel
theorem d25_12 : decode prog_76_method_6_code 12 = .ok (.aload_n 0, 1) := by decide +kernel
theorem d25_13 : decode prog_76_method_6_code 13 = .ok (.getfield 20, 3) := by decide +kernel
theorem d25_16 : decode prog_76_method_6_code 16 = .ok (.iload_n 3, 1) := by decide +kernel
theorem d25_17 : decode prog_76_method_6_code 17 = .ok (.iaload, 1) := by decide +kernel
theorem d25_18 : decode prog_76_method_6_code 18 = .ok (.iconst 1, 1) := by decide +kernel
theorem d25_19 : decode prog_76_method_6_code 19 = .ok (.isub, 1) := by decide +kernel
theorem d25_20 : decode prog_76_method_6_code 20 = .ok (.ireturn, 1) := by decide +kernel
theorem pn_25 : plainName "com/example/holdback/holdback/util/StringIndex" = true := by first | (simp [plainName, overriddenIn]; done) | decide +kernel
theorem ef_25_RR (m : MethodId) (y0 : Addr) (y1 : Addr) : entryFrame m #[(.ref y0), (.ref y1)] 4 = mkF m 0 #[.val (.ref y0), .val (.ref y1), .unset, .unset] [] := by first | (simp [entryFrame, mkF, argsToLocals, Value.category]; done) | rfl
theorem rm_ixo (l : Launch) (Z : State) (a0 : Array Value) (hw : ∀ d ∈ tables_1, d.before a0 Z = true) (o : Addr) (ac : Addr) (as : Addr) (ah : Addr) (al : Addr) (sz : Int32) (cc : Int32) (fc : Int32 → Int32) (fs : Int32 → Int32) (fh : Int32 → Int32) (fl : Int32 → Int32) (a : Addr) (b : Addr) (k : ClassId) (hh : Int32) (hz : Int32) (n : Int32) (c0 : Int32) (c1 : Int32) (cs : Int32) (wf : Value) (h0 : Heap) (n0 : Nat) (Z0 : n0 ≤ h0.size) (Ss : own_St Z h0 cs wf) (Ix : own_Ix Z h0 o ac as ah al sz cc fc fs fh fl) (S : own_Str Z h0 a b k hh hz n c0 c1) (ga : n0 ≤ a) (hs0 : fs (0 : Int32) = 0) (hq0 : fl ((own_sp (own_hs n c0 c1)) &&& (127 : Int32)) = 0 ∨ (fl ((own_sp (own_hs n c0 c1)) &&& (127 : Int32)) = 1 ∧ fl ((((own_sp (own_hs n c0 c1)) &&& (127 : Int32)) + (1 : Int32)) &&& (127 : Int32)) = 0)) :
    own_Met l (⟨"com/example/holdback/holdback/util/StringIndex", "indexOf", "(Ljava/lang/String;)I"⟩ : MethodName) prog_76_method_6_code 4 (some .int) ({ frames := 6, cells := 0, slots := 0, locals := 87 } : Room) Z h0 #[(.ref o), (.ref a)] (fun v h L => v = some (.int (fl (own_fd ((own_sp (own_hs n c0 c1)) &&& (127 : Int32)) (fl ((own_sp (own_hs n c0 c1)) &&& (127 : Int32))) (fh (0 : Int32)) (own_hs n c0 c1) (own_e (fs (1 : Int32)) (fc (0 : Int32)) (fc (1 : Int32)) n c0 c1)) - 1)) ∧ Fr n0 L ∧ Keep h0 h [a] ∧ own_StK Z h0 h ∧ ∃ hh' hz', own_Str Z h a b k hh' hz' n c0 c1) := by
  refine own_go hw (plainFor_of_name pn_25) (fun m => ef_25_RR m o a) fun p e s m below meth c T0 C hret X0 e0 => ?_
  have N0 := Fr.nil n0
  obtain ⟨Sco, hcs, Sfo, hwf⟩ := id Ss
  obtain ⟨Es, Fco, Fva, Fha, Fhz, Sv, hh1, hz1⟩ := id S
  obtain ⟨Av, Eb, hok⟩ := id Sv
  obtain ⟨Eo, Fch, Fst, Fhs, Fsl, Fsz, Fcc, Bc, Bs, Bh, Bl⟩ := id Ix
  refine sA C X0 d25_0 ?_
  refine cV C X0 e0 (rm_shash l Z a0 hw a b k hh hz n c0 c1 cs wf  h0 n0 Z0 Ss S ga) Es (W := 0) (ow47 C.w) (ow48 C.w) (ow50 C.w) (ow49 C.w) (ow51 C.w) (ow25 C.w) (argsL := []) (lenOf pd___I rfl) d25_1 fun v1 T1 lo1 X1 hQ1 => ?_
  obtain ⟨h1, e1⟩ : ∃ h', T1.heap = h' := ⟨_, rfl⟩
  rw [e1] at hQ1
  obtain ⟨rfl, Nq1, Kc1, Sc1, hhN1, hzN1, SN1⟩ := hQ1
  have KC1 : Keep h0 h1 [a] := Keep.trans (Keep.refl h0 [a]) Kc1 (allS (P := fun x => x ∈ ([a] : List Addr) ∨ h0.size ≤ x) (Or.inl (List.mem_of_getElem? (i := 0) rfl)) all0)
  have SK1 : own_StK Z h0 h1 := (own_StK.refl Z h0).tr Sc1
  obtain ⟨Es_1, Fco_1, Fva_1, Fha_1, Fhz_1, Sv_1, hh1_1, hz1_1⟩ := id SN1
  obtain ⟨Av_1, Eb_1, hok_1⟩ := id Sv_1
  refine wI C X1 #[.val (.ref o), .val (.ref a), .val (.int (own_hs n c0 c1)), .unset] d25_4 ?_
  refine sA C X1 d25_5 ?_
  refine sA C X1 d25_6 ?_
  refine sI C X1 d25_7 ?_
  have f2 := (Eo.keep Kc1)
  have ne_o_a : o ≠ a := (Exa.ne Eo Es (by decide))
  have f3 := (Fch.keep Kc1 (ninS ne_o_a nin0))
  have f4 := (Fst.keep Kc1 (ninS ne_o_a nin0))
  have f5 := (Fhs.keep Kc1 (ninS ne_o_a nin0))
  have f6 := (Fsl.keep Kc1 (ninS ne_o_a nin0))
  have f7 := (Fsz.keep Kc1 (ninS ne_o_a nin0))
  have f8 := (Fcc.keep Kc1 (ninS ne_o_a nin0))
  have ne_ac_a : ac ≠ a := (Ne.symm (own_Fa.neE Es Bc (ow24 C.w)))
  have f9 := (Bc.keep Kc1 (ninS ne_ac_a nin0))
  have ne_as_a : as ≠ a := (Ne.symm (own_Fa.neE Es Bs (ow24 C.w)))
  have f10 := (Bs.keep Kc1 (ninS ne_as_a nin0))
  have ne_ah_a : ah ≠ a := (Ne.symm (own_Fa.neE Es Bh (ow24 C.w)))
  have f11 := (Bh.keep Kc1 (ninS ne_ah_a nin0))
  have ne_al_a : al ≠ a := (Ne.symm (own_Fa.neE Es Bl (ow24 C.w)))
  have f12 := (Bl.keep Kc1 (ninS ne_al_a nin0))
  have IX13 : own_Ix Z h1 o ac as ah al sz cc fc fs fh fl := ⟨f2, f3, f4, f5, f6, f7, f8, f9, f10, f11, f12⟩
  have SR14 : own_Str Z h1 a b k hhN1 hzN1 n c0 c1 := ⟨Es_1, Fco_1, Fva_1, Fha_1, Fhz_1, ⟨Av_1, Eb_1, hok_1⟩, hh1_1, hz1_1⟩
  refine cP C X1 e1 (rm_find l Z a0 hw o ac as ah al sz cc fc fs fh fl a b k hhN1 hzN1 n c0 c1 cs wf (own_hs n c0 c1)  h1 n0 (Nat.le_trans Z0 KC1.1) (Ss.k SK1) IX13 SR14 hs0 hq0) f2 (W := 0) (ow66 C.w) (ow67 C.w) (own_selp (x := (⟨"com/example/holdback/holdback/util/StringIndex", "add", "(Ljava/lang/String;)I"⟩ : MethodName)) rfl (mvT (args := #[]) C.z (ow45 C.w)) (Cond.privateMethod_at (mvP C.z (ow68 C.w) (args := #[]))) (mvT C.z (ow67 C.w)) (by decide)) (ow68 C.w) (ow69 C.w) (ow2 C.w) (argsL := [(.ref a), (.int (own_hs n c0 c1))]) (lenOf pd__Ljava_lang_String_I_I rfl) d25_8 fun v15 T15 lo15 X15 hQ15 => ?_
  obtain ⟨rfl, Nq15, e15⟩ := hQ15
  refine wI C X15 #[.val (.ref o), .val (.ref a), .val (.int (own_hs n c0 c1)), .val (.int (own_fd ((own_sp (own_hs n c0 c1)) &&& (127 : Int32)) (fl ((own_sp (own_hs n c0 c1)) &&& (127 : Int32))) (fh (0 : Int32)) (own_hs n c0 c1) (own_e (fs (1 : Int32)) (fc (0 : Int32)) (fc (1 : Int32)) n c0 c1)))] d25_11 ?_
  refine sA C X15 d25_12 ?_
  refine gF C X15 e15 f6 (ow17 C.w) d25_13 fun T16 X16 e16 => ?_
  refine sI C X16 d25_16 ?_
  refine fI C X16 e16 f12 (own_fdr _ _ _ _ _) d25_17 ?_
  refine sC C X16 d25_18 ?_
  refine sS C X16 d25_19 ?_
  have SR17 : own_Str Z h1 a b k hhN1 hzN1 n c0 c1 := ⟨Es_1, Fco_1, Fva_1, Fha_1, Fhz_1, ⟨Av_1, Eb_1, hok_1⟩, hh1_1, hz1_1⟩
  exact rI C X16 e16 hret d25_20 ⟨rfl, ((N0.app Nq1).app Nq15), KC1, SK1, _, _, SR17⟩
theorem d23_0 : decode jdk_65_method_103_code 0 = .ok (.iconst 0, 1) := by decide +kernel
theorem d23_1 : decode jdk_65_method_103_code 1 = .ok (.istore_n 2, 1) := by decide +kernel
theorem d23_2 : decode jdk_65_method_103_code 2 = .ok (.aload_n 0, 1) := by decide +kernel
theorem d23_3 : decode jdk_65_method_103_code 3 = .ok (.arraylength, 1) := by decide +kernel
theorem d23_4 : decode jdk_65_method_103_code 4 = .ok (.istore_n 3, 1) := by decide +kernel
theorem d23_5 : decode jdk_65_method_103_code 5 = .ok (.iload_n 2, 1) := by decide +kernel
theorem d23_6 : decode jdk_65_method_103_code 6 = .ok (.iload_n 3, 1) := by decide +kernel
theorem d23_7 : decode jdk_65_method_103_code 7 = .ok (.if_icmp .ge 13, 3) := by decide +kernel
theorem d23_20 : decode jdk_65_method_103_code 20 = .ok (.return_, 1) := by decide +kernel
theorem d23_10 : decode jdk_65_method_103_code 10 = .ok (.aload_n 0, 1) := by decide +kernel
theorem d23_11 : decode jdk_65_method_103_code 11 = .ok (.iload_n 2, 1) := by decide +kernel
theorem d23_12 : decode jdk_65_method_103_code 12 = .ok (.iload_n 1, 1) := by decide +kernel
theorem d23_13 : decode jdk_65_method_103_code 13 = .ok (.iastore, 1) := by decide +kernel
theorem d23_14 : decode jdk_65_method_103_code 14 = .ok (.iinc 2 1, 3) := by decide +kernel
theorem d23_17 : decode jdk_65_method_103_code 17 = .ok (.goto (-12), 3) := by decide +kernel
theorem pn_23 : plainName "java/util/Arrays" = true := by first | (simp [plainName, overriddenIn]; done) | decide +kernel
theorem ef_23_RI (m : MethodId) (y0 : Addr) (y1 : Int32) : entryFrame m #[(.ref y0), (.int y1)] 4 = mkF m 0 #[.val (.ref y0), .val (.int y1), .unset, .unset] [] := by first | (simp [entryFrame, mkF, argsToLocals, Value.category]; done) | rfl
theorem rm_fill (l : Launch) (Z : State) (a0 : Array Value) (hw : ∀ d ∈ tables_1, d.before a0 Z = true) (al : Addr) (fl : Int32 → Int32) (h0 : Heap) (n0 : Nat) (Z0 : n0 ≤ h0.size) (Bl : own_Fa Z h0 al .int (128 : Int32) fl) (gal : n0 ≤ al) :
    own_Met l (⟨"java/util/Arrays", "fill", "([II)V"⟩ : MethodName) jdk_65_method_103_code 4 none ({ frames := 0, cells := 0, slots := 0, locals := 0 } : Room) Z h0 #[(.ref al), (.int (0 : Int32))] (fun v h L => v = none ∧ Fr n0 L ∧ Keep h0 h [al] ∧ own_StK Z h0 h ∧ ∃ f', own_Fa Z h al .int (128 : Int32) f' ∧ ∀ i, ¬ i < 0 → i < 128 → f' i = 0) := by
  refine own_go hw (plainFor_of_name pn_23) (fun m => ef_23_RI m al (0 : Int32)) fun p e s m below meth c T0 C hret X0 e0 => ?_
  have N0 := Fr.nil n0
  refine sC C X0 d23_0 ?_
  refine wI C X0 #[.val (.ref al), .val (.int (0 : Int32)), .val (.int (0 : Int32)), .unset] d23_1 ?_
  refine sA C X0 d23_2 ?_
  refine fN C X0 e0 Bl d23_3 ?_
  refine wI C X0 #[.val (.ref al), .val (.int (0 : Int32)), .val (.int (0 : Int32)), .val (.int (128 : Int32))] d23_4 ?_
  have loop : ∀ (t : Nat) (i : Int32) (T : State) (h : Heap) (lo : List Loc) (f : Int32 → Int32), Stand p l e ({ frames := 0, cells := 0, slots := 0, locals := 0 } : Room) s m #[.ref al, .int (0 : Int32)] below meth c T lo 0 0 → T.heap = h → Fr n0 lo → Keep h0 h [al] → own_StK Z h0 h → own_Fa Z h al .int (128 : Int32) f → i.toInt = 128 - (t : Int) → t ≤ 128 → (∀ j, ¬ j < 0 → j < i → f j = 0) → own_Fin p e below (own_E ({ frames := 0, cells := 0, slots := 0, locals := 0 } : Room) s below (fun v h L => v = none ∧ Fr n0 L ∧ Keep h0 h [al] ∧ own_StK Z h0 h ∧ ∃ f', own_Fa Z h al .int (128 : Int32) f' ∧ ∀ i, ¬ i < 0 → i < 128 → f' i = 0)) T (mkF m 5 #[.val (.ref al), .val (.int (0 : Int32)), .val (.int i), .val (.int (128 : Int32))] []) := by
    intro t
    induction t with
    | zero =>
      intro i T h lo f X e1 N K SK V hi ht hf
      refine sI C X d23_5 ?_
      refine sI C X d23_6 ?_
      refine cY C X d23_7 20 ((flt (own_l1 hi).1).2.1) ?_
      exact rV C X e1 hret d23_20 ⟨rfl, N, K, SK, _, V, fun j h1 h2 => hf j h1 ((own_l1 hi).2 j h2)⟩
    | succ t ih =>
      intro i T h lo f X e1 N K SK V hi ht hf
      refine sI C X d23_5 ?_
      refine sI C X d23_6 ?_
      refine cN C X d23_7 ((tlt (own_l0 hi ht).1.2).2.1) ?_
      refine sA C X d23_10 ?_
      refine sI C X d23_11 ?_
      refine sI C X d23_12 ?_
      refine xI C X e1 N gal V (own_l0 hi ht).1 d23_13 fun T1 h1 lo1 X1 e1 N1 W1 V1 => ?_
      have KC1 : Keep h0 h1 [al] := K.wr W1 (Or.inl (List.mem_of_getElem? (i := 0) rfl))
      have SK1 : own_StK Z h0 h1 := SK.wr W1
      refine wc C X1 #[.val (.ref al), .val (.int (0 : Int32)), .val (.int (i + (1 : Int32))), .val (.int (128 : Int32))] d23_14 ?_
      refine sG C X1 d23_17 5 ?_
      exact ih (i + (1 : Int32)) _ _ _ _ X1 e1 N1 KC1 SK1 V1 (own_l0 hi ht).2.1 (Nat.le_of_succ_le ht) ((own_l0 hi ht).2.2 f hf)
  exact loop 128 0 _ _ _ _ X0 e0 N0 (Keep.refl _ _) (own_StK.refl _ _) Bl (by decide) (Nat.le_refl _) (fun j h1 h2 => absurd h2 h1)
theorem d22_0 : decode prog_76_method_8_code 0 = .ok (.aload_n 0, 1) := by decide +kernel
theorem d22_1 : decode prog_76_method_8_code 1 = .ok (.getfield 20, 3) := by decide +kernel
theorem d22_4 : decode prog_76_method_8_code 4 = .ok (.iconst 0, 1) := by decide +kernel
theorem d22_5 : decode prog_76_method_8_code 5 = .ok (.invokestatic 74, 3) := by decide +kernel
theorem pd___II_V : parseMethodDescriptor "([II)V" = some ⟨[(.array .int), .int], none⟩ := by decide +kernel
theorem d22_8 : decode prog_76_method_8_code 8 = .ok (.aload_n 0, 1) := by decide +kernel
theorem d22_9 : decode prog_76_method_8_code 9 = .ok (.iconst 0, 1) := by decide +kernel
theorem d22_10 : decode prog_76_method_8_code 10 = .ok (.putfield 23, 3) := by decide +kernel
theorem d22_13 : decode prog_76_method_8_code 13 = .ok (.aload_n 0, 1) := by decide +kernel
theorem d22_14 : decode prog_76_method_8_code 14 = .ok (.iconst 0, 1) := by decide +kernel
theorem d22_15 : decode prog_76_method_8_code 15 = .ok (.putfield 80, 3) := by decide +kernel
theorem d22_18 : decode prog_76_method_8_code 18 = .ok (.return_, 1) := by decide +kernel
theorem pn_22 : plainName "com/example/holdback/holdback/util/StringIndex" = true := by first | (simp [plainName, overriddenIn]; done) | decide +kernel
theorem ef_22_R (m : MethodId) (y0 : Addr) : entryFrame m #[(.ref y0)] 1 = mkF m 0 #[.val (.ref y0)] [] := by first | (simp [entryFrame, mkF, argsToLocals, Value.category]; done) | rfl
theorem rm_clr (l : Launch) (Z : State) (a0 : Array Value) (hw : ∀ d ∈ tables_1, d.before a0 Z = true) (o : Addr) (ac : Addr) (as : Addr) (ah : Addr) (al : Addr) (sz : Int32) (cc : Int32) (fc : Int32 → Int32) (fs : Int32 → Int32) (fh : Int32 → Int32) (fl : Int32 → Int32) (h0 : Heap) (n0 : Nat) (Z0 : n0 ≤ h0.size) (Ix : own_Ix Z h0 o ac as ah al sz cc fc fs fh fl) (hNe : own_Ne as ah al) (Ge : own_Ge n0 o ac as ah al) :
    own_Met l (⟨"com/example/holdback/holdback/util/StringIndex", "clear", "()V"⟩ : MethodName) prog_76_method_8_code 1 none ({ frames := 1, cells := 0, slots := 0, locals := 15 } : Room) Z h0 #[(.ref o)] (fun v h L => v = none ∧ Fr n0 L ∧ Keep h0 h [o, al] ∧ own_StK Z h0 h ∧ ∃ fl', own_Ix Z h o ac as ah al 0 0 fc fs fh fl' ∧ ∀ i, ¬ i < 0 → i < 128 → fl' i = 0) := by
  refine own_go hw (plainFor_of_name pn_22) (fun m => ef_22_R m o) fun p e s m below meth c T0 C hret X0 e0 => ?_
  have N0 := Fr.nil n0
  obtain ⟨Eo, Fch, Fst, Fhs, Fsl, Fsz, Fcc, Bc, Bs, Bh, Bl⟩ := id Ix
  refine sA C X0 d22_0 ?_
  refine gF C X0 e0 Fsl (ow17 C.w) d22_1 fun T1 X1 e1 => ?_
  refine sC C X1 d22_4 ?_
  refine cS C X1 e1 (rm_fill l Z a0 hw al fl  h0 n0 Z0 Bl Ge.2.2.2.2) (W := 0) (ow123 C.w) (ow124 C.w) (ow126 C.w) (ow125 C.w) (argsL := [(.ref al), (.int (0 : Int32))]) (lenOf pd___II_V rfl) d22_5 fun v2 T2 lo2 X2 hQ2 => ?_
  obtain ⟨h2, e2⟩ : ∃ h', T2.heap = h' := ⟨_, rfl⟩
  rw [e2] at hQ2
  obtain ⟨rfl, Nq2, Kc2, Sc2, flN2, Bn2, hfl2⟩ := hQ2
  have KC2 : Keep h0 h2 [o, al] := Keep.trans (Keep.refl h0 [o, al]) Kc2 (allS (P := fun x => x ∈ ([o, al] : List Addr) ∨ h0.size ≤ x) (Or.inl (List.mem_of_getElem? (i := 1) rfl)) all0)
  have SK2 : own_StK Z h0 h2 := (own_StK.refl Z h0).tr Sc2
  refine sA C X2 d22_8 ?_
  refine sC C X2 d22_9 ?_
  have f3 := (Eo.keep Kc2)
  have ne_o_al : o ≠ al := (own_Fa.neE Eo Bl (ow1 C.w))
  have f4 := (Fsz.keep Kc2 (ninS ne_o_al nin0))
  refine pN C X2 e2 (N0.app Nq2) Ge.1 f4 f3 (ow74 C.w) (Or.inl (ow75 C.w)) (ow1 C.w) (ty := .int) (v' := (.int (0 : Int32))) (by decide) rfl rfl d22_10 fun T5 h5 lo5 X5 e5 N5 W5 F5 => ?_
  have KC5 : Keep h0 h5 [o, al] := KC2.wr W5 (Or.inl (List.mem_of_getElem? (i := 0) rfl))
  have SK5 : own_StK Z h0 h5 := SK2.wr W5
  refine sA C X5 d22_13 ?_
  refine sC C X5 d22_14 ?_
  have f6 := (Exa.wr W5 f3)
  have f7 := (Fld.other W5 (Fcc.keep Kc2 (ninS ne_o_al nin0)) (Or.inr (slot_ne (Or.inl (ow81 C.w)) (Or.inl (ow75 C.w)) (by decide) (t := .int) (t' := .int) (by decide) (by decide))))
  refine pN C X5 e5 N5 Ge.1 f7 f6 (ow80 C.w) (Or.inl (ow81 C.w)) (ow1 C.w) (ty := .int) (v' := (.int (0 : Int32))) (by decide) rfl rfl d22_15 fun T8 h8 lo8 X8 e8 N8 W8 F8 => ?_
  have KC8 : Keep h0 h8 [o, al] := KC5.wr W8 (Or.inl (List.mem_of_getElem? (i := 0) rfl))
  have SK8 : own_StK Z h0 h8 := SK5.wr W8
  have f9 := (Exa.wr W8 f6)
  have f10 := (Fld.other W8 (Fld.other W5 (Fch.keep Kc2 (ninS ne_o_al nin0)) (Or.inr (slot_ne (Or.inl (ow11 C.w)) (Or.inl (ow75 C.w)) (by decide) (t := (.array .char)) (t' := .int) (by decide) (by decide)))) (Or.inr (slot_ne (Or.inl (ow11 C.w)) (Or.inl (ow81 C.w)) (by decide) (t := (.array .char)) (t' := .int) (by decide) (by decide))))
  have f11 := (Fld.other W8 (Fld.other W5 (Fst.keep Kc2 (ninS ne_o_al nin0)) (Or.inr (slot_ne (Or.inl (ow14 C.w)) (Or.inl (ow75 C.w)) (by decide) (t := (.array .int)) (t' := .int) (by decide) (by decide)))) (Or.inr (slot_ne (Or.inl (ow14 C.w)) (Or.inl (ow81 C.w)) (by decide) (t := (.array .int)) (t' := .int) (by decide) (by decide))))
  have f12 := (Fld.other W8 (Fld.other W5 (Fhs.keep Kc2 (ninS ne_o_al nin0)) (Or.inr (slot_ne (Or.inl (ow16 C.w)) (Or.inl (ow75 C.w)) (by decide) (t := (.array .int)) (t' := .int) (by decide) (by decide)))) (Or.inr (slot_ne (Or.inl (ow16 C.w)) (Or.inl (ow81 C.w)) (by decide) (t := (.array .int)) (t' := .int) (by decide) (by decide))))
  have f13 := (Fld.other W8 (Fld.other W5 (Fsl.keep Kc2 (ninS ne_o_al nin0)) (Or.inr (slot_ne (Or.inl (ow18 C.w)) (Or.inl (ow75 C.w)) (by decide) (t := (.array .int)) (t' := .int) (by decide) (by decide)))) (Or.inr (slot_ne (Or.inl (ow18 C.w)) (Or.inl (ow81 C.w)) (by decide) (t := (.array .int)) (t' := .int) (by decide) (by decide))))
  have f14 := (Fld.other W8 F5 (Or.inr (slot_ne (Or.inl (ow75 C.w)) (Or.inl (ow81 C.w)) (by decide) (t := .int) (t' := .int) (by decide) (by decide))))
  have ne_ac_al : ac ≠ al := (own_Fa.neT Bc Bl (by decide))
  have ne_ac_o : ac ≠ o := (Ne.symm (own_Fa.neE Eo Bc (ow1 C.w)))
  have f15 := (((Bc.keep Kc2 (ninS ne_ac_al nin0)).other W5 ne_ac_o).other W8 ne_ac_o)
  have ne_as_o : as ≠ o := (Ne.symm (own_Fa.neE Eo Bs (ow1 C.w)))
  have f16 := (((Bs.keep Kc2 (ninS hNe.2.1 nin0)).other W5 ne_as_o).other W8 ne_as_o)
  have ne_ah_o : ah ≠ o := (Ne.symm (own_Fa.neE Eo Bh (ow1 C.w)))
  have f17 := (((Bh.keep Kc2 (ninS hNe.2.2 nin0)).other W5 ne_ah_o).other W8 ne_ah_o)
  have f18 := ((Bn2.other W5 (Ne.symm ne_o_al)).other W8 (Ne.symm ne_o_al))
  have IX19 : own_Ix Z h8 o ac as ah al (0 : Int32) (0 : Int32) fc fs fh flN2 := ⟨f9, f10, f11, f12, f13, f14, F8, f15, f16, f17, f18⟩
  exact rV C X8 e8 hret d22_18 ⟨rfl, N8, KC8, SK8, _, IX19, hfl2⟩
theorem d24_0 : decode prog_76_method_2_code 0 = .ok (.aload_n 0, 1) := by decide +kernel
theorem d24_1 : decode prog_76_method_2_code 1 = .ok (.getfield 23, 3) := by decide +kernel
theorem d24_4 : decode prog_76_method_2_code 4 = .ok (.ireturn, 1) := by decide +kernel
theorem pn_24 : plainName "com/example/holdback/holdback/util/StringIndex" = true := by first | (simp [plainName, overriddenIn]; done) | decide +kernel
theorem ef_24_R (m : MethodId) (y0 : Addr) : entryFrame m #[(.ref y0)] 1 = mkF m 0 #[.val (.ref y0)] [] := by first | (simp [entryFrame, mkF, argsToLocals, Value.category]; done) | rfl
theorem rm_siz (l : Launch) (Z : State) (a0 : Array Value) (hw : ∀ d ∈ tables_1, d.before a0 Z = true) (o : Addr) (ac : Addr) (as : Addr) (ah : Addr) (al : Addr) (sz : Int32) (cc : Int32) (fc : Int32 → Int32) (fs : Int32 → Int32) (fh : Int32 → Int32) (fl : Int32 → Int32) (h0 : Heap) (n0 : Nat) (Z0 : n0 ≤ h0.size) (Ix : own_Ix Z h0 o ac as ah al sz cc fc fs fh fl) :
    own_Met l (⟨"com/example/holdback/holdback/util/StringIndex", "size", "()I"⟩ : MethodName) prog_76_method_2_code 1 (some .int) ({ frames := 0, cells := 0, slots := 0, locals := 0 } : Room) Z h0 #[(.ref o)] (fun v h L => v = some (.int sz) ∧ Fr n0 L ∧ h = h0) := by
  refine own_go hw (plainFor_of_name pn_24) (fun m => ef_24_R m o) fun p e s m below meth c T0 C hret X0 e0 => ?_
  have N0 := Fr.nil n0
  obtain ⟨Eo, Fch, Fst, Fhs, Fsl, Fsz, Fcc, Bc, Bs, Bh, Bl⟩ := id Ix
  refine sA C X0 d24_0 ?_
  refine gF C X0 e0 Fsz (ow74 C.w) d24_1 fun T1 X1 e1 => ?_
  exact rI C X1 e1 hret d24_4 ⟨rfl, N0, rfl⟩
theorem d26_0 : decode prog_76_method_3_code 0 = .ok (.iload_n 1, 1) := by decide +kernel
theorem d26_1 : decode prog_76_method_3_code 1 = .ok (.aload_n 0, 1) := by decide +kernel
theorem d26_2 : decode prog_76_method_3_code 2 = .ok (.getfield 23, 3) := by decide +kernel
theorem d26_5 : decode prog_76_method_3_code 5 = .ok (.invokestatic 27, 3) := by decide +kernel
theorem pd__II_I : parseMethodDescriptor "(II)I" = some ⟨[.int, .int], some .int⟩ := by decide +kernel
theorem d26_8 : decode prog_76_method_3_code 8 = .ok (.pop, 1) := by decide +kernel
theorem d26_9 : decode prog_76_method_3_code 9 = .ok (.aload_n 0, 1) := by decide +kernel
theorem d26_10 : decode prog_76_method_3_code 10 = .ok (.getfield 13, 3) := by decide +kernel
theorem d26_13 : decode prog_76_method_3_code 13 = .ok (.iload_n 1, 1) := by decide +kernel
theorem d26_14 : decode prog_76_method_3_code 14 = .ok (.iconst 1, 1) := by decide +kernel
theorem d26_15 : decode prog_76_method_3_code 15 = .ok (.iadd, 1) := by decide +kernel
theorem d26_16 : decode prog_76_method_3_code 16 = .ok (.iaload, 1) := by decide +kernel
theorem d26_17 : decode prog_76_method_3_code 17 = .ok (.aload_n 0, 1) := by decide +kernel
theorem d26_18 : decode prog_76_method_3_code 18 = .ok (.getfield 13, 3) := by decide +kernel
theorem d26_21 : decode prog_76_method_3_code 21 = .ok (.iload_n 1, 1) := by decide +kernel
theorem d26_22 : decode prog_76_method_3_code 22 = .ok (.iaload, 1) := by decide +kernel
theorem d26_23 : decode prog_76_method_3_code 23 = .ok (.isub, 1) := by decide +kernel
theorem d26_24 : decode prog_76_method_3_code 24 = .ok (.ireturn, 1) := by decide +kernel
theorem pn_26 : plainName "com/example/holdback/holdback/util/StringIndex" = true := by first | (simp [plainName, overriddenIn]; done) | decide +kernel
theorem ef_26_RI (m : MethodId) (y0 : Addr) (y1 : Int32) : entryFrame m #[(.ref y0), (.int y1)] 2 = mkF m 0 #[.val (.ref y0), .val (.int y1)] [] := by first | (simp [entryFrame, mkF, argsToLocals, Value.category]; done) | rfl
theorem rm_iln (l : Launch) (Z : State) (a0 : Array Value) (hw : ∀ d ∈ tables_1, d.before a0 Z = true) (o : Addr) (ac : Addr) (as : Addr) (ah : Addr) (al : Addr) (sz : Int32) (cc : Int32) (fc : Int32 → Int32) (fs : Int32 → Int32) (fh : Int32 → Int32) (fl : Int32 → Int32) (h0 : Heap) (n0 : Nat) (Z0 : n0 ≤ h0.size) (Ix : own_Ix Z h0 o ac as ah al sz cc fc fs fh fl) (q : (0 : Int32) < sz) :
    own_Met l (⟨"com/example/holdback/holdback/util/StringIndex", "length", "(I)I"⟩ : MethodName) prog_76_method_3_code 2 (some .int) ({ frames := 2, cells := 0, slots := 0, locals := 27 } : Room) Z h0 #[(.ref o), (.int (0 : Int32))] (fun v h L => v = some (.int (fs (1 : Int32) - fs (0 : Int32))) ∧ Fr n0 L ∧ h = h0) := by
  refine own_go hw (plainFor_of_name pn_26) (fun m => ef_26_RI m o (0 : Int32)) fun p e s m below meth c T0 C hret X0 e0 => ?_
  have N0 := Fr.nil n0
  obtain ⟨Eo, Fch, Fst, Fhs, Fsl, Fsz, Fcc, Bc, Bs, Bh, Bl⟩ := id Ix
  refine sI C X0 d26_0 ?_
  refine sA C X0 d26_1 ?_
  refine gF C X0 e0 Fsz (ow74 C.w) d26_2 fun T1 X1 e1 => ?_
  refine cS C X1 e1 (rm_oix l Z a0 hw (0 : Int32) sz  h0 n0 Z0 (by decide) q) (W := 0) (ow142 C.w) (ow143 C.w) (ow145 C.w) (ow144 C.w) (argsL := [(.int (0 : Int32)), (.int sz)]) (lenOf pd__II_I rfl) d26_5 fun v2 T2 lo2 X2 hQ2 => ?_
  obtain ⟨rfl, Nq2, e2⟩ := hQ2
  refine sO C X2 d26_8 ?_
  refine sA C X2 d26_9 ?_
  refine gF C X2 e2 Fst (ow13 C.w) d26_10 fun T3 X3 e3 => ?_
  refine sI C X3 d26_13 ?_
  refine sC C X3 d26_14 ?_
  refine sP C X3 d26_15 ?_
  refine fI C X3 e3 Bs ⟨by decide, by decide⟩ d26_16 ?_
  refine sA C X3 d26_17 ?_
  refine gF C X3 e3 Fst (ow13 C.w) d26_18 fun T4 X4 e4 => ?_
  refine sI C X4 d26_21 ?_
  refine fI C X4 e4 Bs ⟨by decide, by decide⟩ d26_22 ?_
  refine sS C X4 d26_23 ?_
  exact rI C X4 e4 hret d26_24 ⟨rfl, (N0.app Nq2), rfl⟩
theorem d29_0 : decode prog_76_method_4_code 0 = .ok (.iload_n 1, 1) := by decide +kernel
theorem d29_1 : decode prog_76_method_4_code 1 = .ok (.aload_n 0, 1) := by decide +kernel
theorem d29_2 : decode prog_76_method_4_code 2 = .ok (.getfield 23, 3) := by decide +kernel
theorem d29_5 : decode prog_76_method_4_code 5 = .ok (.invokestatic 27, 3) := by decide +kernel
theorem d29_8 : decode prog_76_method_4_code 8 = .ok (.pop, 1) := by decide +kernel
theorem d29_9 : decode prog_76_method_4_code 9 = .ok (.aload_n 0, 1) := by decide +kernel
theorem d29_10 : decode prog_76_method_4_code 10 = .ok (.getfield 17, 3) := by decide +kernel
theorem d29_13 : decode prog_76_method_4_code 13 = .ok (.iload_n 1, 1) := by decide +kernel
theorem d29_14 : decode prog_76_method_4_code 14 = .ok (.iaload, 1) := by decide +kernel
theorem d29_15 : decode prog_76_method_4_code 15 = .ok (.ireturn, 1) := by decide +kernel
theorem pn_29 : plainName "com/example/holdback/holdback/util/StringIndex" = true := by first | (simp [plainName, overriddenIn]; done) | decide +kernel
theorem ef_29_RI (m : MethodId) (y0 : Addr) (y1 : Int32) : entryFrame m #[(.ref y0), (.int y1)] 2 = mkF m 0 #[.val (.ref y0), .val (.int y1)] [] := by first | (simp [entryFrame, mkF, argsToLocals, Value.category]; done) | rfl
theorem rm_ihs (l : Launch) (Z : State) (a0 : Array Value) (hw : ∀ d ∈ tables_1, d.before a0 Z = true) (o : Addr) (ac : Addr) (as : Addr) (ah : Addr) (al : Addr) (sz : Int32) (cc : Int32) (fc : Int32 → Int32) (fs : Int32 → Int32) (fh : Int32 → Int32) (fl : Int32 → Int32) (h0 : Heap) (n0 : Nat) (Z0 : n0 ≤ h0.size) (Ix : own_Ix Z h0 o ac as ah al sz cc fc fs fh fl) (q : (0 : Int32) < sz) :
    own_Met l (⟨"com/example/holdback/holdback/util/StringIndex", "hash", "(I)I"⟩ : MethodName) prog_76_method_4_code 2 (some .int) ({ frames := 2, cells := 0, slots := 0, locals := 27 } : Room) Z h0 #[(.ref o), (.int (0 : Int32))] (fun v h L => v = some (.int (fh (0 : Int32))) ∧ Fr n0 L ∧ h = h0) := by
  refine own_go hw (plainFor_of_name pn_29) (fun m => ef_29_RI m o (0 : Int32)) fun p e s m below meth c T0 C hret X0 e0 => ?_
  have N0 := Fr.nil n0
  obtain ⟨Eo, Fch, Fst, Fhs, Fsl, Fsz, Fcc, Bc, Bs, Bh, Bl⟩ := id Ix
  refine sI C X0 d29_0 ?_
  refine sA C X0 d29_1 ?_
  refine gF C X0 e0 Fsz (ow74 C.w) d29_2 fun T1 X1 e1 => ?_
  refine cS C X1 e1 (rm_oix l Z a0 hw (0 : Int32) sz  h0 n0 Z0 (by decide) q) (W := 0) (ow142 C.w) (ow143 C.w) (ow145 C.w) (ow144 C.w) (argsL := [(.int (0 : Int32)), (.int sz)]) (lenOf pd__II_I rfl) d29_5 fun v2 T2 lo2 X2 hQ2 => ?_
  obtain ⟨rfl, Nq2, e2⟩ := hQ2
  refine sO C X2 d29_8 ?_
  refine sA C X2 d29_9 ?_
  refine gF C X2 e2 Fhs (ow15 C.w) d29_10 fun T3 X3 e3 => ?_
  refine sI C X3 d29_13 ?_
  refine fI C X3 e3 Bh ⟨by decide, by decide⟩ d29_14 ?_
  exact rI C X3 e3 hret d29_15 ⟨rfl, (N0.app Nq2), rfl⟩
def own_n (x : Int32) : Int32 := ((((x.toUInt32 >>> ((16 : Int32) &&& 31).toUInt32).toInt32) &&& (32767 : Int32)) % (3 : Int32))
def own_d (x : Int32) : Int32 := (((x.toUInt32 >>> ((8 : Int32) &&& 31).toUInt32).toInt32) &&& (255 : Int32))
theorem own_okx (x : Int32) : own_ok (own_n x) (x &&& 255) (own_d x) := ⟨own_r3 x, own_an x, own_an _⟩
theorem d30_0 : decode method_3_code 0 = .ok (.iload_n 0, 1) := by decide +kernel
theorem d30_1 : decode method_3_code 1 = .ok (.bipush 16, 2) := by decide +kernel
theorem d30_3 : decode method_3_code 3 = .ok (.iushr, 1) := by decide +kernel
theorem d30_4 : decode method_3_code 4 = .ok (.sipush 32767, 3) := by decide +kernel
theorem d30_7 : decode method_3_code 7 = .ok (.iand, 1) := by decide +kernel
theorem d30_8 : decode method_3_code 8 = .ok (.iconst 3, 1) := by decide +kernel
theorem d30_9 : decode method_3_code 9 = .ok (.irem, 1) := by decide +kernel
theorem d30_10 : decode method_3_code 10 = .ok (.istore_n 1, 1) := by decide +kernel
theorem d30_11 : decode method_3_code 11 = .ok (.iload_n 0, 1) := by decide +kernel
theorem d30_12 : decode method_3_code 12 = .ok (.sipush 255, 3) := by decide +kernel
theorem d30_15 : decode method_3_code 15 = .ok (.iand, 1) := by decide +kernel
theorem d30_16 : decode method_3_code 16 = .ok (.istore_n 2, 1) := by decide +kernel
theorem d30_17 : decode method_3_code 17 = .ok (.iload_n 0, 1) := by decide +kernel
theorem d30_18 : decode method_3_code 18 = .ok (.bipush 8, 2) := by decide +kernel
theorem d30_20 : decode method_3_code 20 = .ok (.iushr, 1) := by decide +kernel
theorem d30_21 : decode method_3_code 21 = .ok (.sipush 255, 3) := by decide +kernel
theorem d30_24 : decode method_3_code 24 = .ok (.iand, 1) := by decide +kernel
theorem d30_25 : decode method_3_code 25 = .ok (.istore_n 3, 1) := by decide +kernel
theorem d30_26 : decode method_3_code 26 = .ok (.iload_n 1, 1) := by decide +kernel
theorem d30_27 : decode method_3_code 27 = .ok (.ifCond .ne 5, 3) := by decide +kernel
theorem d30_30 : decode method_3_code 30 = .ok (.iconst 0, 1) := by decide +kernel
theorem d30_31 : decode method_3_code 31 = .ok (.ireturn, 1) := by decide +kernel
theorem d30_32 : decode method_3_code 32 = .ok (.iload_n 1, 1) := by decide +kernel
theorem d30_33 : decode method_3_code 33 = .ok (.iconst 1, 1) := by decide +kernel
theorem d30_34 : decode method_3_code 34 = .ok (.if_icmp .ne 5, 3) := by decide +kernel
theorem d30_37 : decode method_3_code 37 = .ok (.iload_n 2, 1) := by decide +kernel
theorem d30_38 : decode method_3_code 38 = .ok (.ireturn, 1) := by decide +kernel
theorem d30_39 : decode method_3_code 39 = .ok (.bipush 31, 2) := by decide +kernel
theorem d30_41 : decode method_3_code 41 = .ok (.iload_n 2, 1) := by decide +kernel
theorem d30_42 : decode method_3_code 42 = .ok (.imul, 1) := by decide +kernel
theorem d30_43 : decode method_3_code 43 = .ok (.iload_n 3, 1) := by decide +kernel
theorem d30_44 : decode method_3_code 44 = .ok (.iadd, 1) := by decide +kernel
theorem d30_45 : decode method_3_code 45 = .ok (.ireturn, 1) := by decide +kernel
theorem pn_30 : plainName "com/example/holdback/holdback/util/StringIndexClearPinLaw" = true := by first | (simp [plainName, overriddenIn]; done) | decide +kernel
theorem ef_30_I (m : MethodId) (y0 : Int32) : entryFrame m #[(.int y0)] 4 = mkF m 0 #[.val (.int y0), .unset, .unset, .unset] [] := by first | (simp [entryFrame, mkF, argsToLocals, Value.category]; done) | rfl
theorem rm_href (l : Launch) (Z : State) (a0 : Array Value) (hw : ∀ d ∈ tables_1, d.before a0 Z = true) (x : Int32) (h0 : Heap) (n0 : Nat) (Z0 : n0 ≤ h0.size) :
    own_Met l (⟨"com/example/holdback/holdback/util/StringIndexClearPinLaw", "hashRef", "(I)I"⟩ : MethodName) method_3_code 4 (some .int) ({ frames := 0, cells := 0, slots := 0, locals := 0 } : Room) Z h0 #[(.int x)] (fun v h L => v = some (.int (own_hs (own_n x) (x &&& 255) (own_d x))) ∧ Fr n0 L ∧ h = h0) := by
  refine own_go hw (plainFor_of_name pn_30) (fun m => ef_30_I m x) fun p e s m below meth c T0 C hret X0 e0 => ?_
  have N0 := Fr.nil n0
  refine sI C X0 d30_0 ?_
  refine sB C X0 d30_1 ?_
  refine sR C X0 d30_3 ?_
  refine sU C X0 d30_4 ?_
  refine sN C X0 d30_7 ?_
  refine sC C X0 d30_8 ?_
  refine sM3 C X0 d30_9 ?_
  refine wI C X0 #[.val (.int x), .val (.int ((((x.toUInt32 >>> ((16 : Int32) &&& 31).toUInt32).toInt32) &&& (32767 : Int32)) % (3 : Int32))), .unset, .unset] d30_10 ?_
  refine sI C X0 d30_11 ?_
  refine sU C X0 d30_12 ?_
  refine sN C X0 d30_15 ?_
  refine wI C X0 #[.val (.int x), .val (.int ((((x.toUInt32 >>> ((16 : Int32) &&& 31).toUInt32).toInt32) &&& (32767 : Int32)) % (3 : Int32))), .val (.int (x &&& (255 : Int32))), .unset] d30_16 ?_
  refine sI C X0 d30_17 ?_
  refine sB C X0 d30_18 ?_
  refine sR C X0 d30_20 ?_
  refine sU C X0 d30_21 ?_
  refine sN C X0 d30_24 ?_
  refine wI C X0 #[.val (.int x), .val (.int ((((x.toUInt32 >>> ((16 : Int32) &&& 31).toUInt32).toInt32) &&& (32767 : Int32)) % (3 : Int32))), .val (.int (x &&& (255 : Int32))), .val (.int (((x.toUInt32 >>> ((8 : Int32) &&& 31).toUInt32).toInt32) &&& (255 : Int32)))] d30_25 ?_
  refine sI C X0 d30_26 ?_
  by_cases hb27_1 : ((((x.toUInt32 >>> ((16 : Int32) &&& 31).toUInt32).toInt32) &&& (32767 : Int32)) % (3 : Int32)) = (0 : Int32)
  · refine bN C X0 d30_27 ((if0 _ _).trans (teq hb27_1).2) ?_
    refine sC C X0 d30_30 ?_
    exact rI C X0 e0 hret d30_31 ⟨(congrArg (fun z => some (Value.int z)) (by show _ = own_hs _ _ _; rw [own_hs, own_n, if_pos hb27_1]; rfl)), N0, rfl⟩
  · refine bY C X0 d30_27 32 ((if0 _ _).trans (feq hb27_1).2) ?_
    refine sI C X0 d30_32 ?_
    refine sC C X0 d30_33 ?_
    by_cases hb34_2 : ((((x.toUInt32 >>> ((16 : Int32) &&& 31).toUInt32).toInt32) &&& (32767 : Int32)) % (3 : Int32)) = (1 : Int32)
    · refine cN C X0 d30_34 ((teq hb34_2).2) ?_
      refine sI C X0 d30_37 ?_
      exact rI C X0 e0 hret d30_38 ⟨(congrArg (fun z => some (Value.int z)) (by show _ = own_hs _ _ _; rw [own_hs, own_n, if_neg hb27_1, if_pos hb34_2])), N0, rfl⟩
    · refine cY C X0 d30_34 39 ((feq hb34_2).2) ?_
      refine sB C X0 d30_39 ?_
      refine sI C X0 d30_41 ?_
      refine sM C X0 d30_42 ?_
      refine sI C X0 d30_43 ?_
      refine sP C X0 d30_44 ?_
      exact rI C X0 e0 hret d30_45 ⟨(congrArg (fun z => some (Value.int z)) (by show _ = own_hs _ _ _; rw [own_hs, own_n, if_neg hb27_1, if_neg hb34_2]; rfl)), N0, rfl⟩
theorem d33_0 : decode jdk_43_method_13_code 0 = .ok (.aload_n 0, 1) := by decide +kernel
theorem d33_1 : decode jdk_43_method_13_code 1 = .ok (.arraylength, 1) := by decide +kernel
theorem d33_2 : decode jdk_43_method_13_code 2 = .ok (.aload_n 1, 1) := by decide +kernel
theorem d33_3 : decode jdk_43_method_13_code 3 = .ok (.arraylength, 1) := by decide +kernel
theorem d33_4 : decode jdk_43_method_13_code 4 = .ok (.if_icmp .ne 30, 3) := by decide +kernel
theorem d33_7 : decode jdk_43_method_13_code 7 = .ok (.iconst 0, 1) := by decide +kernel
theorem d33_8 : decode jdk_43_method_13_code 8 = .ok (.istore_n 2, 1) := by decide +kernel
theorem d33_9 : decode jdk_43_method_13_code 9 = .ok (.iload_n 2, 1) := by decide +kernel
theorem d33_10 : decode jdk_43_method_13_code 10 = .ok (.aload_n 0, 1) := by decide +kernel
theorem d33_11 : decode jdk_43_method_13_code 11 = .ok (.arraylength, 1) := by decide +kernel
theorem d33_12 : decode jdk_43_method_13_code 12 = .ok (.if_icmp .ge 20, 3) := by decide +kernel
theorem d33_32 : decode jdk_43_method_13_code 32 = .ok (.iconst 1, 1) := by decide +kernel
theorem d33_33 : decode jdk_43_method_13_code 33 = .ok (.ireturn, 1) := by decide +kernel
theorem d33_34 : decode jdk_43_method_13_code 34 = .ok (.iconst 0, 1) := by decide +kernel
theorem d33_35 : decode jdk_43_method_13_code 35 = .ok (.ireturn, 1) := by decide +kernel
theorem d33_15 : decode jdk_43_method_13_code 15 = .ok (.aload_n 0, 1) := by decide +kernel
theorem d33_16 : decode jdk_43_method_13_code 16 = .ok (.iload_n 2, 1) := by decide +kernel
theorem d33_17 : decode jdk_43_method_13_code 17 = .ok (.baload, 1) := by decide +kernel
theorem d33_18 : decode jdk_43_method_13_code 18 = .ok (.aload_n 1, 1) := by decide +kernel
theorem d33_19 : decode jdk_43_method_13_code 19 = .ok (.iload_n 2, 1) := by decide +kernel
theorem d33_20 : decode jdk_43_method_13_code 20 = .ok (.baload, 1) := by decide +kernel
theorem d33_21 : decode jdk_43_method_13_code 21 = .ok (.if_icmp .eq 5, 3) := by decide +kernel
theorem d33_26 : decode jdk_43_method_13_code 26 = .ok (.iinc 2 1, 3) := by decide +kernel
theorem d33_29 : decode jdk_43_method_13_code 29 = .ok (.goto (-20), 3) := by decide +kernel
theorem d33_24 : decode jdk_43_method_13_code 24 = .ok (.iconst 0, 1) := by decide +kernel
theorem d33_25 : decode jdk_43_method_13_code 25 = .ok (.ireturn, 1) := by decide +kernel
theorem pn_33 : plainName "java/lang/StringLatin1" = true := by first | (simp [plainName, overriddenIn]; done) | decide +kernel
theorem ef_33_RR (m : MethodId) (y0 : Addr) (y1 : Addr) : entryFrame m #[(.ref y0), (.ref y1)] 3 = mkF m 0 #[.val (.ref y0), .val (.ref y1), .unset] [] := by first | (simp [entryFrame, mkF, argsToLocals, Value.category]; done) | rfl
theorem rm_leq (l : Launch) (Z : State) (a0 : Array Value) (hw : ∀ d ∈ tables_1, d.before a0 Z = true) (b : Addr) (k : ClassId) (n : Int32) (c0 : Int32) (c1 : Int32) (b2 : Addr) (k2 : ClassId) (n2 : Int32) (d0 : Int32) (d1 : Int32) (h0 : Heap) (n0 : Nat) (Z0 : n0 ≤ h0.size) (Sv : own_Sv Z h0 b k n c0 c1) (Sv2 : own_Sv Z h0 b2 k2 n2 d0 d1) :
    own_Met l (⟨"java/lang/StringLatin1", "equals", "([B[B)Z"⟩ : MethodName) jdk_43_method_13_code 3 (some .boolean) ({ frames := 0, cells := 0, slots := 0, locals := 0 } : Room) Z h0 #[(.ref b), (.ref b2)] (fun v h L => v = some (.int (own_e n c0 c1 n2 d0 d1)) ∧ Fr n0 L ∧ h = h0) := by
  refine own_go hw (plainFor_of_name pn_33) (fun m => ef_33_RR m b b2) fun p e s m below meth c T0 C hret X0 e0 => ?_
  have N0 := Fr.nil n0
  obtain ⟨Av, Eb, hok⟩ := id Sv
  obtain ⟨Av2, Eb2, hok2⟩ := id Sv2
  rcases hok.1 with rfl | rfl | rfl
  · rw [own_bl0] at Av
    rcases hok2.1 with rfl | rfl | rfl
    · rw [own_bl0] at Av2
      refine sA C X0 d33_0 ?_
      refine nA C X0 e0 Av d33_1 ?_
      refine sA C X0 d33_2 ?_
      refine nA C X0 e0 Av2 d33_3 ?_
      refine cN C X0 d33_4 ((teq (by decide : (0 : Int32) = (0 : Int32))).2) ?_
      refine sC C X0 d33_7 ?_
      refine wI C X0 #[.val (.ref b), .val (.ref b2), .val (.int (0 : Int32))] d33_8 ?_
      refine sI C X0 d33_9 ?_
      refine sA C X0 d33_10 ?_
      refine nA C X0 e0 Av d33_11 ?_
      refine cY C X0 d33_12 32 ((flt (by decide : ¬ ((0 : Int32) < (0 : Int32)))).2.1) ?_
      refine sC C X0 d33_32 ?_
      exact rN C X0 e0 (t := .boolean) (by simp) hret d33_33 ⟨(congrArg (fun z => some (Value.int z)) (show (1 : Int32) = own_e (0 : Int32) c0 c1 (0 : Int32) d0 d1 by rw [own_e, if_pos rfl, if_pos rfl])), N0, rfl⟩
    · rw [own_bl1] at Av2
      refine sA C X0 d33_0 ?_
      refine nA C X0 e0 Av d33_1 ?_
      refine sA C X0 d33_2 ?_
      refine nA C X0 e0 Av2 d33_3 ?_
      refine cY C X0 d33_4 34 ((feq (by decide : ¬ ((0 : Int32) = (1 : Int32)))).2) ?_
      refine sC C X0 d33_34 ?_
      exact rN C X0 e0 (t := .boolean) (by simp) hret d33_35 ⟨(congrArg (fun z => some (Value.int z)) (show (0 : Int32) = own_e (0 : Int32) c0 c1 (1 : Int32) d0 d1 by rw [own_e, if_neg (by decide)])), N0, rfl⟩
    · rw [own_bl2] at Av2
      have E2b2 := Eb2 rfl
      refine sA C X0 d33_0 ?_
      refine nA C X0 e0 Av d33_1 ?_
      refine sA C X0 d33_2 ?_
      refine nA C X0 e0 Av2 d33_3 ?_
      refine cY C X0 d33_4 34 ((feq (by decide : ¬ ((0 : Int32) = (2 : Int32)))).2) ?_
      refine sC C X0 d33_34 ?_
      exact rN C X0 e0 (t := .boolean) (by simp) hret d33_35 ⟨(congrArg (fun z => some (Value.int z)) (show (0 : Int32) = own_e (0 : Int32) c0 c1 (2 : Int32) d0 d1 by rw [own_e, if_neg (by decide)])), N0, rfl⟩
  · rw [own_bl1] at Av
    rcases hok2.1 with rfl | rfl | rfl
    · rw [own_bl0] at Av2
      refine sA C X0 d33_0 ?_
      refine nA C X0 e0 Av d33_1 ?_
      refine sA C X0 d33_2 ?_
      refine nA C X0 e0 Av2 d33_3 ?_
      refine cY C X0 d33_4 34 ((feq (by decide : ¬ ((1 : Int32) = (0 : Int32)))).2) ?_
      refine sC C X0 d33_34 ?_
      exact rN C X0 e0 (t := .boolean) (by simp) hret d33_35 ⟨(congrArg (fun z => some (Value.int z)) (show (0 : Int32) = own_e (1 : Int32) c0 c1 (0 : Int32) d0 d1 by rw [own_e, if_neg (by decide)])), N0, rfl⟩
    · rw [own_bl1] at Av2
      refine sA C X0 d33_0 ?_
      refine nA C X0 e0 Av d33_1 ?_
      refine sA C X0 d33_2 ?_
      refine nA C X0 e0 Av2 d33_3 ?_
      refine cN C X0 d33_4 ((teq (by decide : (1 : Int32) = (1 : Int32))).2) ?_
      refine sC C X0 d33_7 ?_
      refine wI C X0 #[.val (.ref b), .val (.ref b2), .val (.int (0 : Int32))] d33_8 ?_
      refine sI C X0 d33_9 ?_
      refine sA C X0 d33_10 ?_
      refine nA C X0 e0 Av d33_11 ?_
      refine cN C X0 d33_12 ((tlt (by decide : (0 : Int32) < (1 : Int32))).2.1) ?_
      refine sA C X0 d33_15 ?_
      refine sI C X0 d33_16 ?_
      refine yB C X0 e0 Av (v := (.int (nar .byte c0))) d33_17 ?_
      refine sA C X0 d33_18 ?_
      refine sI C X0 d33_19 ?_
      refine yB C X0 e0 Av2 (v := (.int (nar .byte d0))) d33_20 ?_
      by_cases hb21_1 : (nar .byte c0) = (nar .byte d0)
      · refine cY C X0 d33_21 26 ((teq hb21_1).1) ?_
        refine wc C X0 #[.val (.ref b), .val (.ref b2), .val (.int (1 : Int32))] d33_26 ?_
        refine sG C X0 d33_29 9 ?_
        refine sI C X0 d33_9 ?_
        refine sA C X0 d33_10 ?_
        refine nA C X0 e0 Av d33_11 ?_
        refine cY C X0 d33_12 32 ((flt (by decide : ¬ ((1 : Int32) < (1 : Int32)))).2.1) ?_
        refine sC C X0 d33_32 ?_
        exact rN C X0 e0 (t := .boolean) (by simp) hret d33_33 ⟨(congrArg (fun z => some (Value.int z)) (show (1 : Int32) = own_e (1 : Int32) c0 c1 (1 : Int32) d0 d1 by rw [own_e, if_pos rfl, if_neg (by decide), if_pos (own_nbi hok.2.1 hok2.2.1 hb21_1), if_pos rfl])), N0, rfl⟩
      · refine cN C X0 d33_21 ((feq hb21_1).1) ?_
        refine sC C X0 d33_24 ?_
        exact rN C X0 e0 (t := .boolean) (by simp) hret d33_25 ⟨(congrArg (fun z => some (Value.int z)) (show (0 : Int32) = own_e (1 : Int32) c0 c1 (1 : Int32) d0 d1 by rw [own_e, if_pos rfl, if_neg (by decide), if_neg (fun q => hb21_1 (by rw [q]))])), N0, rfl⟩
    · rw [own_bl2] at Av2
      have E2b2 := Eb2 rfl
      refine sA C X0 d33_0 ?_
      refine nA C X0 e0 Av d33_1 ?_
      refine sA C X0 d33_2 ?_
      refine nA C X0 e0 Av2 d33_3 ?_
      refine cY C X0 d33_4 34 ((feq (by decide : ¬ ((1 : Int32) = (2 : Int32)))).2) ?_
      refine sC C X0 d33_34 ?_
      exact rN C X0 e0 (t := .boolean) (by simp) hret d33_35 ⟨(congrArg (fun z => some (Value.int z)) (show (0 : Int32) = own_e (1 : Int32) c0 c1 (2 : Int32) d0 d1 by rw [own_e, if_neg (by decide)])), N0, rfl⟩
  · rw [own_bl2] at Av
    have E2b := Eb rfl
    rcases hok2.1 with rfl | rfl | rfl
    · rw [own_bl0] at Av2
      refine sA C X0 d33_0 ?_
      refine nA C X0 e0 Av d33_1 ?_
      refine sA C X0 d33_2 ?_
      refine nA C X0 e0 Av2 d33_3 ?_
      refine cY C X0 d33_4 34 ((feq (by decide : ¬ ((2 : Int32) = (0 : Int32)))).2) ?_
      refine sC C X0 d33_34 ?_
      exact rN C X0 e0 (t := .boolean) (by simp) hret d33_35 ⟨(congrArg (fun z => some (Value.int z)) (show (0 : Int32) = own_e (2 : Int32) c0 c1 (0 : Int32) d0 d1 by rw [own_e, if_neg (by decide)])), N0, rfl⟩
    · rw [own_bl1] at Av2
      refine sA C X0 d33_0 ?_
      refine nA C X0 e0 Av d33_1 ?_
      refine sA C X0 d33_2 ?_
      refine nA C X0 e0 Av2 d33_3 ?_
      refine cY C X0 d33_4 34 ((feq (by decide : ¬ ((2 : Int32) = (1 : Int32)))).2) ?_
      refine sC C X0 d33_34 ?_
      exact rN C X0 e0 (t := .boolean) (by simp) hret d33_35 ⟨(congrArg (fun z => some (Value.int z)) (show (0 : Int32) = own_e (2 : Int32) c0 c1 (1 : Int32) d0 d1 by rw [own_e, if_neg (by decide)])), N0, rfl⟩
    · rw [own_bl2] at Av2
      have E2b2 := Eb2 rfl
      refine sA C X0 d33_0 ?_
      refine nA C X0 e0 Av d33_1 ?_
      refine sA C X0 d33_2 ?_
      refine nA C X0 e0 Av2 d33_3 ?_
      refine cN C X0 d33_4 ((teq (by decide : (2 : Int32) = (2 : Int32))).2) ?_
      refine sC C X0 d33_7 ?_
      refine wI C X0 #[.val (.ref b), .val (.ref b2), .val (.int (0 : Int32))] d33_8 ?_
      refine sI C X0 d33_9 ?_
      refine sA C X0 d33_10 ?_
      refine nA C X0 e0 Av d33_11 ?_
      refine cN C X0 d33_12 ((tlt (by decide : (0 : Int32) < (2 : Int32))).2.1) ?_
      refine sA C X0 d33_15 ?_
      refine sI C X0 d33_16 ?_
      refine yB C X0 e0 Av (v := (.int (nar .byte c0))) d33_17 ?_
      refine sA C X0 d33_18 ?_
      refine sI C X0 d33_19 ?_
      refine yB C X0 e0 Av2 (v := (.int (nar .byte d0))) d33_20 ?_
      by_cases hb21_2 : (nar .byte c0) = (nar .byte d0)
      · refine cY C X0 d33_21 26 ((teq hb21_2).1) ?_
        refine wc C X0 #[.val (.ref b), .val (.ref b2), .val (.int (1 : Int32))] d33_26 ?_
        refine sG C X0 d33_29 9 ?_
        refine sI C X0 d33_9 ?_
        refine sA C X0 d33_10 ?_
        refine nA C X0 e0 Av d33_11 ?_
        refine cN C X0 d33_12 ((tlt (by decide : (1 : Int32) < (2 : Int32))).2.1) ?_
        refine sA C X0 d33_15 ?_
        refine sI C X0 d33_16 ?_
        refine yB C X0 e0 Av (v := (.int (nar .byte c1))) d33_17 ?_
        refine sA C X0 d33_18 ?_
        refine sI C X0 d33_19 ?_
        refine yB C X0 e0 Av2 (v := (.int (nar .byte d1))) d33_20 ?_
        by_cases hb21_3 : (nar .byte c1) = (nar .byte d1)
        · refine cY C X0 d33_21 26 ((teq hb21_3).1) ?_
          refine wc C X0 #[.val (.ref b), .val (.ref b2), .val (.int (2 : Int32))] d33_26 ?_
          refine sG C X0 d33_29 9 ?_
          refine sI C X0 d33_9 ?_
          refine sA C X0 d33_10 ?_
          refine nA C X0 e0 Av d33_11 ?_
          refine cY C X0 d33_12 32 ((flt (by decide : ¬ ((2 : Int32) < (2 : Int32)))).2.1) ?_
          refine sC C X0 d33_32 ?_
          exact rN C X0 e0 (t := .boolean) (by simp) hret d33_33 ⟨(congrArg (fun z => some (Value.int z)) (show (1 : Int32) = own_e (2 : Int32) c0 c1 (2 : Int32) d0 d1 by rw [own_e, if_pos rfl, if_neg (by decide), if_pos (own_nbi hok.2.1 hok2.2.1 hb21_2), if_neg (by decide), if_pos (own_nbi hok.2.2 hok2.2.2 hb21_3)])), N0, rfl⟩
        · refine cN C X0 d33_21 ((feq hb21_3).1) ?_
          refine sC C X0 d33_24 ?_
          exact rN C X0 e0 (t := .boolean) (by simp) hret d33_25 ⟨(congrArg (fun z => some (Value.int z)) (show (0 : Int32) = own_e (2 : Int32) c0 c1 (2 : Int32) d0 d1 by rw [own_e, if_pos rfl, if_neg (by decide), if_pos (own_nbi hok.2.1 hok2.2.1 hb21_2), if_neg (by decide), if_neg (fun q => hb21_3 (by rw [q]))])), N0, rfl⟩
      · refine cN C X0 d33_21 ((feq hb21_2).1) ?_
        refine sC C X0 d33_24 ?_
        exact rN C X0 e0 (t := .boolean) (by simp) hret d33_25 ⟨(congrArg (fun z => some (Value.int z)) (show (0 : Int32) = own_e (2 : Int32) c0 c1 (2 : Int32) d0 d1 by rw [own_e, if_pos rfl, if_neg (by decide), if_neg (fun q => hb21_2 (by rw [q]))])), N0, rfl⟩
theorem d32_0 : decode jdk_42_method_66_code 0 = .ok (.aload_n 0, 1) := by decide +kernel
theorem d32_1 : decode jdk_42_method_66_code 1 = .ok (.aload_n 1, 1) := by decide +kernel
theorem d32_2 : decode jdk_42_method_66_code 2 = .ok (.if_acmp .ne 5, 3) := by decide +kernel
theorem d32_7 : decode jdk_42_method_66_code 7 = .ok (.aload_n 1, 1) := by decide +kernel
theorem d32_8 : decode jdk_42_method_66_code 8 = .ok (.instanceof 10, 3) := by decide +kernel
theorem d32_11 : decode jdk_42_method_66_code 11 = .ok (.ifCond .eq 43, 3) := by decide +kernel
theorem d32_14 : decode jdk_42_method_66_code 14 = .ok (.aload_n 1, 1) := by decide +kernel
theorem d32_15 : decode jdk_42_method_66_code 15 = .ok (.checkcast 10, 3) := by decide +kernel
theorem d32_18 : decode jdk_42_method_66_code 18 = .ok (.astore_n 2, 1) := by decide +kernel
theorem d32_19 : decode jdk_42_method_66_code 19 = .ok (.getstatic 38, 3) := by decide +kernel
theorem d32_22 : decode jdk_42_method_66_code 22 = .ok (.ifCond .eq 14, 3) := by decide +kernel
theorem d32_25 : decode jdk_42_method_66_code 25 = .ok (.aload_n 0, 1) := by decide +kernel
theorem d32_26 : decode jdk_42_method_66_code 26 = .ok (.getfield 15, 3) := by decide +kernel
theorem d32_29 : decode jdk_42_method_66_code 29 = .ok (.aload_n 2, 1) := by decide +kernel
theorem d32_30 : decode jdk_42_method_66_code 30 = .ok (.getfield 15, 3) := by decide +kernel
theorem d32_33 : decode jdk_42_method_66_code 33 = .ok (.if_icmp .ne 21, 3) := by decide +kernel
theorem d32_36 : decode jdk_42_method_66_code 36 = .ok (.aload_n 0, 1) := by decide +kernel
theorem d32_37 : decode jdk_42_method_66_code 37 = .ok (.getfield 9, 3) := by decide +kernel
theorem d32_40 : decode jdk_42_method_66_code 40 = .ok (.aload_n 2, 1) := by decide +kernel
theorem d32_41 : decode jdk_42_method_66_code 41 = .ok (.getfield 9, 3) := by decide +kernel
theorem d32_44 : decode jdk_42_method_66_code 44 = .ok (.invokestatic 541, 3) := by decide +kernel
theorem pd___B_B_Z : parseMethodDescriptor "([B[B)Z" = some ⟨[(.array .byte), (.array .byte)], some .boolean⟩ := by decide +kernel
theorem d32_47 : decode jdk_42_method_66_code 47 = .ok (.ifCond .eq 7, 3) := by decide +kernel
theorem d32_54 : decode jdk_42_method_66_code 54 = .ok (.iconst 0, 1) := by decide +kernel
theorem d32_55 : decode jdk_42_method_66_code 55 = .ok (.ireturn, 1) := by decide +kernel
theorem d32_50 : decode jdk_42_method_66_code 50 = .ok (.iconst 1, 1) := by decide +kernel
theorem d32_51 : decode jdk_42_method_66_code 51 = .ok (.goto 4, 3) := by decide +kernel
theorem pn_32 : plainName "java/lang/String" = true := by first | (simp [plainName, overriddenIn]; done) | decide +kernel
theorem ef_32_RR (m : MethodId) (y0 : Addr) (y1 : Addr) : entryFrame m #[(.ref y0), (.ref y1)] 3 = mkF m 0 #[.val (.ref y0), .val (.ref y1), .unset] [] := by first | (simp [entryFrame, mkF, argsToLocals, Value.category]; done) | rfl
theorem rm_seq (l : Launch) (Z : State) (a0 : Array Value) (hw : ∀ d ∈ tables_1, d.before a0 Z = true) (a : Addr) (b : Addr) (k : ClassId) (hh : Int32) (hz : Int32) (n : Int32) (c0 : Int32) (c1 : Int32) (a2 : Addr) (b2 : Addr) (k2 : ClassId) (hh2 : Int32) (hz2 : Int32) (n2 : Int32) (d0 : Int32) (d1 : Int32) (cs : Int32) (wf : Value) (h0 : Heap) (n0 : Nat) (Z0 : n0 ≤ h0.size) (Ss : own_St Z h0 cs wf) (S : own_Str Z h0 a b k hh hz n c0 c1) (S2 : own_Str Z h0 a2 b2 k2 hh2 hz2 n2 d0 d1) (hne : a ≠ a2) :
    own_Met l (⟨"java/lang/String", "equals", "(Ljava/lang/Object;)Z"⟩ : MethodName) jdk_42_method_66_code 3 (some .boolean) ({ frames := 1, cells := 0, slots := 0, locals := 14 } : Room) Z h0 #[(.ref a), (.ref a2)] (fun v h L => v = some (.int (own_e n c0 c1 n2 d0 d1)) ∧ Fr n0 L ∧ h = h0) := by
  refine own_go hw (plainFor_of_name pn_32) (fun m => ef_32_RR m a a2) fun p e s m below meth c T0 C hret X0 e0 => ?_
  have N0 := Fr.nil n0
  obtain ⟨Sco, hcs, Sfo, hwf⟩ := id Ss
  obtain ⟨Es, Fco, Fva, Fha, Fhz, Sv, hh1, hz1⟩ := id S
  obtain ⟨Av, Eb, hok⟩ := id Sv
  obtain ⟨Es2, Fco2, Fva2, Fha2, Fhz2, Sv2, hh12, hz12⟩ := id S2
  obtain ⟨Av2, Eb2, hok2⟩ := id Sv2
  refine sA C X0 d32_0 ?_
  refine sA C X0 d32_1 ?_
  refine aM C X0 false 7 d32_2 (by simpa using hne) ?_
  refine sA C X0 d32_7 ?_
  refine iY C X0 e0 Es2 (ow167 C.w) d32_8 fun T1 X1 e1 => ?_
  refine bN C X1 d32_11 ((if0 _ _).trans (feq (by decide : ¬ ((1 : Int32) = (0 : Int32)))).1) ?_
  refine sA C X1 d32_14 ?_
  refine cC C X1 e1 Es2 (ow167 C.w) d32_15 fun T2 X2 e2 => ?_
  refine wA C X2 #[.val (.ref a), .val (.ref a2), .val (.ref a2)] d32_18 ?_
  refine gS C X2 e2 Sco (ow61 C.w) d32_19 fun T3 X3 e3 => ?_
  refine bN C X3 d32_22 ((if0 _ _).trans (feq hcs).1) ?_
  refine sA C X3 d32_25 ?_
  refine gF C X3 e3 Fco (ow41 C.w) d32_26 fun T4 X4 e4 => ?_
  refine sA C X4 d32_29 ?_
  refine gF C X4 e4 Fco2 (ow41 C.w) d32_30 fun T5 X5 e5 => ?_
  refine cN C X5 d32_33 ((teq (by decide : (0 : Int32) = (0 : Int32))).2) ?_
  refine sA C X5 d32_36 ?_
  refine gF C X5 e5 Fva (ow40 C.w) d32_37 fun T6 X6 e6 => ?_
  refine sA C X6 d32_40 ?_
  refine gF C X6 e6 Fva2 (ow40 C.w) d32_41 fun T7 X7 e7 => ?_
  refine cS C X7 e7 (rm_leq l Z a0 hw b k n c0 c1 b2 k2 n2 d0 d1  h0 n0 Z0 Sv Sv2) (W := 0) (ow168 C.w) (ow169 C.w) (ow170 C.w) (ow64 C.w) (argsL := [(.ref b), (.ref b2)]) (lenOf pd___B_B_Z rfl) d32_44 fun v8 T8 lo8 X8 hQ8 => ?_
  obtain ⟨rfl, Nq8, e8⟩ := hQ8
  by_cases hb47_9 : (own_e n c0 c1 n2 d0 d1) = (0 : Int32)
  · refine bY C X8 d32_47 54 ((if0 _ _).trans (teq hb47_9).1) ?_
    refine sC C X8 d32_54 ?_
    exact rN C X8 e8 (t := .boolean) (by simp) hret d32_55 ⟨(congrArg (fun z => some (Value.int z)) (show (0 : Int32) = (own_e n c0 c1 n2 d0 d1) by rcases own_e01 n c0 c1 n2 d0 d1 with q | q <;> simp_all)), (N0.app Nq8), rfl⟩
  · refine bN C X8 d32_47 ((if0 _ _).trans (feq hb47_9).1) ?_
    refine sC C X8 d32_50 ?_
    refine sG C X8 d32_51 55 ?_
    exact rN C X8 e8 (t := .boolean) (by simp) hret d32_55 ⟨(congrArg (fun z => some (Value.int z)) (show (1 : Int32) = (own_e n c0 c1 n2 d0 d1) by rcases own_e01 n c0 c1 n2 d0 d1 with q | q <;> simp_all)), (N0.app Nq8), rfl⟩
theorem d35_0 : decode jdk_52_method_21_code 0 = .ok (.iconst 0, 1) := by decide +kernel
theorem d35_1 : decode jdk_52_method_21_code 1 = .ok (.istore 5, 2) := by decide +kernel
theorem d35_3 : decode jdk_52_method_21_code 3 = .ok (.iload 5, 2) := by decide +kernel
theorem d35_5 : decode jdk_52_method_21_code 5 = .ok (.iload 4, 2) := by decide +kernel
theorem d35_7 : decode jdk_52_method_21_code 7 = .ok (.if_icmp .ge 37, 3) := by decide +kernel
theorem d35_10 : decode jdk_52_method_21_code 10 = .ok (.aload_n 0, 1) := by decide +kernel
theorem d35_11 : decode jdk_52_method_21_code 11 = .ok (.iload_n 1, 1) := by decide +kernel
theorem d35_12 : decode jdk_52_method_21_code 12 = .ok (.caload, 1) := by decide +kernel
theorem d35_13 : decode jdk_52_method_21_code 13 = .ok (.istore 6, 2) := by decide +kernel
theorem d35_15 : decode jdk_52_method_21_code 15 = .ok (.iload 6, 2) := by decide +kernel
theorem d35_17 : decode jdk_52_method_21_code 17 = .ok (.sipush 255, 3) := by decide +kernel
theorem d35_20 : decode jdk_52_method_21_code 20 = .ok (.if_icmp .le 6, 3) := by decide +kernel
theorem d35_26 : decode jdk_52_method_21_code 26 = .ok (.aload_n 2, 1) := by decide +kernel
theorem d35_27 : decode jdk_52_method_21_code 27 = .ok (.iload_n 3, 1) := by decide +kernel
theorem d35_28 : decode jdk_52_method_21_code 28 = .ok (.iload 6, 2) := by decide +kernel
theorem d35_30 : decode jdk_52_method_21_code 30 = .ok (.i2b, 1) := by decide +kernel
theorem d35_31 : decode jdk_52_method_21_code 31 = .ok (.bastore, 1) := by decide +kernel
theorem d35_32 : decode jdk_52_method_21_code 32 = .ok (.iinc 1 1, 3) := by decide +kernel
theorem d35_35 : decode jdk_52_method_21_code 35 = .ok (.iinc 3 1, 3) := by decide +kernel
theorem d35_38 : decode jdk_52_method_21_code 38 = .ok (.iinc 5 1, 3) := by decide +kernel
theorem d35_41 : decode jdk_52_method_21_code 41 = .ok (.goto (-38), 3) := by decide +kernel
theorem d35_44 : decode jdk_52_method_21_code 44 = .ok (.iload 4, 2) := by decide +kernel
theorem d35_46 : decode jdk_52_method_21_code 46 = .ok (.ireturn, 1) := by decide +kernel
theorem pn_35 : plainName "java/lang/StringUTF16" = true := by first | (simp [plainName, overriddenIn]; done) | decide +kernel
theorem ef_35_RIRII (m : MethodId) (y0 : Addr) (y1 : Int32) (y2 : Addr) (y3 : Int32) (y4 : Int32) : entryFrame m #[(.ref y0), (.int y1), (.ref y2), (.int y3), (.int y4)] 7 = mkF m 0 #[.val (.ref y0), .val (.int y1), .val (.ref y2), .val (.int y3), .val (.int y4), .unset, .unset] [] := by first | (simp [entryFrame, mkF, argsToLocals, Value.category]; done) | rfl
theorem rm_cmp1 (l : Launch) (Z : State) (a0 : Array Value) (hw : ∀ d ∈ tables_1, d.before a0 Z = true) (ca : Addr) (kc : ClassId) (ba : Addr) (kb : ClassId) (c0 : Int32) (c1 : Int32) (h0 : Heap) (n0 : Nat) (Z0 : n0 ≤ h0.size) (Ac : Arv Z h0 ca kc .char (1 : Int32) [.int c0] (.int (0 : Int32))) (Ab : Arv Z h0 ba kb .byte (1 : Int32) [.int (0 : Int32)] (.int (0 : Int32))) (gb : n0 ≤ ba) (nbc : ba ≠ ca) (hm0 : c0 &&& 255 = c0) (hm1 : c1 &&& 255 = c1) :
    own_Met l (⟨"java/lang/StringUTF16", "compress", "([CI[BII)I"⟩ : MethodName) jdk_52_method_21_code 7 (some .int) ({ frames := 0, cells := 0, slots := 0, locals := 0 } : Room) Z h0 #[(.ref ca), (.int (0 : Int32)), (.ref ba), (.int (0 : Int32)), (.int (1 : Int32))] (fun v h L => v = some (.int (1 : Int32)) ∧ Fr n0 L ∧ Keep h0 h [ba] ∧ own_StK Z h0 h ∧ Arv Z h ba kb .byte (1 : Int32) [.int (nar .byte c0)] (.int (0 : Int32))) := by
  refine own_go hw (plainFor_of_name pn_35) (fun m => ef_35_RIRII m ca (0 : Int32) ba (0 : Int32) (1 : Int32)) fun p e s m below meth c T0 C hret X0 e0 => ?_
  have N0 := Fr.nil n0
  refine sC C X0 d35_0 ?_
  refine wi C X0 #[.val (.ref ca), .val (.int (0 : Int32)), .val (.ref ba), .val (.int (0 : Int32)), .val (.int (1 : Int32)), .val (.int (0 : Int32)), .unset] d35_1 ?_
  refine si C X0 d35_3 ?_
  refine si C X0 d35_5 ?_
  refine cN C X0 d35_7 ((tlt (by decide : (0 : Int32) < (1 : Int32))).2.1) ?_
  refine sA C X0 d35_10 ?_
  refine sI C X0 d35_11 ?_
  refine yC C X0 e0 Ac (v := (.int c0)) d35_12 ?_
  refine wi C X0 #[.val (.ref ca), .val (.int (0 : Int32)), .val (.ref ba), .val (.int (0 : Int32)), .val (.int (1 : Int32)), .val (.int (0 : Int32)), .val (.int c0)] d35_13 ?_
  refine si C X0 d35_15 ?_
  refine sU C X0 d35_17 ?_
  refine cY C X0 d35_20 26 ((flt (own_le255 hm0)).2.2.2) ?_
  refine sA C X0 d35_26 ?_
  refine sI C X0 d35_27 ?_
  refine si C X0 d35_28 ?_
  refine sb C X0 d35_30 ?_
  refine uB C X0 e0 N0 gb Ab [(.int (nar .byte (c0.toInt8.toInt32)))] d35_31 fun T1 h1 lo1 X1 e1 N1 W1 V1 => ?_
  have KC1 : Keep h0 h1 [ba] := (Keep.refl h0 [ba]).wr W1 (Or.inl (List.mem_of_getElem? (i := 0) rfl))
  have SK1 : own_StK Z h0 h1 := (own_StK.refl Z h0).wr W1
  refine wc C X1 #[.val (.ref ca), .val (.int (1 : Int32)), .val (.ref ba), .val (.int (0 : Int32)), .val (.int (1 : Int32)), .val (.int (0 : Int32)), .val (.int c0)] d35_32 ?_
  refine wc C X1 #[.val (.ref ca), .val (.int (1 : Int32)), .val (.ref ba), .val (.int (1 : Int32)), .val (.int (1 : Int32)), .val (.int (0 : Int32)), .val (.int c0)] d35_35 ?_
  refine wc C X1 #[.val (.ref ca), .val (.int (1 : Int32)), .val (.ref ba), .val (.int (1 : Int32)), .val (.int (1 : Int32)), .val (.int (1 : Int32)), .val (.int c0)] d35_38 ?_
  refine sG C X1 d35_41 3 ?_
  refine si C X1 d35_3 ?_
  refine si C X1 d35_5 ?_
  refine cY C X1 d35_7 44 ((flt (by decide : ¬ ((1 : Int32) < (1 : Int32)))).2.1) ?_
  refine si C X1 d35_44 ?_
  exact rI C X1 e1 hret d35_46 ⟨rfl, N1, KC1, SK1, by rw [← own_bb c0]; exact V1⟩
theorem d34_0 : decode jdk_52_method_16_code 0 = .ok (.iload_n 2, 1) := by decide +kernel
theorem d34_1 : decode jdk_52_method_16_code 1 = .ok (.newarray .byte, 2) := by decide +kernel
theorem d34_3 : decode jdk_52_method_16_code 3 = .ok (.astore_n 3, 1) := by decide +kernel
theorem d34_4 : decode jdk_52_method_16_code 4 = .ok (.aload_n 0, 1) := by decide +kernel
theorem d34_5 : decode jdk_52_method_16_code 5 = .ok (.iload_n 1, 1) := by decide +kernel
theorem d34_6 : decode jdk_52_method_16_code 6 = .ok (.aload_n 3, 1) := by decide +kernel
theorem d34_7 : decode jdk_52_method_16_code 7 = .ok (.iconst 0, 1) := by decide +kernel
theorem d34_8 : decode jdk_52_method_16_code 8 = .ok (.iload_n 2, 1) := by decide +kernel
theorem d34_9 : decode jdk_52_method_16_code 9 = .ok (.invokestatic 115, 3) := by decide +kernel
theorem pd___CI_BII_I : parseMethodDescriptor "([CI[BII)I" = some ⟨[(.array .char), .int, (.array .byte), .int, .int], some .int⟩ := by decide +kernel
theorem d34_12 : decode jdk_52_method_16_code 12 = .ok (.istore 4, 2) := by decide +kernel
theorem d34_14 : decode jdk_52_method_16_code 14 = .ok (.iload 4, 2) := by decide +kernel
theorem d34_16 : decode jdk_52_method_16_code 16 = .ok (.iload_n 2, 1) := by decide +kernel
theorem d34_17 : decode jdk_52_method_16_code 17 = .ok (.if_icmp .eq 40, 3) := by decide +kernel
theorem d34_57 : decode jdk_52_method_16_code 57 = .ok (.aload_n 3, 1) := by decide +kernel
theorem d34_58 : decode jdk_52_method_16_code 58 = .ok (.areturn, 1) := by decide +kernel
theorem pn_34 : plainName "java/lang/StringUTF16" = true := by first | (simp [plainName, overriddenIn]; done) | decide +kernel
theorem ef_34_RII (m : MethodId) (y0 : Addr) (y1 : Int32) (y2 : Int32) : entryFrame m #[(.ref y0), (.int y1), (.int y2)] 6 = mkF m 0 #[.val (.ref y0), .val (.int y1), .val (.int y2), .unset, .unset, .unset] [] := by first | (simp [entryFrame, mkF, argsToLocals, Value.category]; done) | rfl
theorem rm_cpr1 (l : Launch) (Z : State) (a0 : Array Value) (hw : ∀ d ∈ tables_1, d.before a0 Z = true) (ca : Addr) (kc : ClassId) (c0 : Int32) (c1 : Int32) (h0 : Heap) (n0 : Nat) (Z0 : n0 ≤ h0.size) (Ac : Arv Z h0 ca kc .char (1 : Int32) [.int c0] (.int (0 : Int32))) (hm0 : c0 &&& 255 = c0) (hm1 : c1 &&& 255 = c1) :
    own_Met l (⟨"java/lang/StringUTF16", "compress", "([CII)[B"⟩ : MethodName) jdk_52_method_16_code 6 (some (.array .byte)) ({ frames := 1, cells := 1, slots := 1, locals := 18 } : Room) Z h0 #[(.ref ca), (.int (0 : Int32)), (.int (1 : Int32))] (fun v h L => ∃ ba kb, v = some (.ref ba) ∧ Fr n0 L ∧ Keep h0 h [] ∧ own_StK Z h0 h ∧ h0.size ≤ ba ∧ Exa Z h ba "[B" ∧ Arv Z h ba kb .byte (1 : Int32) [.int (nar .byte c0)] (.int (0 : Int32))) := by
  refine own_go hw (plainFor_of_name pn_34) (fun m => ef_34_RII m ca (0 : Int32) (1 : Int32)) fun p e s m below meth c T0 C hret X0 e0 => ?_
  have N0 := Fr.nil n0
  refine sI C X0 d34_0 ?_
  refine nE C X0 e0 (n := (1 : Int32)) 1 (ow35 C.w) d34_1 fun T1 h1 k1 b1 g1 X1 e1 E1 EB1 V1 => ?_
  have KC1 : Keep h0 h1 [] := (Keep.refl h0 []).ext E1
  have SK1 : own_StK Z h0 h1 := (own_StK.refl Z h0).ext E1
  have bo_b1 : h0.size ≤ b1 := by rw [g1]; exact Nat.le_refl _
  have ge_b1 : n0 ≤ b1 := by rw [g1]; exact Z0
  have ne_ca_b1 : ca ≠ b1 := Nat.ne_of_lt (by rw [g1]; exact Ac.lt)
  refine wA C X1 #[.val (.ref ca), .val (.int (0 : Int32)), .val (.int (1 : Int32)), .val (.ref b1), .unset, .unset] d34_3 ?_
  refine sA C X1 d34_4 ?_
  refine sI C X1 d34_5 ?_
  refine sA C X1 d34_6 ?_
  refine sC C X1 d34_7 ?_
  refine sI C X1 d34_8 ?_
  have f2 := (Ac.ext E1)
  refine cS C X1 e1 (rm_cmp1 l Z a0 hw ca kc b1 k1 c0 c1  h1 n0 (Nat.le_trans Z0 KC1.1) f2 V1 ge_b1 (Ne.symm ne_ca_b1) hm0 hm1) (W := 0) (ow175 C.w) (ow176 C.w) (ow177 C.w) (ow173 C.w) (argsL := [(.ref ca), (.int (0 : Int32)), (.ref b1), (.int (0 : Int32)), (.int (1 : Int32))]) (lenOf pd___CI_BII_I rfl) d34_9 fun v3 T3 lo3 X3 hQ3 => ?_
  obtain ⟨h3, e3⟩ : ∃ h', T3.heap = h' := ⟨_, rfl⟩
  rw [e3] at hQ3
  obtain ⟨rfl, Nq3, Kc3, Sc3, Ab3⟩ := hQ3
  have KC3 : Keep h0 h3 [] := Keep.trans KC1 Kc3 (allS (P := fun x => x ∈ ([] : List Addr) ∨ h0.size ≤ x) (Or.inr bo_b1) all0)
  have SK3 : own_StK Z h0 h3 := SK1.tr Sc3
  refine wi C X3 #[.val (.ref ca), .val (.int (0 : Int32)), .val (.int (1 : Int32)), .val (.ref b1), .val (.int (1 : Int32)), .unset] d34_12 ?_
  refine si C X3 d34_14 ?_
  refine sI C X3 d34_16 ?_
  refine cY C X3 d34_17 57 ((teq (by decide : (1 : Int32) = (1 : Int32))).1) ?_
  refine sA C X3 d34_57 ?_
  have f4 := (EB1.keep Kc3)
  exact rA C X3 e3 rfl hret d34_58 ⟨_, _, rfl, (N0.app Nq3), KC3, SK3, bo_b1, f4, Ab3⟩
theorem d36_0 : decode jdk_52_method_15_code 0 = .ok (.iload_n 1, 1) := by decide +kernel
theorem d36_1 : decode jdk_52_method_15_code 1 = .ok (.aload_n 0, 1) := by decide +kernel
theorem d36_2 : decode jdk_52_method_15_code 2 = .ok (.arraylength, 1) := by decide +kernel
theorem d36_3 : decode jdk_52_method_15_code 3 = .ok (.isub, 1) := by decide +kernel
theorem d36_4 : decode jdk_52_method_15_code 4 = .ok (.bipush 31, 2) := by decide +kernel
theorem d36_6 : decode jdk_52_method_15_code 6 = .ok (.iushr, 1) := by decide +kernel
theorem d36_7 : decode jdk_52_method_15_code 7 = .ok (.i2b, 1) := by decide +kernel
theorem d36_8 : decode jdk_52_method_15_code 8 = .ok (.ireturn, 1) := by decide +kernel
theorem pn_36 : plainName "java/lang/StringUTF16" = true := by first | (simp [plainName, overriddenIn]; done) | decide +kernel
theorem ef_36_RI (m : MethodId) (y0 : Addr) (y1 : Int32) : entryFrame m #[(.ref y0), (.int y1)] 2 = mkF m 0 #[.val (.ref y0), .val (.int y1)] [] := by first | (simp [entryFrame, mkF, argsToLocals, Value.category]; done) | rfl
theorem rm_cfa1 (l : Launch) (Z : State) (a0 : Array Value) (hw : ∀ d ∈ tables_1, d.before a0 Z = true) (ba : Addr) (kb : ClassId) (vs : List Value) (h0 : Heap) (n0 : Nat) (Z0 : n0 ≤ h0.size) (Ab : Arv Z h0 ba kb .byte (1 : Int32) vs (.int (0 : Int32))) :
    own_Met l (⟨"java/lang/StringUTF16", "coderFromArrayLen", "([BI)B"⟩ : MethodName) jdk_52_method_15_code 2 (some .byte) ({ frames := 0, cells := 0, slots := 0, locals := 0 } : Room) Z h0 #[(.ref ba), (.int (1 : Int32))] (fun v h L => v = some (.int (0 : Int32)) ∧ Fr n0 L ∧ h = h0) := by
  refine own_go hw (plainFor_of_name pn_36) (fun m => ef_36_RI m ba (1 : Int32)) fun p e s m below meth c T0 C hret X0 e0 => ?_
  have N0 := Fr.nil n0
  refine sI C X0 d36_0 ?_
  refine sA C X0 d36_1 ?_
  refine nA C X0 e0 Ab d36_2 ?_
  refine sS C X0 d36_3 ?_
  refine sB C X0 d36_4 ?_
  refine sR C X0 d36_6 ?_
  refine sb C X0 d36_7 ?_
  exact rN C X0 e0 (t := .byte) (by simp) hret d36_8 ⟨rfl, N0, rfl⟩
theorem rm_cmp2 (l : Launch) (Z : State) (a0 : Array Value) (hw : ∀ d ∈ tables_1, d.before a0 Z = true) (ca : Addr) (kc : ClassId) (ba : Addr) (kb : ClassId) (c0 : Int32) (c1 : Int32) (h0 : Heap) (n0 : Nat) (Z0 : n0 ≤ h0.size) (Ac : Arv Z h0 ca kc .char (2 : Int32) [.int c0, .int c1] (.int (0 : Int32))) (Ab : Arv Z h0 ba kb .byte (2 : Int32) [.int (0 : Int32), .int (0 : Int32)] (.int (0 : Int32))) (gb : n0 ≤ ba) (nbc : ba ≠ ca) (hm0 : c0 &&& 255 = c0) (hm1 : c1 &&& 255 = c1) :
    own_Met l (⟨"java/lang/StringUTF16", "compress", "([CI[BII)I"⟩ : MethodName) jdk_52_method_21_code 7 (some .int) ({ frames := 0, cells := 0, slots := 0, locals := 0 } : Room) Z h0 #[(.ref ca), (.int (0 : Int32)), (.ref ba), (.int (0 : Int32)), (.int (2 : Int32))] (fun v h L => v = some (.int (2 : Int32)) ∧ Fr n0 L ∧ Keep h0 h [ba] ∧ own_StK Z h0 h ∧ Arv Z h ba kb .byte (2 : Int32) [.int (nar .byte c0), .int (nar .byte c1)] (.int (0 : Int32))) := by
  refine own_go hw (plainFor_of_name pn_35) (fun m => ef_35_RIRII m ca (0 : Int32) ba (0 : Int32) (2 : Int32)) fun p e s m below meth c T0 C hret X0 e0 => ?_
  have N0 := Fr.nil n0
  refine sC C X0 d35_0 ?_
  refine wi C X0 #[.val (.ref ca), .val (.int (0 : Int32)), .val (.ref ba), .val (.int (0 : Int32)), .val (.int (2 : Int32)), .val (.int (0 : Int32)), .unset] d35_1 ?_
  refine si C X0 d35_3 ?_
  refine si C X0 d35_5 ?_
  refine cN C X0 d35_7 ((tlt (by decide : (0 : Int32) < (2 : Int32))).2.1) ?_
  refine sA C X0 d35_10 ?_
  refine sI C X0 d35_11 ?_
  refine yC C X0 e0 Ac (v := (.int c0)) d35_12 ?_
  refine wi C X0 #[.val (.ref ca), .val (.int (0 : Int32)), .val (.ref ba), .val (.int (0 : Int32)), .val (.int (2 : Int32)), .val (.int (0 : Int32)), .val (.int c0)] d35_13 ?_
  refine si C X0 d35_15 ?_
  refine sU C X0 d35_17 ?_
  refine cY C X0 d35_20 26 ((flt (own_le255 hm0)).2.2.2) ?_
  refine sA C X0 d35_26 ?_
  refine sI C X0 d35_27 ?_
  refine si C X0 d35_28 ?_
  refine sb C X0 d35_30 ?_
  refine uB C X0 e0 N0 gb Ab [(.int (nar .byte (c0.toInt8.toInt32))), (.int (0 : Int32))] d35_31 fun T1 h1 lo1 X1 e1 N1 W1 V1 => ?_
  have KC1 : Keep h0 h1 [ba] := (Keep.refl h0 [ba]).wr W1 (Or.inl (List.mem_of_getElem? (i := 0) rfl))
  have SK1 : own_StK Z h0 h1 := (own_StK.refl Z h0).wr W1
  refine wc C X1 #[.val (.ref ca), .val (.int (1 : Int32)), .val (.ref ba), .val (.int (0 : Int32)), .val (.int (2 : Int32)), .val (.int (0 : Int32)), .val (.int c0)] d35_32 ?_
  refine wc C X1 #[.val (.ref ca), .val (.int (1 : Int32)), .val (.ref ba), .val (.int (1 : Int32)), .val (.int (2 : Int32)), .val (.int (0 : Int32)), .val (.int c0)] d35_35 ?_
  refine wc C X1 #[.val (.ref ca), .val (.int (1 : Int32)), .val (.ref ba), .val (.int (1 : Int32)), .val (.int (2 : Int32)), .val (.int (1 : Int32)), .val (.int c0)] d35_38 ?_
  refine sG C X1 d35_41 3 ?_
  refine si C X1 d35_3 ?_
  refine si C X1 d35_5 ?_
  refine cN C X1 d35_7 ((tlt (by decide : (1 : Int32) < (2 : Int32))).2.1) ?_
  refine sA C X1 d35_10 ?_
  refine sI C X1 d35_11 ?_
  have f2 := (Ac.other W1 (Ne.symm nbc))
  refine yC C X1 e1 f2 (v := (.int c1)) d35_12 ?_
  refine wi C X1 #[.val (.ref ca), .val (.int (1 : Int32)), .val (.ref ba), .val (.int (1 : Int32)), .val (.int (2 : Int32)), .val (.int (1 : Int32)), .val (.int c1)] d35_13 ?_
  refine si C X1 d35_15 ?_
  refine sU C X1 d35_17 ?_
  refine cY C X1 d35_20 26 ((flt (own_le255 hm1)).2.2.2) ?_
  refine sA C X1 d35_26 ?_
  refine sI C X1 d35_27 ?_
  refine si C X1 d35_28 ?_
  refine sb C X1 d35_30 ?_
  refine uB C X1 e1 N1 gb V1 [(.int (nar .byte (c0.toInt8.toInt32))), (.int (nar .byte (c1.toInt8.toInt32)))] d35_31 fun T3 h3 lo3 X3 e3 N3 W3 V3 => ?_
  have KC3 : Keep h0 h3 [ba] := KC1.wr W3 (Or.inl (List.mem_of_getElem? (i := 0) rfl))
  have SK3 : own_StK Z h0 h3 := SK1.wr W3
  refine wc C X3 #[.val (.ref ca), .val (.int (2 : Int32)), .val (.ref ba), .val (.int (1 : Int32)), .val (.int (2 : Int32)), .val (.int (1 : Int32)), .val (.int c1)] d35_32 ?_
  refine wc C X3 #[.val (.ref ca), .val (.int (2 : Int32)), .val (.ref ba), .val (.int (2 : Int32)), .val (.int (2 : Int32)), .val (.int (1 : Int32)), .val (.int c1)] d35_35 ?_
  refine wc C X3 #[.val (.ref ca), .val (.int (2 : Int32)), .val (.ref ba), .val (.int (2 : Int32)), .val (.int (2 : Int32)), .val (.int (2 : Int32)), .val (.int c1)] d35_38 ?_
  refine sG C X3 d35_41 3 ?_
  refine si C X3 d35_3 ?_
  refine si C X3 d35_5 ?_
  refine cY C X3 d35_7 44 ((flt (by decide : ¬ ((2 : Int32) < (2 : Int32)))).2.1) ?_
  refine si C X3 d35_44 ?_
  exact rI C X3 e3 hret d35_46 ⟨rfl, N3, KC3, SK3, by rw [← own_bb c0, ← own_bb c1]; exact V3⟩
theorem rm_cpr2 (l : Launch) (Z : State) (a0 : Array Value) (hw : ∀ d ∈ tables_1, d.before a0 Z = true) (ca : Addr) (kc : ClassId) (c0 : Int32) (c1 : Int32) (h0 : Heap) (n0 : Nat) (Z0 : n0 ≤ h0.size) (Ac : Arv Z h0 ca kc .char (2 : Int32) [.int c0, .int c1] (.int (0 : Int32))) (hm0 : c0 &&& 255 = c0) (hm1 : c1 &&& 255 = c1) :
    own_Met l (⟨"java/lang/StringUTF16", "compress", "([CII)[B"⟩ : MethodName) jdk_52_method_16_code 6 (some (.array .byte)) ({ frames := 1, cells := 1, slots := 2, locals := 18 } : Room) Z h0 #[(.ref ca), (.int (0 : Int32)), (.int (2 : Int32))] (fun v h L => ∃ ba kb, v = some (.ref ba) ∧ Fr n0 L ∧ Keep h0 h [] ∧ own_StK Z h0 h ∧ h0.size ≤ ba ∧ Exa Z h ba "[B" ∧ Arv Z h ba kb .byte (2 : Int32) [.int (nar .byte c0), .int (nar .byte c1)] (.int (0 : Int32))) := by
  refine own_go hw (plainFor_of_name pn_34) (fun m => ef_34_RII m ca (0 : Int32) (2 : Int32)) fun p e s m below meth c T0 C hret X0 e0 => ?_
  have N0 := Fr.nil n0
  refine sI C X0 d34_0 ?_
  refine nE C X0 e0 (n := (2 : Int32)) 2 (ow35 C.w) d34_1 fun T1 h1 k1 b1 g1 X1 e1 E1 EB1 V1 => ?_
  have KC1 : Keep h0 h1 [] := (Keep.refl h0 []).ext E1
  have SK1 : own_StK Z h0 h1 := (own_StK.refl Z h0).ext E1
  have bo_b1 : h0.size ≤ b1 := by rw [g1]; exact Nat.le_refl _
  have ge_b1 : n0 ≤ b1 := by rw [g1]; exact Z0
  have ne_ca_b1 : ca ≠ b1 := Nat.ne_of_lt (by rw [g1]; exact Ac.lt)
  refine wA C X1 #[.val (.ref ca), .val (.int (0 : Int32)), .val (.int (2 : Int32)), .val (.ref b1), .unset, .unset] d34_3 ?_
  refine sA C X1 d34_4 ?_
  refine sI C X1 d34_5 ?_
  refine sA C X1 d34_6 ?_
  refine sC C X1 d34_7 ?_
  refine sI C X1 d34_8 ?_
  have f2 := (Ac.ext E1)
  refine cS C X1 e1 (rm_cmp2 l Z a0 hw ca kc b1 k1 c0 c1  h1 n0 (Nat.le_trans Z0 KC1.1) f2 V1 ge_b1 (Ne.symm ne_ca_b1) hm0 hm1) (W := 0) (ow175 C.w) (ow176 C.w) (ow177 C.w) (ow173 C.w) (argsL := [(.ref ca), (.int (0 : Int32)), (.ref b1), (.int (0 : Int32)), (.int (2 : Int32))]) (lenOf pd___CI_BII_I rfl) d34_9 fun v3 T3 lo3 X3 hQ3 => ?_
  obtain ⟨h3, e3⟩ : ∃ h', T3.heap = h' := ⟨_, rfl⟩
  rw [e3] at hQ3
  obtain ⟨rfl, Nq3, Kc3, Sc3, Ab3⟩ := hQ3
  have KC3 : Keep h0 h3 [] := Keep.trans KC1 Kc3 (allS (P := fun x => x ∈ ([] : List Addr) ∨ h0.size ≤ x) (Or.inr bo_b1) all0)
  have SK3 : own_StK Z h0 h3 := SK1.tr Sc3
  refine wi C X3 #[.val (.ref ca), .val (.int (0 : Int32)), .val (.int (2 : Int32)), .val (.ref b1), .val (.int (2 : Int32)), .unset] d34_12 ?_
  refine si C X3 d34_14 ?_
  refine sI C X3 d34_16 ?_
  refine cY C X3 d34_17 57 ((teq (by decide : (2 : Int32) = (2 : Int32))).1) ?_
  refine sA C X3 d34_57 ?_
  have f4 := (EB1.keep Kc3)
  exact rA C X3 e3 rfl hret d34_58 ⟨_, _, rfl, (N0.app Nq3), KC3, SK3, bo_b1, f4, Ab3⟩
theorem rm_cfa2 (l : Launch) (Z : State) (a0 : Array Value) (hw : ∀ d ∈ tables_1, d.before a0 Z = true) (ba : Addr) (kb : ClassId) (vs : List Value) (h0 : Heap) (n0 : Nat) (Z0 : n0 ≤ h0.size) (Ab : Arv Z h0 ba kb .byte (2 : Int32) vs (.int (0 : Int32))) :
    own_Met l (⟨"java/lang/StringUTF16", "coderFromArrayLen", "([BI)B"⟩ : MethodName) jdk_52_method_15_code 2 (some .byte) ({ frames := 0, cells := 0, slots := 0, locals := 0 } : Room) Z h0 #[(.ref ba), (.int (2 : Int32))] (fun v h L => v = some (.int (0 : Int32)) ∧ Fr n0 L ∧ h = h0) := by
  refine own_go hw (plainFor_of_name pn_36) (fun m => ef_36_RI m ba (2 : Int32)) fun p e s m below meth c T0 C hret X0 e0 => ?_
  have N0 := Fr.nil n0
  refine sI C X0 d36_0 ?_
  refine sA C X0 d36_1 ?_
  refine nA C X0 e0 Ab d36_2 ?_
  refine sS C X0 d36_3 ?_
  refine sB C X0 d36_4 ?_
  refine sR C X0 d36_6 ?_
  refine sb C X0 d36_7 ?_
  exact rN C X0 e0 (t := .byte) (by simp) hret d36_8 ⟨rfl, N0, rfl⟩
theorem d5_0 : decode jdk_42_method_149_code 0 = .ok (.aload_n 0, 1) := by decide +kernel
theorem d5_1 : decode jdk_42_method_149_code 1 = .ok (.invokespecial 1, 3) := by decide +kernel
theorem d5_4 : decode jdk_42_method_149_code 4 = .ok (.iload_n 3, 1) := by decide +kernel
theorem d5_5 : decode jdk_42_method_149_code 5 = .ok (.ifCond .ne 22, 3) := by decide +kernel
theorem d5_8 : decode jdk_42_method_149_code 8 = .ok (.aload_n 0, 1) := by decide +kernel
theorem d5_9 : decode jdk_42_method_149_code 9 = .ok (.ldc 7, 2) := by decide +kernel
theorem d5_11 : decode jdk_42_method_149_code 11 = .ok (.getfield 9, 3) := by decide +kernel
theorem d5_14 : decode jdk_42_method_149_code 14 = .ok (.putfield 9, 3) := by decide +kernel
theorem d5_17 : decode jdk_42_method_149_code 17 = .ok (.aload_n 0, 1) := by decide +kernel
theorem d5_18 : decode jdk_42_method_149_code 18 = .ok (.ldc 7, 2) := by decide +kernel
theorem d5_20 : decode jdk_42_method_149_code 20 = .ok (.getfield 15, 3) := by decide +kernel
theorem d5_23 : decode jdk_42_method_149_code 23 = .ok (.putfield 15, 3) := by decide +kernel
theorem d5_26 : decode jdk_42_method_149_code 26 = .ok (.return_, 1) := by decide +kernel
theorem pn_5 : plainName "java/lang/String" = true := by first | (simp [plainName, overriddenIn]; done) | decide +kernel
theorem ef_5_RRIIn (m : MethodId) (y0 : Addr) (y1 : Addr) (y2 : Int32) (y3 : Int32) : entryFrame m #[(.ref y0), (.ref y1), (.int y2), (.int y3), .null] 6 = mkF m 0 #[.val (.ref y0), .val (.ref y1), .val (.int y2), .val (.int y3), .val .null, .unset] [] := by first | (simp [entryFrame, mkF, argsToLocals, Value.category]; done) | rfl
theorem rm_ini0 (l : Launch) (Z : State) (a0 : Array Value) (hw : ∀ d ∈ tables_1, d.before a0 Z = true) (a : Addr) (ca : Addr) (kc : ClassId) (c0 : Int32) (c1 : Int32) (cs : Int32) (wf : Value) (h0 : Heap) (n0 : Nat) (Z0 : n0 ≤ h0.size) (Ss : own_St Z h0 cs wf) (Es : Exa Z h0 a "java/lang/String") (Fco : Fld Z h0 a "java/lang/String" "coder" "B" (.int (0 : Int32))) (Fva : Fld Z h0 a "java/lang/String" "value" "[B" .null) (Fha : Fld Z h0 a "java/lang/String" "hash" "I" (.int (0 : Int32))) (Fhz : Fld Z h0 a "java/lang/String" "hashIsZero" "Z" (.int (0 : Int32))) (ga : n0 ≤ a) (hm0 : c0 &&& 255 = c0) (hm1 : c1 &&& 255 = c1) :
    own_MetH l (⟨"java/lang/String", "<init>", "([CIILjava/lang/Void;)V"⟩ : MethodName) jdk_42_method_149_code 6 none ({ frames := 1, cells := 2, slots := 4, locals := 12 } : Room) Z consts_1 h0 #[(.ref a), (.ref ca), (.int (0 : Int32)), (.int (0 : Int32)), .null] (fun v h L => v = none ∧ Fr n0 L ∧ Keep h0 h [a] ∧ own_StK Z h0 h ∧ ∃ b k, own_Str Z h a b k 0 0 (0 : Int32) c0 c1) := by
  refine own_goH hw (plainFor_of_name pn_5) (fun m => ef_5_RRIIn m a ca (0 : Int32) (0 : Int32)) fun p e s m below meth c T0 C hret X0 e0 hS hsh hnm HC => ?_
  have N0 := Fr.nil n0
  obtain ⟨Sco, hcs, Sfo, hwf⟩ := id Ss
  refine sA C X0 d5_0 ?_
  refine iO C X0 e0 (W := 0) (ow33 C.w) (ow7 C.w) (ow8 C.w) d5_1 fun T1 X1 e1 => ?_
  refine sI C X1 d5_4 ?_
  refine bN C X1 d5_5 ((if0 _ _).trans (teq (by decide : (0 : Int32) = (0 : Int32))).2) ?_
  refine sA C X1 d5_8 ?_
  refine kS0 C X1 e1 hS (Nat.zero_le _) (own_EL hw) HC (ow34 C.w) (own_wS hw) own_mem d5_9 fun a2 T2 h2 vm2 k2 b2 kb2 C2 X2 e2 E2 hS2 hk2 HC2 A2 Fc2 Fv2 V2 Lt2 sf2 => ?_
  have KC2 : Keep h0 h2 [a] := (Keep.refl h0 [a]).ext E2
  have SK2 : own_StK Z h0 h2 := (own_StK.refl Z h0).ext E2
  have nl2 := sf2 a (HC2.safe (by rw [hsh]; exact Es.lt) (by rw [hsh]; exact own_safeN C.z.alike Es Fva))
  refine gF C2 X2 e2 Fv2 (ow40 C2.w) d5_11 fun T3 X3 e3 => ?_
  have f4 := (Exa.ext E2 Es)
  have f5 := (Fld.ext E2 Fva)
  refine pN C2 X3 e3 N0 ga f5 f4 (ow40 C2.w) (Or.inr ⟨(ow36 C2.w), rfl, hnm⟩) (ow24 C2.w) (ty := (.array .byte)) (v' := (.ref b2)) (by decide) rfl rfl d5_14 fun T6 h6 lo6 X6 e6 N6 W6 F6 => ?_
  have HS7 := CHr.wr W6 (HC2.safe (by rw [hsh]; exact Es.lt) (by rw [hsh]; exact own_safeN C.z.alike Es Fva)) HC2.1
  have HC7 := HC2.trans HS7
  have KC6 : Keep h0 h6 [a] := KC2.wr W6 (Or.inl (List.mem_of_getElem? (i := 0) rfl))
  have SK6 : own_StK Z h0 h6 := SK2.wr W6
  refine sA C2 X6 d5_17 ?_
  refine kA C2 X6 (ow34 C2.w) Lt2 d5_18 ?_
  have f8 := (Fld.other W6 Fc2 (Or.inl (Ne.symm nl2.1)))
  refine gF C2 X6 e6 f8 (ow41 C2.w) d5_20 fun T9 X9 e9 => ?_
  have f10 := (Exa.wr W6 f4)
  have f11 := (Fld.other W6 (Fld.ext E2 Fco) (Or.inr (slot_ne (Or.inr (ow37 C2.w)) (Or.inr (ow36 C2.w)) (by decide) (t := .byte) (t' := (.array .byte)) (by decide) (by decide))))
  refine pN C2 X9 e9 N6 ga f11 f10 (ow41 C2.w) (Or.inr ⟨(ow37 C2.w), rfl, hnm⟩) (ow24 C2.w) (ty := .byte) (v' := (.int (0 : Int32))) (by decide) rfl (by decide) d5_23 fun T12 h12 lo12 X12 e12 N12 W12 F12 => ?_
  have HS13 := CHr.wr W12 (HC7.safe (by rw [hsh]; exact Es.lt) (by rw [hsh]; exact own_safeN C.z.alike Es Fva)) HC7.1
  have HC13 := HC7.trans HS13
  have KC12 : Keep h0 h12 [a] := KC6.wr W12 (Or.inl (List.mem_of_getElem? (i := 0) rfl))
  have SK12 : own_StK Z h0 h12 := SK6.wr W12
  have f14 := (Exa.wr W12 f10)
  have f15 := (Fld.other W12 F6 (Or.inr (slot_ne (Or.inr (ow36 C2.w)) (Or.inr (ow37 C2.w)) (by decide) (t := (.array .byte)) (t' := .byte) (by decide) (by decide))))
  have f16 := (Fld.other W12 (Fld.other W6 (Fld.ext E2 Fha) (Or.inr (slot_ne (Or.inl (ow53 C2.w)) (Or.inr (ow36 C2.w)) (by decide) (t := .int) (t' := (.array .byte)) (by decide) (by decide)))) (Or.inr (slot_ne (Or.inl (ow53 C2.w)) (Or.inr (ow37 C2.w)) (by decide) (t := .int) (t' := .byte) (by decide) (by decide))))
  have f17 := (Fld.other W12 (Fld.other W6 (Fld.ext E2 Fhz) (Or.inr (slot_ne (Or.inl (ow55 C2.w)) (Or.inr (ow36 C2.w)) (by decide) (t := .boolean) (t' := (.array .byte)) (by decide) (by decide)))) (Or.inr (slot_ne (Or.inl (ow55 C2.w)) (Or.inr (ow37 C2.w)) (by decide) (t := .boolean) (t' := .byte) (by decide) (by decide))))
  have f18 := ((V2.other W6 (Ne.symm nl2.2)).other W12 (Ne.symm nl2.2))
  exact rVH C2 X12 e12 hS2 (Nat.le_trans (Nat.le_trans hk2 HS7.2.1) HS13.2.1) (own_EL hw) HC13 hret d5_26 ⟨rfl, N12, KC12, SK12, _, _, f14, F12, f15, f16, f17, ⟨f18, (fun q => absurd q (by decide)), (Or.inl rfl), hm0, hm1⟩, fun q => absurd rfl q, fun q => absurd rfl q⟩
theorem d5_27 : decode jdk_42_method_149_code 27 = .ok (.getstatic 38, 3) := by decide +kernel
theorem d5_30 : decode jdk_42_method_149_code 30 = .ok (.ifCond .eq 28, 3) := by decide +kernel
theorem d5_33 : decode jdk_42_method_149_code 33 = .ok (.aload_n 1, 1) := by decide +kernel
theorem d5_34 : decode jdk_42_method_149_code 34 = .ok (.iload_n 2, 1) := by decide +kernel
theorem d5_35 : decode jdk_42_method_149_code 35 = .ok (.iload_n 3, 1) := by decide +kernel
theorem d5_36 : decode jdk_42_method_149_code 36 = .ok (.invokestatic 177, 3) := by decide +kernel
theorem pd___CII__B : parseMethodDescriptor "([CII)[B" = some ⟨[(.array .char), .int, .int], some (.array .byte)⟩ := by decide +kernel
theorem d5_39 : decode jdk_42_method_149_code 39 = .ok (.astore 5, 2) := by decide +kernel
theorem d5_41 : decode jdk_42_method_149_code 41 = .ok (.aload_n 0, 1) := by decide +kernel
theorem d5_42 : decode jdk_42_method_149_code 42 = .ok (.aload 5, 2) := by decide +kernel
theorem d5_44 : decode jdk_42_method_149_code 44 = .ok (.iload_n 3, 1) := by decide +kernel
theorem d5_45 : decode jdk_42_method_149_code 45 = .ok (.invokestatic 47, 3) := by decide +kernel
theorem pd___BI_B : parseMethodDescriptor "([BI)B" = some ⟨[(.array .byte), .int], some .byte⟩ := by decide +kernel
theorem d5_48 : decode jdk_42_method_149_code 48 = .ok (.putfield 15, 3) := by decide +kernel
theorem d5_51 : decode jdk_42_method_149_code 51 = .ok (.aload_n 0, 1) := by decide +kernel
theorem d5_52 : decode jdk_42_method_149_code 52 = .ok (.aload 5, 2) := by decide +kernel
theorem d5_54 : decode jdk_42_method_149_code 54 = .ok (.putfield 9, 3) := by decide +kernel
theorem d5_57 : decode jdk_42_method_149_code 57 = .ok (.return_, 1) := by decide +kernel
theorem rm_ini1 (l : Launch) (Z : State) (a0 : Array Value) (hw : ∀ d ∈ tables_1, d.before a0 Z = true) (a : Addr) (ca : Addr) (kc : ClassId) (c0 : Int32) (c1 : Int32) (cs : Int32) (wf : Value) (h0 : Heap) (n0 : Nat) (Z0 : n0 ≤ h0.size) (Ss : own_St Z h0 cs wf) (Es : Exa Z h0 a "java/lang/String") (Fco : Fld Z h0 a "java/lang/String" "coder" "B" (.int (0 : Int32))) (Fva : Fld Z h0 a "java/lang/String" "value" "[B" .null) (Fha : Fld Z h0 a "java/lang/String" "hash" "I" (.int (0 : Int32))) (Fhz : Fld Z h0 a "java/lang/String" "hashIsZero" "Z" (.int (0 : Int32))) (ga : n0 ≤ a) (Ac : Arv Z h0 ca kc .char (1 : Int32) [.int c0] (.int (0 : Int32))) (hm0 : c0 &&& 255 = c0) (hm1 : c1 &&& 255 = c1) :
    own_MetH l (⟨"java/lang/String", "<init>", "([CIILjava/lang/Void;)V"⟩ : MethodName) jdk_42_method_149_code 6 none ({ frames := 2, cells := 1, slots := 1, locals := 35 } : Room) Z consts_1 h0 #[(.ref a), (.ref ca), (.int (0 : Int32)), (.int (1 : Int32)), .null] (fun v h L => v = none ∧ Fr n0 L ∧ Keep h0 h [a] ∧ own_StK Z h0 h ∧ ∃ b k, own_Str Z h a b k 0 0 (1 : Int32) c0 c1) := by
  refine own_goH hw (plainFor_of_name pn_5) (fun m => ef_5_RRIIn m a ca (0 : Int32) (1 : Int32)) fun p e s m below meth c T0 C hret X0 e0 hS hsh hnm HC => ?_
  have N0 := Fr.nil n0
  obtain ⟨Sco, hcs, Sfo, hwf⟩ := id Ss
  refine sA C X0 d5_0 ?_
  refine iO C X0 e0 (W := 0) (ow33 C.w) (ow7 C.w) (ow8 C.w) d5_1 fun T1 X1 e1 => ?_
  refine sI C X1 d5_4 ?_
  refine bY C X1 d5_5 27 ((if0 _ _).trans (feq (by decide : ¬ ((1 : Int32) = (0 : Int32)))).2) ?_
  refine gS C X1 e1 Sco (ow61 C.w) d5_27 fun T2 X2 e2 => ?_
  refine bN C X2 d5_30 ((if0 _ _).trans (feq hcs).1) ?_
  refine sA C X2 d5_33 ?_
  refine sI C X2 d5_34 ?_
  refine sI C X2 d5_35 ?_
  refine cS C X2 e2 (rm_cpr1 l Z a0 hw ca kc c0 c1  h0 n0 Z0 Ac hm0 hm1) (W := 0) (ow171 C.w) (ow172 C.w) (ow174 C.w) (ow173 C.w) (argsL := [(.ref ca), (.int (0 : Int32)), (.int (1 : Int32))]) (lenOf pd___CII__B rfl) d5_36 fun v3 T3 lo3 X3 hQ3 => ?_
  obtain ⟨h3, e3⟩ : ∃ h', T3.heap = h' := ⟨_, rfl⟩
  rw [e3] at hQ3
  obtain ⟨b3, kb3, rfl, Nq3, Kc3, Sc3, bo3, Eb3, Ab3⟩ := hQ3
  have HS4 := CHr.keep Kc3 all0 HC.1
  have HC4 := HC.trans HS4
  have KC3 : Keep h0 h3 [a] := Keep.trans (Keep.refl h0 [a]) Kc3 all0
  have SK3 : own_StK Z h0 h3 := (own_StK.refl Z h0).tr Sc3
  have ne_a_b3 : a ≠ b3 := Nat.ne_of_lt (Nat.lt_of_lt_of_le Es.lt bo3)
  refine wa C X3 #[.val (.ref a), .val (.ref ca), .val (.int (0 : Int32)), .val (.int (1 : Int32)), .val .null, .val (.ref b3)] d5_39 ?_
  refine sA C X3 d5_41 ?_
  refine sa C X3 d5_42 ?_
  refine sI C X3 d5_44 ?_
  refine cS C X3 e3 (rm_cfa1 l Z a0 hw b3 kb3 [.int (nar .byte c0)]  h3 n0 (Nat.le_trans Z0 KC3.1) Ab3) (W := 1) (ow178 C.w) (ow179 C.w) (ow180 C.w) (ow173 C.w) (argsL := [(.ref b3), (.int (1 : Int32))]) (lenOf pd___BI_B rfl) d5_45 fun v5 T5 lo5 X5 hQ5 => ?_
  obtain ⟨rfl, Nq5, e5⟩ := hQ5
  have f6 := (Es.keep Kc3)
  have f7 := (Fco.keep Kc3 nin0)
  refine pN C X5 e5 ((N0.app Nq3).app Nq5) ga f7 f6 (ow41 C.w) (Or.inr ⟨(ow37 C.w), rfl, hnm⟩) (ow24 C.w) (ty := .byte) (v' := (.int (0 : Int32))) (by decide) rfl (by decide) d5_48 fun T8 h8 lo8 X8 e8 N8 W8 F8 => ?_
  have HS9 := CHr.wr W8 (HC4.safe (by rw [hsh]; exact Es.lt) (by rw [hsh]; exact own_safeN C.z.alike Es Fva)) HC4.1
  have HC9 := HC4.trans HS9
  have KC8 : Keep h0 h8 [a] := KC3.wr W8 (Or.inl (List.mem_of_getElem? (i := 0) rfl))
  have SK8 : own_StK Z h0 h8 := SK3.wr W8
  refine sA C X8 d5_51 ?_
  refine sa C X8 d5_52 ?_
  have f10 := (Exa.wr W8 f6)
  have f11 := (Fld.other W8 (Fva.keep Kc3 nin0) (Or.inr (slot_ne (Or.inr (ow36 C.w)) (Or.inr (ow37 C.w)) (by decide) (t := (.array .byte)) (t' := .byte) (by decide) (by decide))))
  refine pN C X8 e8 N8 ga f11 f10 (ow40 C.w) (Or.inr ⟨(ow36 C.w), rfl, hnm⟩) (ow24 C.w) (ty := (.array .byte)) (v' := (.ref b3)) (by decide) rfl rfl d5_54 fun T12 h12 lo12 X12 e12 N12 W12 F12 => ?_
  have HS13 := CHr.wr W12 (HC9.safe (by rw [hsh]; exact Es.lt) (by rw [hsh]; exact own_safeN C.z.alike Es Fva)) HC9.1
  have HC13 := HC9.trans HS13
  have KC12 : Keep h0 h12 [a] := KC8.wr W12 (Or.inl (List.mem_of_getElem? (i := 0) rfl))
  have SK12 : own_StK Z h0 h12 := SK8.wr W12
  have f14 := (Exa.wr W12 f10)
  have f15 := (Fld.other W12 F8 (Or.inr (slot_ne (Or.inr (ow37 C.w)) (Or.inr (ow36 C.w)) (by decide) (t := .byte) (t' := (.array .byte)) (by decide) (by decide))))
  have f16 := (Fld.other W12 (Fld.other W8 (Fha.keep Kc3 nin0) (Or.inr (slot_ne (Or.inl (ow53 C.w)) (Or.inr (ow37 C.w)) (by decide) (t := .int) (t' := .byte) (by decide) (by decide)))) (Or.inr (slot_ne (Or.inl (ow53 C.w)) (Or.inr (ow36 C.w)) (by decide) (t := .int) (t' := (.array .byte)) (by decide) (by decide))))
  have f17 := (Fld.other W12 (Fld.other W8 (Fhz.keep Kc3 nin0) (Or.inr (slot_ne (Or.inl (ow55 C.w)) (Or.inr (ow37 C.w)) (by decide) (t := .boolean) (t' := .byte) (by decide) (by decide)))) (Or.inr (slot_ne (Or.inl (ow55 C.w)) (Or.inr (ow36 C.w)) (by decide) (t := .boolean) (t' := (.array .byte)) (by decide) (by decide))))
  have f18 := ((Ab3.other W8 (Ne.symm ne_a_b3)).other W12 (Ne.symm ne_a_b3))
  exact rVH C X12 e12 hS (Nat.le_trans (Nat.le_trans (Nat.le_trans (Nat.zero_le _) HS4.2.1) HS9.2.1) HS13.2.1) (own_EL hw) HC13 hret d5_57 ⟨rfl, N12, KC12, SK12, _, _, f14, f15, F12, f16, f17, ⟨f18, (fun q => absurd q (by decide)), (Or.inr (Or.inl rfl)), hm0, hm1⟩, fun q => absurd rfl q, fun q => absurd rfl q⟩
theorem rm_ini2 (l : Launch) (Z : State) (a0 : Array Value) (hw : ∀ d ∈ tables_1, d.before a0 Z = true) (a : Addr) (ca : Addr) (kc : ClassId) (c0 : Int32) (c1 : Int32) (cs : Int32) (wf : Value) (h0 : Heap) (n0 : Nat) (Z0 : n0 ≤ h0.size) (Ss : own_St Z h0 cs wf) (Es : Exa Z h0 a "java/lang/String") (Fco : Fld Z h0 a "java/lang/String" "coder" "B" (.int (0 : Int32))) (Fva : Fld Z h0 a "java/lang/String" "value" "[B" .null) (Fha : Fld Z h0 a "java/lang/String" "hash" "I" (.int (0 : Int32))) (Fhz : Fld Z h0 a "java/lang/String" "hashIsZero" "Z" (.int (0 : Int32))) (ga : n0 ≤ a) (Ac : Arv Z h0 ca kc .char (2 : Int32) [.int c0, .int c1] (.int (0 : Int32))) (hm0 : c0 &&& 255 = c0) (hm1 : c1 &&& 255 = c1) :
    own_MetH l (⟨"java/lang/String", "<init>", "([CIILjava/lang/Void;)V"⟩ : MethodName) jdk_42_method_149_code 6 none ({ frames := 2, cells := 1, slots := 2, locals := 35 } : Room) Z consts_1 h0 #[(.ref a), (.ref ca), (.int (0 : Int32)), (.int (2 : Int32)), .null] (fun v h L => v = none ∧ Fr n0 L ∧ Keep h0 h [a] ∧ own_StK Z h0 h ∧ ∃ b k, own_Str Z h a b k 0 0 (2 : Int32) c0 c1) := by
  refine own_goH hw (plainFor_of_name pn_5) (fun m => ef_5_RRIIn m a ca (0 : Int32) (2 : Int32)) fun p e s m below meth c T0 C hret X0 e0 hS hsh hnm HC => ?_
  have N0 := Fr.nil n0
  obtain ⟨Sco, hcs, Sfo, hwf⟩ := id Ss
  refine sA C X0 d5_0 ?_
  refine iO C X0 e0 (W := 0) (ow33 C.w) (ow7 C.w) (ow8 C.w) d5_1 fun T1 X1 e1 => ?_
  refine sI C X1 d5_4 ?_
  refine bY C X1 d5_5 27 ((if0 _ _).trans (feq (by decide : ¬ ((2 : Int32) = (0 : Int32)))).2) ?_
  refine gS C X1 e1 Sco (ow61 C.w) d5_27 fun T2 X2 e2 => ?_
  refine bN C X2 d5_30 ((if0 _ _).trans (feq hcs).1) ?_
  refine sA C X2 d5_33 ?_
  refine sI C X2 d5_34 ?_
  refine sI C X2 d5_35 ?_
  refine cS C X2 e2 (rm_cpr2 l Z a0 hw ca kc c0 c1  h0 n0 Z0 Ac hm0 hm1) (W := 0) (ow171 C.w) (ow172 C.w) (ow174 C.w) (ow173 C.w) (argsL := [(.ref ca), (.int (0 : Int32)), (.int (2 : Int32))]) (lenOf pd___CII__B rfl) d5_36 fun v3 T3 lo3 X3 hQ3 => ?_
  obtain ⟨h3, e3⟩ : ∃ h', T3.heap = h' := ⟨_, rfl⟩
  rw [e3] at hQ3
  obtain ⟨b3, kb3, rfl, Nq3, Kc3, Sc3, bo3, Eb3, Ab3⟩ := hQ3
  have HS4 := CHr.keep Kc3 all0 HC.1
  have HC4 := HC.trans HS4
  have KC3 : Keep h0 h3 [a] := Keep.trans (Keep.refl h0 [a]) Kc3 all0
  have SK3 : own_StK Z h0 h3 := (own_StK.refl Z h0).tr Sc3
  have ne_a_b3 : a ≠ b3 := Nat.ne_of_lt (Nat.lt_of_lt_of_le Es.lt bo3)
  refine wa C X3 #[.val (.ref a), .val (.ref ca), .val (.int (0 : Int32)), .val (.int (2 : Int32)), .val .null, .val (.ref b3)] d5_39 ?_
  refine sA C X3 d5_41 ?_
  refine sa C X3 d5_42 ?_
  refine sI C X3 d5_44 ?_
  refine cS C X3 e3 (rm_cfa2 l Z a0 hw b3 kb3 [.int (nar .byte c0), .int (nar .byte c1)]  h3 n0 (Nat.le_trans Z0 KC3.1) Ab3) (W := 1) (ow178 C.w) (ow179 C.w) (ow180 C.w) (ow173 C.w) (argsL := [(.ref b3), (.int (2 : Int32))]) (lenOf pd___BI_B rfl) d5_45 fun v5 T5 lo5 X5 hQ5 => ?_
  obtain ⟨rfl, Nq5, e5⟩ := hQ5
  have f6 := (Es.keep Kc3)
  have f7 := (Fco.keep Kc3 nin0)
  refine pN C X5 e5 ((N0.app Nq3).app Nq5) ga f7 f6 (ow41 C.w) (Or.inr ⟨(ow37 C.w), rfl, hnm⟩) (ow24 C.w) (ty := .byte) (v' := (.int (0 : Int32))) (by decide) rfl (by decide) d5_48 fun T8 h8 lo8 X8 e8 N8 W8 F8 => ?_
  have HS9 := CHr.wr W8 (HC4.safe (by rw [hsh]; exact Es.lt) (by rw [hsh]; exact own_safeN C.z.alike Es Fva)) HC4.1
  have HC9 := HC4.trans HS9
  have KC8 : Keep h0 h8 [a] := KC3.wr W8 (Or.inl (List.mem_of_getElem? (i := 0) rfl))
  have SK8 : own_StK Z h0 h8 := SK3.wr W8
  refine sA C X8 d5_51 ?_
  refine sa C X8 d5_52 ?_
  have f10 := (Exa.wr W8 f6)
  have f11 := (Fld.other W8 (Fva.keep Kc3 nin0) (Or.inr (slot_ne (Or.inr (ow36 C.w)) (Or.inr (ow37 C.w)) (by decide) (t := (.array .byte)) (t' := .byte) (by decide) (by decide))))
  refine pN C X8 e8 N8 ga f11 f10 (ow40 C.w) (Or.inr ⟨(ow36 C.w), rfl, hnm⟩) (ow24 C.w) (ty := (.array .byte)) (v' := (.ref b3)) (by decide) rfl rfl d5_54 fun T12 h12 lo12 X12 e12 N12 W12 F12 => ?_
  have HS13 := CHr.wr W12 (HC9.safe (by rw [hsh]; exact Es.lt) (by rw [hsh]; exact own_safeN C.z.alike Es Fva)) HC9.1
  have HC13 := HC9.trans HS13
  have KC12 : Keep h0 h12 [a] := KC8.wr W12 (Or.inl (List.mem_of_getElem? (i := 0) rfl))
  have SK12 : own_StK Z h0 h12 := SK8.wr W12
  have f14 := (Exa.wr W12 (Exa.wr W8 Eb3))
  have f15 := (Exa.wr W12 f10)
  have f16 := (Fld.other W12 F8 (Or.inr (slot_ne (Or.inr (ow37 C.w)) (Or.inr (ow36 C.w)) (by decide) (t := .byte) (t' := (.array .byte)) (by decide) (by decide))))
  have f17 := (Fld.other W12 (Fld.other W8 (Fha.keep Kc3 nin0) (Or.inr (slot_ne (Or.inl (ow53 C.w)) (Or.inr (ow37 C.w)) (by decide) (t := .int) (t' := .byte) (by decide) (by decide)))) (Or.inr (slot_ne (Or.inl (ow53 C.w)) (Or.inr (ow36 C.w)) (by decide) (t := .int) (t' := (.array .byte)) (by decide) (by decide))))
  have f18 := (Fld.other W12 (Fld.other W8 (Fhz.keep Kc3 nin0) (Or.inr (slot_ne (Or.inl (ow55 C.w)) (Or.inr (ow37 C.w)) (by decide) (t := .boolean) (t' := .byte) (by decide) (by decide)))) (Or.inr (slot_ne (Or.inl (ow55 C.w)) (Or.inr (ow36 C.w)) (by decide) (t := .boolean) (t' := (.array .byte)) (by decide) (by decide))))
  have f19 := ((Ab3.other W8 (Ne.symm ne_a_b3)).other W12 (Ne.symm ne_a_b3))
  exact rVH C X12 e12 hS (Nat.le_trans (Nat.le_trans (Nat.le_trans (Nat.zero_le _) HS4.2.1) HS9.2.1) HS13.2.1) (own_EL hw) HC13 hret d5_57 ⟨rfl, N12, KC12, SK12, _, _, f15, f16, F12, f17, f18, ⟨f19, (fun _ => f14), (Or.inr (Or.inr rfl)), hm0, hm1⟩, fun q => absurd rfl q, fun q => absurd rfl q⟩
theorem d4_0 : decode jdk_42_method_3_code 0 = .ok (.aload_n 0, 1) := by decide +kernel
theorem d4_1 : decode jdk_42_method_3_code 1 = .ok (.aload_n 1, 1) := by decide +kernel
theorem d4_2 : decode jdk_42_method_3_code 2 = .ok (.iconst 0, 1) := by decide +kernel
theorem d4_3 : decode jdk_42_method_3_code 3 = .ok (.aload_n 1, 1) := by decide +kernel
theorem d4_4 : decode jdk_42_method_3_code 4 = .ok (.arraylength, 1) := by decide +kernel
theorem d4_5 : decode jdk_42_method_3_code 5 = .ok (.aconst_null, 1) := by decide +kernel
theorem d4_6 : decode jdk_42_method_3_code 6 = .ok (.invokespecial 27, 3) := by decide +kernel
theorem pd___CIILjava_lang_Void__V : parseMethodDescriptor "([CIILjava/lang/Void;)V" = some ⟨[(.array .char), .int, .int, (.object "java/lang/Void")], none⟩ := by decide +kernel
theorem d4_9 : decode jdk_42_method_3_code 9 = .ok (.return_, 1) := by decide +kernel
theorem pn_4 : plainName "java/lang/String" = true := by first | (simp [plainName, overriddenIn]; done) | decide +kernel
theorem ef_4_RR (m : MethodId) (y0 : Addr) (y1 : Addr) : entryFrame m #[(.ref y0), (.ref y1)] 2 = mkF m 0 #[.val (.ref y0), .val (.ref y1)] [] := by first | (simp [entryFrame, mkF, argsToLocals, Value.category]; done) | rfl
theorem rm_inc0 (l : Launch) (Z : State) (a0 : Array Value) (hw : ∀ d ∈ tables_1, d.before a0 Z = true) (a : Addr) (ca : Addr) (kc : ClassId) (c0 : Int32) (c1 : Int32) (cs : Int32) (wf : Value) (h0 : Heap) (n0 : Nat) (Z0 : n0 ≤ h0.size) (Ss : own_St Z h0 cs wf) (Es : Exa Z h0 a "java/lang/String") (Fco : Fld Z h0 a "java/lang/String" "coder" "B" (.int (0 : Int32))) (Fva : Fld Z h0 a "java/lang/String" "value" "[B" .null) (Fha : Fld Z h0 a "java/lang/String" "hash" "I" (.int (0 : Int32))) (Fhz : Fld Z h0 a "java/lang/String" "hashIsZero" "Z" (.int (0 : Int32))) (ga : n0 ≤ a) (Ac : Arv Z h0 ca kc .char (0 : Int32) [] (.int (0 : Int32))) (hm0 : c0 &&& 255 = c0) (hm1 : c1 &&& 255 = c1) :
    own_MetH l (⟨"java/lang/String", "<init>", "([C)V"⟩ : MethodName) jdk_42_method_3_code 2 none ({ frames := 2, cells := 2, slots := 4, locals := 29 } : Room) Z consts_1 h0 #[(.ref a), (.ref ca)] (fun v h L => v = none ∧ Fr n0 L ∧ Keep h0 h [a] ∧ own_StK Z h0 h ∧ ∃ b k, own_Str Z h a b k 0 0 (0 : Int32) c0 c1) := by
  refine own_goH hw (plainFor_of_name pn_4) (fun m => ef_4_RR m a ca) fun p e s m below meth c T0 C hret X0 e0 hS hsh hnm HC => ?_
  have N0 := Fr.nil n0
  obtain ⟨Sco, hcs, Sfo, hwf⟩ := id Ss
  refine sA C X0 d4_0 ?_
  refine sA C X0 d4_1 ?_
  refine sC C X0 d4_2 ?_
  refine sA C X0 d4_3 ?_
  refine nA C X0 e0 Ac d4_4 ?_
  refine sZ C X0 d4_5 ?_
  refine cIH C X0 e0 hS (Nat.zero_le _) (own_EL hw) HC (rm_ini0 l Z a0 hw a ca kc c0 c1 cs wf  h0 n0 Z0 Ss Es Fco Fva Fha Fhz ga hm0 hm1) (W := 0) (ow29 C.w) (ow30 C.w) (ow32 C.w) (ow25 C.w) (argsL := [(.ref ca), (.int (0 : Int32)), (.int (0 : Int32)), .null]) (lenOf pd___CIILjava_lang_Void__V rfl) d4_6 fun v1 T1 lo1 vm1 k1 C1 X1 hS1 hk1 HC1 hQ1 => ?_
  obtain ⟨h1, e1⟩ : ∃ h', T1.heap = h' := ⟨_, rfl⟩
  rw [e1] at hQ1 hk1 HC1
  obtain ⟨rfl, Nq1, Kc1, Sc1, bS1, kS1, Sq1⟩ := hQ1
  have KC1 : Keep h0 h1 [a] := Keep.trans (Keep.refl h0 [a]) Kc1 (allS (P := fun x => x ∈ ([a] : List Addr) ∨ h0.size ≤ x) (Or.inl (List.mem_of_getElem? (i := 0) rfl)) all0)
  have SK1 : own_StK Z h0 h1 := (own_StK.refl Z h0).tr Sc1
  exact rVH C1 X1 e1 hS1 hk1 (own_EL hw) HC1 hret d4_9 ⟨rfl, (N0.app Nq1), KC1, SK1, _, _, Sq1⟩
theorem rm_inc1 (l : Launch) (Z : State) (a0 : Array Value) (hw : ∀ d ∈ tables_1, d.before a0 Z = true) (a : Addr) (ca : Addr) (kc : ClassId) (c0 : Int32) (c1 : Int32) (cs : Int32) (wf : Value) (h0 : Heap) (n0 : Nat) (Z0 : n0 ≤ h0.size) (Ss : own_St Z h0 cs wf) (Es : Exa Z h0 a "java/lang/String") (Fco : Fld Z h0 a "java/lang/String" "coder" "B" (.int (0 : Int32))) (Fva : Fld Z h0 a "java/lang/String" "value" "[B" .null) (Fha : Fld Z h0 a "java/lang/String" "hash" "I" (.int (0 : Int32))) (Fhz : Fld Z h0 a "java/lang/String" "hashIsZero" "Z" (.int (0 : Int32))) (ga : n0 ≤ a) (Ac : Arv Z h0 ca kc .char (1 : Int32) [.int c0] (.int (0 : Int32))) (hm0 : c0 &&& 255 = c0) (hm1 : c1 &&& 255 = c1) :
    own_MetH l (⟨"java/lang/String", "<init>", "([C)V"⟩ : MethodName) jdk_42_method_3_code 2 none ({ frames := 3, cells := 1, slots := 1, locals := 52 } : Room) Z consts_1 h0 #[(.ref a), (.ref ca)] (fun v h L => v = none ∧ Fr n0 L ∧ Keep h0 h [a] ∧ own_StK Z h0 h ∧ ∃ b k, own_Str Z h a b k 0 0 (1 : Int32) c0 c1) := by
  refine own_goH hw (plainFor_of_name pn_4) (fun m => ef_4_RR m a ca) fun p e s m below meth c T0 C hret X0 e0 hS hsh hnm HC => ?_
  have N0 := Fr.nil n0
  obtain ⟨Sco, hcs, Sfo, hwf⟩ := id Ss
  refine sA C X0 d4_0 ?_
  refine sA C X0 d4_1 ?_
  refine sC C X0 d4_2 ?_
  refine sA C X0 d4_3 ?_
  refine nA C X0 e0 Ac d4_4 ?_
  refine sZ C X0 d4_5 ?_
  refine cIH C X0 e0 hS (Nat.zero_le _) (own_EL hw) HC (rm_ini1 l Z a0 hw a ca kc c0 c1 cs wf  h0 n0 Z0 Ss Es Fco Fva Fha Fhz ga Ac hm0 hm1) (W := 0) (ow29 C.w) (ow30 C.w) (ow32 C.w) (ow25 C.w) (argsL := [(.ref ca), (.int (0 : Int32)), (.int (1 : Int32)), .null]) (lenOf pd___CIILjava_lang_Void__V rfl) d4_6 fun v1 T1 lo1 vm1 k1 C1 X1 hS1 hk1 HC1 hQ1 => ?_
  obtain ⟨h1, e1⟩ : ∃ h', T1.heap = h' := ⟨_, rfl⟩
  rw [e1] at hQ1 hk1 HC1
  obtain ⟨rfl, Nq1, Kc1, Sc1, bS1, kS1, Sq1⟩ := hQ1
  have KC1 : Keep h0 h1 [a] := Keep.trans (Keep.refl h0 [a]) Kc1 (allS (P := fun x => x ∈ ([a] : List Addr) ∨ h0.size ≤ x) (Or.inl (List.mem_of_getElem? (i := 0) rfl)) all0)
  have SK1 : own_StK Z h0 h1 := (own_StK.refl Z h0).tr Sc1
  exact rVH C1 X1 e1 hS1 hk1 (own_EL hw) HC1 hret d4_9 ⟨rfl, (N0.app Nq1), KC1, SK1, _, _, Sq1⟩
theorem rm_inc2 (l : Launch) (Z : State) (a0 : Array Value) (hw : ∀ d ∈ tables_1, d.before a0 Z = true) (a : Addr) (ca : Addr) (kc : ClassId) (c0 : Int32) (c1 : Int32) (cs : Int32) (wf : Value) (h0 : Heap) (n0 : Nat) (Z0 : n0 ≤ h0.size) (Ss : own_St Z h0 cs wf) (Es : Exa Z h0 a "java/lang/String") (Fco : Fld Z h0 a "java/lang/String" "coder" "B" (.int (0 : Int32))) (Fva : Fld Z h0 a "java/lang/String" "value" "[B" .null) (Fha : Fld Z h0 a "java/lang/String" "hash" "I" (.int (0 : Int32))) (Fhz : Fld Z h0 a "java/lang/String" "hashIsZero" "Z" (.int (0 : Int32))) (ga : n0 ≤ a) (Ac : Arv Z h0 ca kc .char (2 : Int32) [.int c0, .int c1] (.int (0 : Int32))) (hm0 : c0 &&& 255 = c0) (hm1 : c1 &&& 255 = c1) :
    own_MetH l (⟨"java/lang/String", "<init>", "([C)V"⟩ : MethodName) jdk_42_method_3_code 2 none ({ frames := 3, cells := 1, slots := 2, locals := 52 } : Room) Z consts_1 h0 #[(.ref a), (.ref ca)] (fun v h L => v = none ∧ Fr n0 L ∧ Keep h0 h [a] ∧ own_StK Z h0 h ∧ ∃ b k, own_Str Z h a b k 0 0 (2 : Int32) c0 c1) := by
  refine own_goH hw (plainFor_of_name pn_4) (fun m => ef_4_RR m a ca) fun p e s m below meth c T0 C hret X0 e0 hS hsh hnm HC => ?_
  have N0 := Fr.nil n0
  obtain ⟨Sco, hcs, Sfo, hwf⟩ := id Ss
  refine sA C X0 d4_0 ?_
  refine sA C X0 d4_1 ?_
  refine sC C X0 d4_2 ?_
  refine sA C X0 d4_3 ?_
  refine nA C X0 e0 Ac d4_4 ?_
  refine sZ C X0 d4_5 ?_
  refine cIH C X0 e0 hS (Nat.zero_le _) (own_EL hw) HC (rm_ini2 l Z a0 hw a ca kc c0 c1 cs wf  h0 n0 Z0 Ss Es Fco Fva Fha Fhz ga Ac hm0 hm1) (W := 0) (ow29 C.w) (ow30 C.w) (ow32 C.w) (ow25 C.w) (argsL := [(.ref ca), (.int (0 : Int32)), (.int (2 : Int32)), .null]) (lenOf pd___CIILjava_lang_Void__V rfl) d4_6 fun v1 T1 lo1 vm1 k1 C1 X1 hS1 hk1 HC1 hQ1 => ?_
  obtain ⟨h1, e1⟩ : ∃ h', T1.heap = h' := ⟨_, rfl⟩
  rw [e1] at hQ1 hk1 HC1
  obtain ⟨rfl, Nq1, Kc1, Sc1, bS1, kS1, Sq1⟩ := hQ1
  have KC1 : Keep h0 h1 [a] := Keep.trans (Keep.refl h0 [a]) Kc1 (allS (P := fun x => x ∈ ([a] : List Addr) ∨ h0.size ≤ x) (Or.inl (List.mem_of_getElem? (i := 0) rfl)) all0)
  have SK1 : own_StK Z h0 h1 := (own_StK.refl Z h0).tr Sc1
  exact rVH C1 X1 e1 hS1 hk1 (own_EL hw) HC1 hret d4_9 ⟨rfl, (N0.app Nq1), KC1, SK1, _, _, Sq1⟩
theorem own_ncx (x : Int32) : nar .char ((x &&& (255 : Int32)).toUInt32.toUInt16.toUInt32.toInt32) = x &&& (255 : Int32) := by rw [i2c_mask]; exact own_nc _ (own_an x)
theorem own_n2 {x : Int32} (h0 : ¬ own_n x = 0) (h1 : ¬ own_n x = 1) : own_n x = 2 := ((own_r3 x).resolve_left h0).resolve_left h1
theorem d3_0 : decode method_2_code 0 = .ok (.iload_n 0, 1) := by decide +kernel
theorem d3_1 : decode method_2_code 1 = .ok (.bipush 16, 2) := by decide +kernel
theorem d3_3 : decode method_2_code 3 = .ok (.iushr, 1) := by decide +kernel
theorem d3_4 : decode method_2_code 4 = .ok (.sipush 32767, 3) := by decide +kernel
theorem d3_7 : decode method_2_code 7 = .ok (.iand, 1) := by decide +kernel
theorem d3_8 : decode method_2_code 8 = .ok (.iconst 3, 1) := by decide +kernel
theorem d3_9 : decode method_2_code 9 = .ok (.irem, 1) := by decide +kernel
theorem d3_10 : decode method_2_code 10 = .ok (.istore_n 1, 1) := by decide +kernel
theorem d3_11 : decode method_2_code 11 = .ok (.iload_n 0, 1) := by decide +kernel
theorem d3_12 : decode method_2_code 12 = .ok (.sipush 255, 3) := by decide +kernel
theorem d3_15 : decode method_2_code 15 = .ok (.iand, 1) := by decide +kernel
theorem d3_16 : decode method_2_code 16 = .ok (.i2c, 1) := by decide +kernel
theorem d3_17 : decode method_2_code 17 = .ok (.istore_n 2, 1) := by decide +kernel
theorem d3_18 : decode method_2_code 18 = .ok (.iload_n 0, 1) := by decide +kernel
theorem d3_19 : decode method_2_code 19 = .ok (.bipush 8, 2) := by decide +kernel
theorem d3_21 : decode method_2_code 21 = .ok (.iushr, 1) := by decide +kernel
theorem d3_22 : decode method_2_code 22 = .ok (.sipush 255, 3) := by decide +kernel
theorem d3_25 : decode method_2_code 25 = .ok (.iand, 1) := by decide +kernel
theorem d3_26 : decode method_2_code 26 = .ok (.i2c, 1) := by decide +kernel
theorem d3_27 : decode method_2_code 27 = .ok (.istore_n 3, 1) := by decide +kernel
theorem d3_28 : decode method_2_code 28 = .ok (.iload_n 1, 1) := by decide +kernel
theorem d3_29 : decode method_2_code 29 = .ok (.ifCond .ne 14, 3) := by decide +kernel
theorem d3_32 : decode method_2_code 32 = .ok (.new 7, 3) := by decide +kernel
theorem d3_35 : decode method_2_code 35 = .ok (.dup, 1) := by decide +kernel
theorem d3_36 : decode method_2_code 36 = .ok (.iconst 0, 1) := by decide +kernel
theorem d3_37 : decode method_2_code 37 = .ok (.newarray .char, 2) := by decide +kernel
theorem d3_39 : decode method_2_code 39 = .ok (.invokespecial 9, 3) := by decide +kernel
theorem pd___C_V : parseMethodDescriptor "([C)V" = some ⟨[(.array .char)], none⟩ := by decide +kernel
theorem d3_42 : decode method_2_code 42 = .ok (.areturn, 1) := by decide +kernel
theorem d3_43 : decode method_2_code 43 = .ok (.iload_n 1, 1) := by decide +kernel
theorem d3_44 : decode method_2_code 44 = .ok (.iconst 1, 1) := by decide +kernel
theorem d3_45 : decode method_2_code 45 = .ok (.if_icmp .ne 18, 3) := by decide +kernel
theorem d3_48 : decode method_2_code 48 = .ok (.new 7, 3) := by decide +kernel
theorem d3_51 : decode method_2_code 51 = .ok (.dup, 1) := by decide +kernel
theorem d3_52 : decode method_2_code 52 = .ok (.iconst 1, 1) := by decide +kernel
theorem d3_53 : decode method_2_code 53 = .ok (.newarray .char, 2) := by decide +kernel
theorem d3_55 : decode method_2_code 55 = .ok (.dup, 1) := by decide +kernel
theorem d3_56 : decode method_2_code 56 = .ok (.iconst 0, 1) := by decide +kernel
theorem d3_57 : decode method_2_code 57 = .ok (.iload_n 2, 1) := by decide +kernel
theorem d3_58 : decode method_2_code 58 = .ok (.castore, 1) := by decide +kernel
theorem d3_59 : decode method_2_code 59 = .ok (.invokespecial 9, 3) := by decide +kernel
theorem d3_62 : decode method_2_code 62 = .ok (.areturn, 1) := by decide +kernel
theorem d3_63 : decode method_2_code 63 = .ok (.new 7, 3) := by decide +kernel
theorem d3_66 : decode method_2_code 66 = .ok (.dup, 1) := by decide +kernel
theorem d3_67 : decode method_2_code 67 = .ok (.iconst 2, 1) := by decide +kernel
theorem d3_68 : decode method_2_code 68 = .ok (.newarray .char, 2) := by decide +kernel
theorem d3_70 : decode method_2_code 70 = .ok (.dup, 1) := by decide +kernel
theorem d3_71 : decode method_2_code 71 = .ok (.iconst 0, 1) := by decide +kernel
theorem d3_72 : decode method_2_code 72 = .ok (.iload_n 2, 1) := by decide +kernel
theorem d3_73 : decode method_2_code 73 = .ok (.castore, 1) := by decide +kernel
theorem d3_74 : decode method_2_code 74 = .ok (.dup, 1) := by decide +kernel
theorem d3_75 : decode method_2_code 75 = .ok (.iconst 1, 1) := by decide +kernel
theorem d3_76 : decode method_2_code 76 = .ok (.iload_n 3, 1) := by decide +kernel
theorem d3_77 : decode method_2_code 77 = .ok (.castore, 1) := by decide +kernel
theorem d3_78 : decode method_2_code 78 = .ok (.invokespecial 9, 3) := by decide +kernel
theorem d3_81 : decode method_2_code 81 = .ok (.areturn, 1) := by decide +kernel
theorem pn_3 : plainName "com/example/holdback/holdback/util/StringIndexClearPinLaw" = true := by first | (simp [plainName, overriddenIn]; done) | decide +kernel
theorem ef_3_I (m : MethodId) (y0 : Int32) : entryFrame m #[(.int y0)] 4 = mkF m 0 #[.val (.int y0), .unset, .unset, .unset] [] := by first | (simp [entryFrame, mkF, argsToLocals, Value.category]; done) | rfl
theorem rm_mk (l : Launch) (Z : State) (a0 : Array Value) (hw : ∀ d ∈ tables_1, d.before a0 Z = true) (x : Int32) (cs : Int32) (wf : Value) (h0 : Heap) (n0 : Nat) (Z0 : n0 ≤ h0.size) (Ss : own_St Z h0 cs wf) :
    own_MetH l (⟨"com/example/holdback/holdback/util/StringIndexClearPinLaw", "mk", "(I)Ljava/lang/String;"⟩ : MethodName) method_2_code 4 (some (.object "java/lang/String")) ({ frames := 4, cells := 4, slots := 8, locals := 66 } : Room) Z consts_1 h0 #[(.int x)] (fun v h L => ∃ a b k, v = some (.ref a) ∧ Fr n0 L ∧ Keep h0 h [] ∧ own_StK Z h0 h ∧ h0.size ≤ a ∧ own_Str Z h a b k 0 0 (own_n x) (x &&& 255) (own_d x)) := by
  refine own_goH hw (plainFor_of_name pn_3) (fun m => ef_3_I m x) fun p e s m below meth c T0 C hret X0 e0 hS hsh hnm HC => ?_
  have N0 := Fr.nil n0
  obtain ⟨Sco, hcs, Sfo, hwf⟩ := id Ss
  refine sI C X0 d3_0 ?_
  refine sB C X0 d3_1 ?_
  refine sR C X0 d3_3 ?_
  refine sU C X0 d3_4 ?_
  refine sN C X0 d3_7 ?_
  refine sC C X0 d3_8 ?_
  refine sM3 C X0 d3_9 ?_
  refine wI C X0 #[.val (.int x), .val (.int ((((x.toUInt32 >>> ((16 : Int32) &&& 31).toUInt32).toInt32) &&& (32767 : Int32)) % (3 : Int32))), .unset, .unset] d3_10 ?_
  refine sI C X0 d3_11 ?_
  refine sU C X0 d3_12 ?_
  refine sN C X0 d3_15 ?_
  refine sc C X0 d3_16 ?_
  refine wI C X0 #[.val (.int x), .val (.int ((((x.toUInt32 >>> ((16 : Int32) &&& 31).toUInt32).toInt32) &&& (32767 : Int32)) % (3 : Int32))), .val (.int ((x &&& (255 : Int32)).toUInt32.toUInt16.toUInt32.toInt32)), .unset] d3_17 ?_
  refine sI C X0 d3_18 ?_
  refine sB C X0 d3_19 ?_
  refine sR C X0 d3_21 ?_
  refine sU C X0 d3_22 ?_
  refine sN C X0 d3_25 ?_
  refine sc C X0 d3_26 ?_
  refine wI C X0 #[.val (.int x), .val (.int ((((x.toUInt32 >>> ((16 : Int32) &&& 31).toUInt32).toInt32) &&& (32767 : Int32)) % (3 : Int32))), .val (.int ((x &&& (255 : Int32)).toUInt32.toUInt16.toUInt32.toInt32)), .val (.int ((((x.toUInt32 >>> ((8 : Int32) &&& 31).toUInt32).toInt32) &&& (255 : Int32)).toUInt32.toUInt16.toUInt32.toInt32))] d3_27 ?_
  refine sI C X0 d3_28 ?_
  by_cases hb29_1 : ((((x.toUInt32 >>> ((16 : Int32) &&& 31).toUInt32).toInt32) &&& (32767 : Int32)) % (3 : Int32)) = (0 : Int32)
  · refine bN C X0 d3_29 ((if0 _ _).trans (teq hb29_1).2) ?_
    refine nO C X0 e0 (ow23 C.w) (ow24 C.w) (ow25 C.w) d3_32 fun T2 h2 b2 g2 X2 e2 E2 A2 D2 => ?_
    have HS3 := CHr.ext E2 HC.1
    have HC3 := HC.trans HS3
    have KC2 : Keep h0 h2 [] := (Keep.refl h0 []).ext E2
    have SK2 : own_StK Z h0 h2 := (own_StK.refl Z h0).ext E2
    have bo_b2 : h0.size ≤ b2 := by rw [g2]; exact Nat.le_refl _
    have ge_b2 : n0 ≤ b2 := by rw [g2]; exact Z0
    have F_value_b2 : Fld Z h2 b2 "java/lang/String" "value" "[B" .null := D2 (Or.inr (ow36 C.w)) (ty := (.array .byte)) (by decide)
    have F_coder_b2 : Fld Z h2 b2 "java/lang/String" "coder" "B" (.int (0 : Int32)) := D2 (Or.inr (ow37 C.w)) (ty := .byte) (by decide)
    have F_hash_b2 : Fld Z h2 b2 "java/lang/String" "hash" "I" (.int (0 : Int32)) := D2 (Or.inl (ow53 C.w)) (ty := .int) (by decide)
    have F_hashIsZero_b2 : Fld Z h2 b2 "java/lang/String" "hashIsZero" "Z" (.int (0 : Int32)) := D2 (Or.inl (ow55 C.w)) (ty := .boolean) (by decide)
    refine sD C X2 d3_35 ?_
    refine sC C X2 d3_36 ?_
    refine nC C X2 e2 (n := (0 : Int32)) 0 (ow9 C.w) d3_37 fun T4 h4 k4 b4 g4 X4 e4 E4 V4 B4 => ?_
    have HS5 := CHr.ext E4 HC3.1
    have HC5 := HC3.trans HS5
    have KC4 : Keep h0 h4 [] := KC2.ext E4
    have SK4 : own_StK Z h0 h4 := SK2.ext E4
    have bo_b4 : h0.size ≤ b4 := by rw [g4]; exact KC2.1
    have ge_b4 : n0 ≤ b4 := by rw [g4]; exact (Nat.le_trans Z0 KC2.1)
    have ne_b2_b4 : b2 ≠ b4 := Nat.ne_of_lt (by rw [g4]; exact A2.lt)
    have f6 := (Exa.ext E4 A2)
    have f7 := (Fld.ext E4 F_coder_b2)
    have f8 := (Fld.ext E4 F_value_b2)
    have f9 := (Fld.ext E4 F_hash_b2)
    have f10 := (Fld.ext E4 F_hashIsZero_b2)
    refine cIH C X4 e4 hS (Nat.le_trans (Nat.le_trans (Nat.zero_le _) HS3.2.1) HS5.2.1) (own_EL hw) HC5 (rm_inc0 l Z a0 hw b2 b4 k4 (x &&& 255) (own_d x) cs wf  h4 n0 (Nat.le_trans Z0 KC4.1) (Ss.k SK4) f6 f7 f8 f9 f10 ge_b2 V4 (own_an _) (own_an _)) (W := 1) (ow26 C.w) (ow27 C.w) (ow28 C.w) (ow25 C.w) (argsL := [(.ref b4)]) (lenOf pd___C_V rfl) d3_39 fun v11 T11 lo11 vm11 k11 C11 X11 hS11 hk11 HC11 hQ11 => ?_
    obtain ⟨h11, e11⟩ : ∃ h', T11.heap = h' := ⟨_, rfl⟩
    rw [e11] at hQ11 hk11 HC11
    obtain ⟨rfl, Nq11, Kc11, Sc11, bS11, kS11, Sq11⟩ := hQ11
    have KC11 : Keep h0 h11 [] := Keep.trans KC4 Kc11 (allS (P := fun x => x ∈ ([] : List Addr) ∨ h0.size ≤ x) (Or.inr bo_b2) all0)
    have SK11 : own_StK Z h0 h11 := SK4.tr Sc11
    exact rAH C11 X11 e11 hS11 hk11 (own_EL hw) HC11 rfl hret d3_42 ⟨_, _, _, rfl, (N0.app Nq11), KC11, SK11, bo_b2, by rw [show own_n x = (0 : Int32) from hb29_1]; exact Sq11⟩
  · refine bY C X0 d3_29 43 ((if0 _ _).trans (feq hb29_1).2) ?_
    refine sI C X0 d3_43 ?_
    refine sC C X0 d3_44 ?_
    by_cases hb45_12 : ((((x.toUInt32 >>> ((16 : Int32) &&& 31).toUInt32).toInt32) &&& (32767 : Int32)) % (3 : Int32)) = (1 : Int32)
    · refine cN C X0 d3_45 ((teq hb45_12).2) ?_
      refine nO C X0 e0 (ow23 C.w) (ow24 C.w) (ow25 C.w) d3_48 fun T13 h13 b13 g13 X13 e13 E13 A13 D13 => ?_
      have HS14 := CHr.ext E13 HC.1
      have HC14 := HC.trans HS14
      have KC13 : Keep h0 h13 [] := (Keep.refl h0 []).ext E13
      have SK13 : own_StK Z h0 h13 := (own_StK.refl Z h0).ext E13
      have bo_b13 : h0.size ≤ b13 := by rw [g13]; exact Nat.le_refl _
      have ge_b13 : n0 ≤ b13 := by rw [g13]; exact Z0
      have F_value_b13 : Fld Z h13 b13 "java/lang/String" "value" "[B" .null := D13 (Or.inr (ow36 C.w)) (ty := (.array .byte)) (by decide)
      have F_coder_b13 : Fld Z h13 b13 "java/lang/String" "coder" "B" (.int (0 : Int32)) := D13 (Or.inr (ow37 C.w)) (ty := .byte) (by decide)
      have F_hash_b13 : Fld Z h13 b13 "java/lang/String" "hash" "I" (.int (0 : Int32)) := D13 (Or.inl (ow53 C.w)) (ty := .int) (by decide)
      have F_hashIsZero_b13 : Fld Z h13 b13 "java/lang/String" "hashIsZero" "Z" (.int (0 : Int32)) := D13 (Or.inl (ow55 C.w)) (ty := .boolean) (by decide)
      refine sD C X13 d3_51 ?_
      refine sC C X13 d3_52 ?_
      refine nC C X13 e13 (n := (1 : Int32)) 1 (ow9 C.w) d3_53 fun T15 h15 k15 b15 g15 X15 e15 E15 V15 B15 => ?_
      have HS16 := CHr.ext E15 HC14.1
      have HC16 := HC14.trans HS16
      have KC15 : Keep h0 h15 [] := KC13.ext E15
      have SK15 : own_StK Z h0 h15 := SK13.ext E15
      have bo_b15 : h0.size ≤ b15 := by rw [g15]; exact KC13.1
      have ge_b15 : n0 ≤ b15 := by rw [g15]; exact (Nat.le_trans Z0 KC13.1)
      have ne_b13_b15 : b13 ≠ b15 := Nat.ne_of_lt (by rw [g15]; exact A13.lt)
      refine sD C X15 d3_55 ?_
      refine sC C X15 d3_56 ?_
      refine sI C X15 d3_57 ?_
      refine uC C X15 e15 N0 ge_b15 V15 [(.int (nar .char ((x &&& (255 : Int32)).toUInt32.toUInt16.toUInt32.toInt32)))] d3_58 fun T17 h17 lo17 X17 e17 N17 W17 V17 => ?_
      have HS18 := CHr.wr W17 (Safe.arv C.z.alike V15 (by decide)) HC16.1
      have HC18 := HC16.trans HS18
      have KC17 : Keep h0 h17 [] := KC15.wr W17 (Or.inr bo_b15)
      have SK17 : own_StK Z h0 h17 := SK15.wr W17
      have f19 := (Exa.wr W17 (Exa.ext E15 A13))
      have f20 := (Fld.other W17 (Fld.ext E15 F_coder_b13) (Or.inl ne_b13_b15))
      have f21 := (Fld.other W17 (Fld.ext E15 F_value_b13) (Or.inl ne_b13_b15))
      have f22 := (Fld.other W17 (Fld.ext E15 F_hash_b13) (Or.inl ne_b13_b15))
      have f23 := (Fld.other W17 (Fld.ext E15 F_hashIsZero_b13) (Or.inl ne_b13_b15))
      refine cIH C X17 e17 hS (Nat.le_trans (Nat.le_trans (Nat.le_trans (Nat.zero_le _) HS14.2.1) HS16.2.1) HS18.2.1) (own_EL hw) HC18 (rm_inc1 l Z a0 hw b13 b15 k15 (x &&& 255) (own_d x) cs wf  h17 n0 (Nat.le_trans Z0 KC17.1) (Ss.k SK17) f19 f20 f21 f22 f23 ge_b13 (by have q := V17; simp only [own_ncx] at q; exact q) (own_an _) (own_an _)) (W := 1) (ow26 C.w) (ow27 C.w) (ow28 C.w) (ow25 C.w) (argsL := [(.ref b15)]) (lenOf pd___C_V rfl) d3_59 fun v24 T24 lo24 vm24 k24 C24 X24 hS24 hk24 HC24 hQ24 => ?_
      obtain ⟨h24, e24⟩ : ∃ h', T24.heap = h' := ⟨_, rfl⟩
      rw [e24] at hQ24 hk24 HC24
      obtain ⟨rfl, Nq24, Kc24, Sc24, bS24, kS24, Sq24⟩ := hQ24
      have KC24 : Keep h0 h24 [] := Keep.trans KC17 Kc24 (allS (P := fun x => x ∈ ([] : List Addr) ∨ h0.size ≤ x) (Or.inr bo_b13) all0)
      have SK24 : own_StK Z h0 h24 := SK17.tr Sc24
      exact rAH C24 X24 e24 hS24 hk24 (own_EL hw) HC24 rfl hret d3_62 ⟨_, _, _, rfl, (N17.app Nq24), KC24, SK24, bo_b13, by rw [show own_n x = (1 : Int32) from hb45_12]; exact Sq24⟩
    · refine cY C X0 d3_45 63 ((feq hb45_12).2) ?_
      refine nO C X0 e0 (ow23 C.w) (ow24 C.w) (ow25 C.w) d3_63 fun T25 h25 b25 g25 X25 e25 E25 A25 D25 => ?_
      have HS26 := CHr.ext E25 HC.1
      have HC26 := HC.trans HS26
      have KC25 : Keep h0 h25 [] := (Keep.refl h0 []).ext E25
      have SK25 : own_StK Z h0 h25 := (own_StK.refl Z h0).ext E25
      have bo_b25 : h0.size ≤ b25 := by rw [g25]; exact Nat.le_refl _
      have ge_b25 : n0 ≤ b25 := by rw [g25]; exact Z0
      have F_value_b25 : Fld Z h25 b25 "java/lang/String" "value" "[B" .null := D25 (Or.inr (ow36 C.w)) (ty := (.array .byte)) (by decide)
      have F_coder_b25 : Fld Z h25 b25 "java/lang/String" "coder" "B" (.int (0 : Int32)) := D25 (Or.inr (ow37 C.w)) (ty := .byte) (by decide)
      have F_hash_b25 : Fld Z h25 b25 "java/lang/String" "hash" "I" (.int (0 : Int32)) := D25 (Or.inl (ow53 C.w)) (ty := .int) (by decide)
      have F_hashIsZero_b25 : Fld Z h25 b25 "java/lang/String" "hashIsZero" "Z" (.int (0 : Int32)) := D25 (Or.inl (ow55 C.w)) (ty := .boolean) (by decide)
      refine sD C X25 d3_66 ?_
      refine sC C X25 d3_67 ?_
      refine nC C X25 e25 (n := (2 : Int32)) 2 (ow9 C.w) d3_68 fun T27 h27 k27 b27 g27 X27 e27 E27 V27 B27 => ?_
      have HS28 := CHr.ext E27 HC26.1
      have HC28 := HC26.trans HS28
      have KC27 : Keep h0 h27 [] := KC25.ext E27
      have SK27 : own_StK Z h0 h27 := SK25.ext E27
      have bo_b27 : h0.size ≤ b27 := by rw [g27]; exact KC25.1
      have ge_b27 : n0 ≤ b27 := by rw [g27]; exact (Nat.le_trans Z0 KC25.1)
      have ne_b25_b27 : b25 ≠ b27 := Nat.ne_of_lt (by rw [g27]; exact A25.lt)
      refine sD C X27 d3_70 ?_
      refine sC C X27 d3_71 ?_
      refine sI C X27 d3_72 ?_
      refine uC C X27 e27 N0 ge_b27 V27 [(.int (nar .char ((x &&& (255 : Int32)).toUInt32.toUInt16.toUInt32.toInt32))), (.int (0 : Int32))] d3_73 fun T29 h29 lo29 X29 e29 N29 W29 V29 => ?_
      have HS30 := CHr.wr W29 (Safe.arv C.z.alike V27 (by decide)) HC28.1
      have HC30 := HC28.trans HS30
      have KC29 : Keep h0 h29 [] := KC27.wr W29 (Or.inr bo_b27)
      have SK29 : own_StK Z h0 h29 := SK27.wr W29
      refine sD C X29 d3_74 ?_
      refine sC C X29 d3_75 ?_
      refine sI C X29 d3_76 ?_
      refine uC C X29 e29 N29 ge_b27 V29 [(.int (nar .char ((x &&& (255 : Int32)).toUInt32.toUInt16.toUInt32.toInt32))), (.int (nar .char ((((x.toUInt32 >>> ((8 : Int32) &&& 31).toUInt32).toInt32) &&& (255 : Int32)).toUInt32.toUInt16.toUInt32.toInt32)))] d3_77 fun T31 h31 lo31 X31 e31 N31 W31 V31 => ?_
      have HS32 := CHr.wr W31 (Safe.arv C.z.alike V29 (by decide)) HC30.1
      have HC32 := HC30.trans HS32
      have KC31 : Keep h0 h31 [] := KC29.wr W31 (Or.inr bo_b27)
      have SK31 : own_StK Z h0 h31 := SK29.wr W31
      have f33 := (Exa.wr W31 (Exa.wr W29 (Exa.ext E27 A25)))
      have f34 := (Fld.other W31 (Fld.other W29 (Fld.ext E27 F_coder_b25) (Or.inl ne_b25_b27)) (Or.inl ne_b25_b27))
      have f35 := (Fld.other W31 (Fld.other W29 (Fld.ext E27 F_value_b25) (Or.inl ne_b25_b27)) (Or.inl ne_b25_b27))
      have f36 := (Fld.other W31 (Fld.other W29 (Fld.ext E27 F_hash_b25) (Or.inl ne_b25_b27)) (Or.inl ne_b25_b27))
      have f37 := (Fld.other W31 (Fld.other W29 (Fld.ext E27 F_hashIsZero_b25) (Or.inl ne_b25_b27)) (Or.inl ne_b25_b27))
      refine cIH C X31 e31 hS (Nat.le_trans (Nat.le_trans (Nat.le_trans (Nat.le_trans (Nat.zero_le _) HS26.2.1) HS28.2.1) HS30.2.1) HS32.2.1) (own_EL hw) HC32 (rm_inc2 l Z a0 hw b25 b27 k27 (x &&& 255) (own_d x) cs wf  h31 n0 (Nat.le_trans Z0 KC31.1) (Ss.k SK31) f33 f34 f35 f36 f37 ge_b25 (by have q := V31; simp only [own_ncx] at q; exact q) (own_an _) (own_an _)) (W := 1) (ow26 C.w) (ow27 C.w) (ow28 C.w) (ow25 C.w) (argsL := [(.ref b27)]) (lenOf pd___C_V rfl) d3_78 fun v38 T38 lo38 vm38 k38 C38 X38 hS38 hk38 HC38 hQ38 => ?_
      obtain ⟨h38, e38⟩ : ∃ h', T38.heap = h' := ⟨_, rfl⟩
      rw [e38] at hQ38 hk38 HC38
      obtain ⟨rfl, Nq38, Kc38, Sc38, bS38, kS38, Sq38⟩ := hQ38
      have KC38 : Keep h0 h38 [] := Keep.trans KC31 Kc38 (allS (P := fun x => x ∈ ([] : List Addr) ∨ h0.size ≤ x) (Or.inr bo_b25) all0)
      have SK38 : own_StK Z h0 h38 := SK31.tr Sc38
      exact rAH C38 X38 e38 hS38 hk38 (own_EL hw) HC38 rfl hret d3_81 ⟨_, _, _, rfl, (N31.app Nq38), KC38, SK38, bo_b25, by rw [show own_n x = (2 : Int32) from own_n2 hb29_1 hb45_12]; exact Sq38⟩
theorem d1_0 : decode prog_76_method_1_code 0 = .ok (.aload_n 0, 1) := by decide +kernel
theorem d1_1 : decode prog_76_method_1_code 1 = .ok (.invokespecial 1, 3) := by decide +kernel
theorem d1_4 : decode prog_76_method_1_code 4 = .ok (.aload_n 0, 1) := by decide +kernel
theorem d1_5 : decode prog_76_method_1_code 5 = .ok (.sipush 512, 3) := by decide +kernel
theorem d1_8 : decode prog_76_method_1_code 8 = .ok (.newarray .char, 2) := by decide +kernel
theorem d1_10 : decode prog_76_method_1_code 10 = .ok (.putfield 9, 3) := by decide +kernel
theorem d1_13 : decode prog_76_method_1_code 13 = .ok (.aload_n 0, 1) := by decide +kernel
theorem d1_14 : decode prog_76_method_1_code 14 = .ok (.bipush 65, 2) := by decide +kernel
theorem d1_16 : decode prog_76_method_1_code 16 = .ok (.newarray .int, 2) := by decide +kernel
theorem d1_18 : decode prog_76_method_1_code 18 = .ok (.putfield 13, 3) := by decide +kernel
theorem d1_21 : decode prog_76_method_1_code 21 = .ok (.aload_n 0, 1) := by decide +kernel
theorem d1_22 : decode prog_76_method_1_code 22 = .ok (.bipush 64, 2) := by decide +kernel
theorem d1_24 : decode prog_76_method_1_code 24 = .ok (.newarray .int, 2) := by decide +kernel
theorem d1_26 : decode prog_76_method_1_code 26 = .ok (.putfield 17, 3) := by decide +kernel
theorem d1_29 : decode prog_76_method_1_code 29 = .ok (.aload_n 0, 1) := by decide +kernel
theorem d1_30 : decode prog_76_method_1_code 30 = .ok (.sipush 128, 3) := by decide +kernel
theorem d1_33 : decode prog_76_method_1_code 33 = .ok (.newarray .int, 2) := by decide +kernel
theorem d1_35 : decode prog_76_method_1_code 35 = .ok (.putfield 20, 3) := by decide +kernel
theorem d1_38 : decode prog_76_method_1_code 38 = .ok (.return_, 1) := by decide +kernel
theorem pn_1 : plainName "com/example/holdback/holdback/util/StringIndex" = true := by first | (simp [plainName, overriddenIn]; done) | decide +kernel
theorem ef_1_R (m : MethodId) (y0 : Addr) : entryFrame m #[(.ref y0)] 1 = mkF m 0 #[.val (.ref y0)] [] := by first | (simp [entryFrame, mkF, argsToLocals, Value.category]; done) | rfl
theorem rm_sin (l : Launch) (Z : State) (a0 : Array Value) (hw : ∀ d ∈ tables_1, d.before a0 Z = true) (o : Addr) (h0 : Heap) (n0 : Nat) (Z0 : n0 ≤ h0.size) (Eo : Exa Z h0 o "com/example/holdback/holdback/util/StringIndex") (Fchars : Fld Z h0 o "com/example/holdback/holdback/util/StringIndex" "chars" "[C" .null) (Fstarts : Fld Z h0 o "com/example/holdback/holdback/util/StringIndex" "starts" "[I" .null) (Fhashes : Fld Z h0 o "com/example/holdback/holdback/util/StringIndex" "hashes" "[I" .null) (Fslots : Fld Z h0 o "com/example/holdback/holdback/util/StringIndex" "slots" "[I" .null) (Fsize : Fld Z h0 o "com/example/holdback/holdback/util/StringIndex" "size" "I" (.int (0 : Int32))) (FcharCount : Fld Z h0 o "com/example/holdback/holdback/util/StringIndex" "charCount" "I" (.int (0 : Int32))) (go : n0 ≤ o) :
    own_Met l (⟨"com/example/holdback/holdback/util/StringIndex", "<init>", "()V"⟩ : MethodName) prog_76_method_1_code 1 none ({ frames := 1, cells := 4, slots := 769, locals := 12 } : Room) Z h0 #[(.ref o)] (fun v h L => v = none ∧ Fr n0 L ∧ Keep h0 h [o] ∧ own_StK Z h0 h ∧ ∃ ac as ah al fc fs fh fl, own_Ix Z h o ac as ah al 0 0 fc fs fh fl ∧ own_Ne as ah al ∧ h0.size ≤ ac ∧ h0.size ≤ as ∧ h0.size ≤ ah ∧ h0.size ≤ al ∧ fs 0 = 0 ∧ ∀ i, fl i = 0) := by
  refine own_go hw (plainFor_of_name pn_1) (fun m => ef_1_R m o) fun p e s m below meth c T0 C hret X0 e0 => ?_
  have N0 := Fr.nil n0
  refine sA C X0 d1_0 ?_
  refine iO C X0 e0 (W := 0) (ow6 C.w) (ow7 C.w) (ow8 C.w) d1_1 fun T1 X1 e1 => ?_
  refine sA C X1 d1_4 ?_
  refine sU C X1 d1_5 ?_
  refine nC C X1 e1 (n := (512 : Int32)) 512 (ow9 C.w) d1_8 fun T2 h2 k2 b2 g2 X2 e2 E2 V2 B2 => ?_
  have KC2 : Keep h0 h2 [o] := (Keep.refl h0 [o]).ext E2
  have SK2 : own_StK Z h0 h2 := (own_StK.refl Z h0).ext E2
  have bo_b2 : h0.size ≤ b2 := by rw [g2]; exact Nat.le_refl _
  have ge_b2 : n0 ≤ b2 := by rw [g2]; exact Z0
  have ne_o_b2 : o ≠ b2 := Nat.ne_of_lt (by rw [g2]; exact Eo.lt)
  have f3 := (Exa.ext E2 Eo)
  have f4 := (Fld.ext E2 Fchars)
  refine pN C X2 e2 N0 go f4 f3 (ow10 C.w) (Or.inl (ow11 C.w)) (ow1 C.w) (ty := (.array .char)) (v' := (.ref b2)) (by decide) rfl rfl d1_10 fun T5 h5 lo5 X5 e5 N5 W5 F5 => ?_
  have KC5 : Keep h0 h5 [o] := KC2.wr W5 (Or.inl (List.mem_of_getElem? (i := 0) rfl))
  have SK5 : own_StK Z h0 h5 := SK2.wr W5
  refine sA C X5 d1_13 ?_
  refine sB C X5 d1_14 ?_
  have f6 := (Exa.wr W5 f3)
  have f7 := (B2.other W5 (Ne.symm ne_o_b2))
  refine nI C X5 e5 (n := (65 : Int32)) 65 (ow12 C.w) d1_16 fun T8 h8 k8 b8 g8 X8 e8 E8 V8 B8 => ?_
  have KC8 : Keep h0 h8 [o] := KC5.ext E8
  have SK8 : own_StK Z h0 h8 := SK5.ext E8
  have bo_b8 : h0.size ≤ b8 := by rw [g8]; exact KC5.1
  have ge_b8 : n0 ≤ b8 := by rw [g8]; exact (Nat.le_trans Z0 KC5.1)
  have ne_o_b8 : o ≠ b8 := Nat.ne_of_lt (by rw [g8]; exact f6.lt)
  have ne_b2_b8 : b2 ≠ b8 := Nat.ne_of_lt (by rw [g8]; exact f7.lt)
  have f9 := (Exa.ext E8 f6)
  have f10 := (Fld.ext E8 (Fld.other W5 (Fld.ext E2 Fstarts) (Or.inr (slot_ne (Or.inl (ow14 C.w)) (Or.inl (ow11 C.w)) (by decide) (t := (.array .int)) (t' := (.array .char)) (by decide) (by decide)))))
  refine pN C X8 e8 N5 go f10 f9 (ow13 C.w) (Or.inl (ow14 C.w)) (ow1 C.w) (ty := (.array .int)) (v' := (.ref b8)) (by decide) rfl rfl d1_18 fun T11 h11 lo11 X11 e11 N11 W11 F11 => ?_
  have KC11 : Keep h0 h11 [o] := KC8.wr W11 (Or.inl (List.mem_of_getElem? (i := 0) rfl))
  have SK11 : own_StK Z h0 h11 := SK8.wr W11
  refine sA C X11 d1_21 ?_
  refine sB C X11 d1_22 ?_
  have f12 := (Exa.wr W11 f9)
  have f13 := ((f7.ext E8).other W11 (Ne.symm ne_o_b2))
  have f14 := (B8.other W11 (Ne.symm ne_o_b8))
  refine nI C X11 e11 (n := (64 : Int32)) 64 (ow12 C.w) d1_24 fun T15 h15 k15 b15 g15 X15 e15 E15 V15 B15 => ?_
  have KC15 : Keep h0 h15 [o] := KC11.ext E15
  have SK15 : own_StK Z h0 h15 := SK11.ext E15
  have bo_b15 : h0.size ≤ b15 := by rw [g15]; exact KC11.1
  have ge_b15 : n0 ≤ b15 := by rw [g15]; exact (Nat.le_trans Z0 KC11.1)
  have ne_o_b15 : o ≠ b15 := Nat.ne_of_lt (by rw [g15]; exact f12.lt)
  have ne_b2_b15 : b2 ≠ b15 := Nat.ne_of_lt (by rw [g15]; exact f13.lt)
  have ne_b8_b15 : b8 ≠ b15 := Nat.ne_of_lt (by rw [g15]; exact f14.lt)
  have f16 := (Exa.ext E15 f12)
  have f17 := (Fld.ext E15 (Fld.other W11 (Fld.ext E8 (Fld.other W5 (Fld.ext E2 Fhashes) (Or.inr (slot_ne (Or.inl (ow16 C.w)) (Or.inl (ow11 C.w)) (by decide) (t := (.array .int)) (t' := (.array .char)) (by decide) (by decide))))) (Or.inr (slot_ne (Or.inl (ow16 C.w)) (Or.inl (ow14 C.w)) (by decide) (t := (.array .int)) (t' := (.array .int)) (by decide) (by decide)))))
  refine pN C X15 e15 N11 go f17 f16 (ow15 C.w) (Or.inl (ow16 C.w)) (ow1 C.w) (ty := (.array .int)) (v' := (.ref b15)) (by decide) rfl rfl d1_26 fun T18 h18 lo18 X18 e18 N18 W18 F18 => ?_
  have KC18 : Keep h0 h18 [o] := KC15.wr W18 (Or.inl (List.mem_of_getElem? (i := 0) rfl))
  have SK18 : own_StK Z h0 h18 := SK15.wr W18
  refine sA C X18 d1_29 ?_
  refine sU C X18 d1_30 ?_
  have f19 := (Exa.wr W18 f16)
  have f20 := ((f13.ext E15).other W18 (Ne.symm ne_o_b2))
  have f21 := ((f14.ext E15).other W18 (Ne.symm ne_o_b8))
  have f22 := (B15.other W18 (Ne.symm ne_o_b15))
  refine nI C X18 e18 (n := (128 : Int32)) 128 (ow12 C.w) d1_33 fun T23 h23 k23 b23 g23 X23 e23 E23 V23 B23 => ?_
  have KC23 : Keep h0 h23 [o] := KC18.ext E23
  have SK23 : own_StK Z h0 h23 := SK18.ext E23
  have bo_b23 : h0.size ≤ b23 := by rw [g23]; exact KC18.1
  have ge_b23 : n0 ≤ b23 := by rw [g23]; exact (Nat.le_trans Z0 KC18.1)
  have ne_o_b23 : o ≠ b23 := Nat.ne_of_lt (by rw [g23]; exact f19.lt)
  have ne_b2_b23 : b2 ≠ b23 := Nat.ne_of_lt (by rw [g23]; exact f20.lt)
  have ne_b8_b23 : b8 ≠ b23 := Nat.ne_of_lt (by rw [g23]; exact f21.lt)
  have ne_b15_b23 : b15 ≠ b23 := Nat.ne_of_lt (by rw [g23]; exact f22.lt)
  have f24 := (Exa.ext E23 f19)
  have f25 := (Fld.ext E23 (Fld.other W18 (Fld.ext E15 (Fld.other W11 (Fld.ext E8 (Fld.other W5 (Fld.ext E2 Fslots) (Or.inr (slot_ne (Or.inl (ow18 C.w)) (Or.inl (ow11 C.w)) (by decide) (t := (.array .int)) (t' := (.array .char)) (by decide) (by decide))))) (Or.inr (slot_ne (Or.inl (ow18 C.w)) (Or.inl (ow14 C.w)) (by decide) (t := (.array .int)) (t' := (.array .int)) (by decide) (by decide))))) (Or.inr (slot_ne (Or.inl (ow18 C.w)) (Or.inl (ow16 C.w)) (by decide) (t := (.array .int)) (t' := (.array .int)) (by decide) (by decide)))))
  refine pN C X23 e23 N18 go f25 f24 (ow17 C.w) (Or.inl (ow18 C.w)) (ow1 C.w) (ty := (.array .int)) (v' := (.ref b23)) (by decide) rfl rfl d1_35 fun T26 h26 lo26 X26 e26 N26 W26 F26 => ?_
  have KC26 : Keep h0 h26 [o] := KC23.wr W26 (Or.inl (List.mem_of_getElem? (i := 0) rfl))
  have SK26 : own_StK Z h0 h26 := SK23.wr W26
  have f27 := (Exa.wr W26 f24)
  have f28 := (Fld.other W26 (Fld.ext E23 (Fld.other W18 (Fld.ext E15 (Fld.other W11 (Fld.ext E8 F5) (Or.inr (slot_ne (Or.inl (ow11 C.w)) (Or.inl (ow14 C.w)) (by decide) (t := (.array .char)) (t' := (.array .int)) (by decide) (by decide))))) (Or.inr (slot_ne (Or.inl (ow11 C.w)) (Or.inl (ow16 C.w)) (by decide) (t := (.array .char)) (t' := (.array .int)) (by decide) (by decide))))) (Or.inr (slot_ne (Or.inl (ow11 C.w)) (Or.inl (ow18 C.w)) (by decide) (t := (.array .char)) (t' := (.array .int)) (by decide) (by decide))))
  have f29 := (Fld.other W26 (Fld.ext E23 (Fld.other W18 (Fld.ext E15 F11) (Or.inr (slot_ne (Or.inl (ow14 C.w)) (Or.inl (ow16 C.w)) (by decide) (t := (.array .int)) (t' := (.array .int)) (by decide) (by decide))))) (Or.inr (slot_ne (Or.inl (ow14 C.w)) (Or.inl (ow18 C.w)) (by decide) (t := (.array .int)) (t' := (.array .int)) (by decide) (by decide))))
  have f30 := (Fld.other W26 (Fld.ext E23 F18) (Or.inr (slot_ne (Or.inl (ow16 C.w)) (Or.inl (ow18 C.w)) (by decide) (t := (.array .int)) (t' := (.array .int)) (by decide) (by decide))))
  have f31 := (Fld.other W26 (Fld.ext E23 (Fld.other W18 (Fld.ext E15 (Fld.other W11 (Fld.ext E8 (Fld.other W5 (Fld.ext E2 Fsize) (Or.inr (slot_ne (Or.inl (ow75 C.w)) (Or.inl (ow11 C.w)) (by decide) (t := .int) (t' := (.array .char)) (by decide) (by decide))))) (Or.inr (slot_ne (Or.inl (ow75 C.w)) (Or.inl (ow14 C.w)) (by decide) (t := .int) (t' := (.array .int)) (by decide) (by decide))))) (Or.inr (slot_ne (Or.inl (ow75 C.w)) (Or.inl (ow16 C.w)) (by decide) (t := .int) (t' := (.array .int)) (by decide) (by decide))))) (Or.inr (slot_ne (Or.inl (ow75 C.w)) (Or.inl (ow18 C.w)) (by decide) (t := .int) (t' := (.array .int)) (by decide) (by decide))))
  have f32 := (Fld.other W26 (Fld.ext E23 (Fld.other W18 (Fld.ext E15 (Fld.other W11 (Fld.ext E8 (Fld.other W5 (Fld.ext E2 FcharCount) (Or.inr (slot_ne (Or.inl (ow81 C.w)) (Or.inl (ow11 C.w)) (by decide) (t := .int) (t' := (.array .char)) (by decide) (by decide))))) (Or.inr (slot_ne (Or.inl (ow81 C.w)) (Or.inl (ow14 C.w)) (by decide) (t := .int) (t' := (.array .int)) (by decide) (by decide))))) (Or.inr (slot_ne (Or.inl (ow81 C.w)) (Or.inl (ow16 C.w)) (by decide) (t := .int) (t' := (.array .int)) (by decide) (by decide))))) (Or.inr (slot_ne (Or.inl (ow81 C.w)) (Or.inl (ow18 C.w)) (by decide) (t := .int) (t' := (.array .int)) (by decide) (by decide))))
  have f33 := ((f20.ext E23).other W26 (Ne.symm ne_o_b2))
  have f34 := ((f21.ext E23).other W26 (Ne.symm ne_o_b8))
  have f35 := ((f22.ext E23).other W26 (Ne.symm ne_o_b15))
  have f36 := (B23.other W26 (Ne.symm ne_o_b23))
  have IX37 : own_Ix Z h26 o b2 b8 b15 b23 (0 : Int32) (0 : Int32) (fun _ => (0 : Int32)) (fun _ => (0 : Int32)) (fun _ => (0 : Int32)) (fun _ => (0 : Int32)) := ⟨f27, f28, f29, f30, F26, f31, f32, f33, f34, f35, f36⟩
  exact rV C X26 e26 hret d1_38 ⟨rfl, N26, KC26, SK26, _, _, _, _, _, _, _, _, IX37, ⟨ne_b8_b15, ne_b8_b23, ne_b15_b23⟩, bo_b2, bo_b8, bo_b15, bo_b23, rfl, fun _ => rfl⟩
section OwnL
variable {p : Program} {l : Launch} {e : Env} {R : Room} {s : State} {m : MethodId} {args : Array Value} {below : List Frame} {meth : Method} {c : Code} {T T' : State} {Z : State} {a0 : Array Value} {h h0 : Heap} {code : ByteArray} {ml : Nat} {L : Array Slot} {Q : Option Value → Heap → List Loc → Prop} {EL : List (String × Nat)}
def own_MetW (l : Launch) (y : MethodName) (code : ByteArray) (ml : Nat) (ret : Option FieldType) (rm : Room) (Z : State) (EL : List (String × Nat)) (h0 : Heap) (as : Array Value) (Q : Option Value → Heap → List Loc → Prop) : Prop :=
  ∀ ws, MetFree l y (head1 (Jvm.Cond.code y code ml ret :: ws) rm) (fun a U => a = as ∧ Z.Warmed39 U.vm ∧ U.heap = h0 ∧ CHv Z EL U.vm h0) (fun _ _ _ _ _ => True) (fun _ U o U' => ∃ v L, o = .returned v ∧ Q v U'.heap L ∧ ReturnedEndW U o U' L rm.cells rm.slots)
theorem own_goW {y : MethodName} {ret : Option FieldType} (hw : ∀ d ∈ tables_1, d.before a0 Z = true) (hp : plainFor y = true) (hef : ∀ m, entryFrame m args ml = mkF m 0 L [])
    (body : ∀ (p : Program) (e : Env) (s : State) (m : MethodId) (below : List Frame) (meth : Method) (c : Code) (T : State), own_C p c code ml (s.setVm s.vm) m y.cls Z a0 → meth.sig.returnType = ret ∧ meth.locks = false → Stand p l e R (s.setVm s.vm) m args below meth c T [] 0 0 → T.heap = h0 → s.Since s.vm 0 → s.heap = h0 → meth.name = y.name → CHr Z EL s.vm s.heap s.vm h0 → own_Fin p e below (own_EW R s below Q) T (mkF m 0 L [])) : own_MetW l y code ml ret R Z EL h0 args Q := by
  intro ws
  refine MetFree.of_bodySF hp hisR ?_
  intro p e s m args' below meth c s₁ Bd hml0 hP hK
  obtain ⟨rfl, hZ, hh, hC⟩ := hP
  obtain ⟨U, ⟨v, lo, h1, h2, h3, h5⟩, h6⟩ := body p e s m below meth c s₁ ⟨Bd.exec, Bd.bytes, hml0, findClass_of_methodNamed Bd.named, hZ, hw⟩ ⟨Bd.returns, Bd.notSynchronized⟩ (Stand.of_body Bd) (by rw [← hh, Bd.state]; rfl) ((State.WarmedH.refl s).since 0) hh (name_of_methodNamed Bd.named Bd.method).1 (by rw [hh]; exact CHr.refl hC)
  exact ⟨_, _, castTop (hef m) h6, h1, h2, v, lo, rfl, h3, h5⟩
end OwnL
theorem own_lt12 {x : Int32} (h : x < 1) : x < 2 := by
  rw [Int32.lt_iff_toInt_lt] at h ⊢
  rw [show (1 : Int32).toInt = 1 from by decide] at h
  rw [show (2 : Int32).toInt = 2 from by decide]
  omega
theorem pd___V : parseMethodDescriptor "()V" = some ⟨[], none⟩ := by decide +kernel
theorem pd__I_Ljava_lang_String_ : parseMethodDescriptor "(I)Ljava/lang/String;" = some ⟨[.int], some (.object "java/lang/String")⟩ := by decide +kernel
theorem pd__Ljava_lang_String__I : parseMethodDescriptor "(Ljava/lang/String;)I" = some ⟨[(.object "java/lang/String")], some .int⟩ := by decide +kernel
theorem pd__Ljava_lang_Object__Z : parseMethodDescriptor "(Ljava/lang/Object;)Z" = some ⟨[(.object "java/lang/Object")], some .boolean⟩ := by decide +kernel
theorem pn_0 : plainName "com/example/holdback/holdback/util/StringIndexClearPinLaw" = true := by first | (simp [plainName, overriddenIn]; done) | decide +kernel
theorem ef_0_IIII (m : MethodId) (y0 : Int32) (y1 : Int32) (y2 : Int32) (y3 : Int32) : entryFrame m #[(.int y0), (.int y1), (.int y2), (.int y3)] maxLocals = mkF m 0 #[.val (.int y0), .val (.int y1), .val (.int y2), .val (.int y3), .unset, .unset, .unset, .unset, .unset, .unset, .unset, .unset, .unset, .unset, .unset] [] := by first | (simp [entryFrame, mkF, argsToLocals, Value.category, maxLocals]; done) | rfl
theorem rm0 (l : Launch) (Z : State) (a0 : Array Value) (hw : ∀ d ∈ tables_1, d.before a0 Z = true) (ux : Int32) (uy : Int32) (uz : Int32) (uk : Int32) (cs : Int32) (wf : Value) (h0 : Heap) (n0 : Nat) (Z0 : n0 ≤ h0.size) (Ss : own_St Z h0 cs wf) :
    own_MetW l x code maxLocals ret room_1 Z consts_1 h0 #[(.int ux), (.int uy), (.int uz), (.int uk)] (fun v h L => v = some (.int 1) ∧ Fr n0 L) := by
  refine own_goW hw (plainFor_of_name pn_0) (fun m => ef_0_IIII m ux uy uz uk) fun p e s m below meth c T0 C hret X0 e0 hS hsh hnm HC => ?_
  have N0 := Fr.nil n0
  obtain ⟨Sco, hcs, Sfo, hwf⟩ := id Ss
  refine nO C X0 e0 (ow0 C.w) (ow1 C.w) (ow2 C.w) at_0 fun T1 h1 b1 g1 X1 e1 E1 A1 D1 => ?_
  have HS2 := CHr.ext E1 HC.1
  have HC2 := HC.trans HS2
  have KC1 : Keep h0 h1 [] := (Keep.refl h0 []).ext E1
  have SK1 : own_StK Z h0 h1 := (own_StK.refl Z h0).ext E1
  have bo_b1 : h0.size ≤ b1 := by rw [g1]; exact Nat.le_refl _
  have ge_b1 : n0 ≤ b1 := by rw [g1]; exact Z0
  have F_chars_b1 : Fld Z h1 b1 "com/example/holdback/holdback/util/StringIndex" "chars" "[C" .null := D1 (Or.inl (ow11 C.w)) (ty := (.array .char)) (by decide)
  have F_starts_b1 : Fld Z h1 b1 "com/example/holdback/holdback/util/StringIndex" "starts" "[I" .null := D1 (Or.inl (ow14 C.w)) (ty := (.array .int)) (by decide)
  have F_hashes_b1 : Fld Z h1 b1 "com/example/holdback/holdback/util/StringIndex" "hashes" "[I" .null := D1 (Or.inl (ow16 C.w)) (ty := (.array .int)) (by decide)
  have F_slots_b1 : Fld Z h1 b1 "com/example/holdback/holdback/util/StringIndex" "slots" "[I" .null := D1 (Or.inl (ow18 C.w)) (ty := (.array .int)) (by decide)
  have F_size_b1 : Fld Z h1 b1 "com/example/holdback/holdback/util/StringIndex" "size" "I" (.int (0 : Int32)) := D1 (Or.inl (ow75 C.w)) (ty := .int) (by decide)
  have F_charCount_b1 : Fld Z h1 b1 "com/example/holdback/holdback/util/StringIndex" "charCount" "I" (.int (0 : Int32)) := D1 (Or.inl (ow81 C.w)) (ty := .int) (by decide)
  refine sD C X1 at_3 ?_
  refine cI C X1 e1 (rm_sin l Z a0 hw b1  h1 n0 (Nat.le_trans Z0 KC1.1) A1 F_chars_b1 F_starts_b1 F_hashes_b1 F_slots_b1 F_size_b1 F_charCount_b1 ge_b1) (W := 1) (ow3 C.w) (ow4 C.w) (ow5 C.w) (ow2 C.w) (argsL := []) (lenOf pd___V rfl) at_4 fun v3 T3 lo3 X3 hQ3 => ?_
  obtain ⟨h3, e3⟩ : ∃ h', T3.heap = h' := ⟨_, rfl⟩
  rw [e3] at hQ3
  obtain ⟨rfl, Nq3, Kc3, Sc3, ac, as, ah, al, fc, fs, fh, fl, IX0, hne3, bq1, bq2, bq3, bq4, hs0, hfl0⟩ := hQ3
  have HS4 := CHr.keep Kc3 (allS (P := fun x => Safe Z consts_1 _ _ x) (Safe.exa C.z.alike A1 (by decide) (by decide)) all0) HC2.1
  have HC4 := HC2.trans HS4
  have KC3 : Keep h0 h3 [] := Keep.trans KC1 Kc3 (allS (P := fun x => x ∈ ([] : List Addr) ∨ h0.size ≤ x) (Or.inr bo_b1) all0)
  have SK3 : own_StK Z h0 h3 := SK1.tr Sc3
  obtain ⟨Eo_0, Fch_0, Fst_0, Fhs_0, Fsl_0, Fsz_0, Fcc_0, Bc_0, Bs_0, Bh_0, Bl_0⟩ := id IX0
  have bo_ac : h0.size ≤ ac := Nat.le_trans KC1.1 bq1
  have ge_ac : n0 ≤ ac := Nat.le_trans Z0 bo_ac
  have bo_as : h0.size ≤ as := Nat.le_trans KC1.1 bq2
  have ge_as : n0 ≤ as := Nat.le_trans Z0 bo_as
  have bo_ah : h0.size ≤ ah := Nat.le_trans KC1.1 bq3
  have ge_ah : n0 ≤ ah := Nat.le_trans Z0 bo_ah
  have bo_al : h0.size ≤ al := Nat.le_trans KC1.1 bq4
  have ge_al : n0 ≤ al := Nat.le_trans Z0 bo_al
  have hge : own_Ge n0 b1 ac as ah al := ⟨ge_b1, ge_ac, ge_as, ge_ah, ge_al⟩
  refine wa C X3 #[.val (.int ux), .val (.int uy), .val (.int uz), .val (.int uk), .val (.ref b1), .unset, .unset, .unset, .unset, .unset, .unset, .unset, .unset, .unset, .unset] at_7 ?_
  refine sI C X3 at_9 ?_
  refine cSH C X3 e3 hS (Nat.le_trans (Nat.le_trans (Nat.zero_le _) HS2.2.1) HS4.2.1) (own_EL hw) HC4 (rm_mk l Z a0 hw ux cs wf  h3 n0 (Nat.le_trans Z0 KC3.1) (Ss.k SK3)) (W := 0) (ow19 C.w) (ow20 C.w) (ow22 C.w) (ow21 C.w) (argsL := [(.int ux)]) (lenOf pd__I_Ljava_lang_String_ rfl) at_10 fun v5 T5 lo5 vm5 k5 C5 X5 hS5 hk5 HC5 hQ5 => ?_
  obtain ⟨h5, e5⟩ : ∃ h', T5.heap = h' := ⟨_, rfl⟩
  rw [e5] at hQ5 hk5 HC5
  obtain ⟨qa, bqa, kqa, rfl, Nq5, Kc5, Sc5, bq5, Sq5⟩ := hQ5
  have KC5 : Keep h0 h5 [] := Keep.trans KC3 Kc5 all0
  have SK5 : own_StK Z h0 h5 := SK3.tr Sc5
  obtain ⟨Es_qa, Fco_qa, Fva_qa, Fha_qa, Fhz_qa, Sv_qa, hh1_qa, hz1_qa⟩ := id Sq5
  obtain ⟨Av_qa, Eb_qa, hok_qa⟩ := id Sv_qa
  have bo_qa : h0.size ≤ qa := Nat.le_trans KC3.1 bq5
  have ge_qa : n0 ≤ qa := Nat.le_trans Z0 bo_qa
  refine wa C5 X5 #[.val (.int ux), .val (.int uy), .val (.int uz), .val (.int uk), .val (.ref b1), .val (.ref qa), .unset, .unset, .unset, .unset, .unset, .unset, .unset, .unset, .unset] at_13 ?_
  refine sI C5 X5 at_15 ?_
  refine cSH C5 X5 e5 hS5 hk5 (own_EL hw) HC5 (rm_mk l Z a0 hw uy cs wf  h5 n0 (Nat.le_trans Z0 KC5.1) (Ss.k SK5)) (W := 0) (ow19 C5.w) (ow20 C5.w) (ow22 C5.w) (ow21 C5.w) (argsL := [(.int uy)]) (lenOf pd__I_Ljava_lang_String_ rfl) at_16 fun v6 T6 lo6 vm6 k6 C6 X6 hS6 hk6 HC6 hQ6 => ?_
  obtain ⟨h6, e6⟩ : ∃ h', T6.heap = h' := ⟨_, rfl⟩
  rw [e6] at hQ6 hk6 HC6
  obtain ⟨qb, bqb, kqb, rfl, Nq6, Kc6, Sc6, bq6, Sq6⟩ := hQ6
  have KC6 : Keep h0 h6 [] := Keep.trans KC5 Kc6 all0
  have SK6 : own_StK Z h0 h6 := SK5.tr Sc6
  obtain ⟨Es_qb, Fco_qb, Fva_qb, Fha_qb, Fhz_qb, Sv_qb, hh1_qb, hz1_qb⟩ := id Sq6
  obtain ⟨Av_qb, Eb_qb, hok_qb⟩ := id Sv_qb
  have bo_qb : h0.size ≤ qb := Nat.le_trans KC5.1 bq6
  have ge_qb : n0 ≤ qb := Nat.le_trans Z0 bo_qb
  have ne_qa_qb : qa ≠ qb := Nat.ne_of_lt (Nat.lt_of_lt_of_le Es_qa.lt bq6)
  refine wa C6 X6 #[.val (.int ux), .val (.int uy), .val (.int uz), .val (.int uk), .val (.ref b1), .val (.ref qa), .val (.ref qb), .unset, .unset, .unset, .unset, .unset, .unset, .unset, .unset] at_19 ?_
  refine sI C6 X6 at_21 ?_
  have f7 := (Es_qa.keep Kc6)
  refine cSH C6 X6 e6 hS6 hk6 (own_EL hw) HC6 (rm_mk l Z a0 hw uz cs wf  h6 n0 (Nat.le_trans Z0 KC6.1) (Ss.k SK6)) (W := 0) (ow19 C6.w) (ow20 C6.w) (ow22 C6.w) (ow21 C6.w) (argsL := [(.int uz)]) (lenOf pd__I_Ljava_lang_String_ rfl) at_22 fun v8 T8 lo8 vm8 k8 C8 X8 hS8 hk8 HC8 hQ8 => ?_
  obtain ⟨h8, e8⟩ : ∃ h', T8.heap = h' := ⟨_, rfl⟩
  rw [e8] at hQ8 hk8 HC8
  obtain ⟨qc, bqc, kqc, rfl, Nq8, Kc8, Sc8, bq8, Sq8⟩ := hQ8
  have KC8 : Keep h0 h8 [] := Keep.trans KC6 Kc8 all0
  have SK8 : own_StK Z h0 h8 := SK6.tr Sc8
  obtain ⟨Es_qc, Fco_qc, Fva_qc, Fha_qc, Fhz_qc, Sv_qc, hh1_qc, hz1_qc⟩ := id Sq8
  obtain ⟨Av_qc, Eb_qc, hok_qc⟩ := id Sv_qc
  have bo_qc : h0.size ≤ qc := Nat.le_trans KC6.1 bq8
  have ge_qc : n0 ≤ qc := Nat.le_trans Z0 bo_qc
  have ne_qa_qc : qa ≠ qc := Nat.ne_of_lt (Nat.lt_of_lt_of_le f7.lt bq8)
  have ne_qb_qc : qb ≠ qc := Nat.ne_of_lt (Nat.lt_of_lt_of_le Es_qb.lt bq8)
  refine wa C8 X8 #[.val (.int ux), .val (.int uy), .val (.int uz), .val (.int uk), .val (.ref b1), .val (.ref qa), .val (.ref qb), .val (.ref qc), .unset, .unset, .unset, .unset, .unset, .unset, .unset] at_25 ?_
  refine sI C8 X8 at_27 ?_
  refine sC C8 X8 at_28 ?_
  refine sN C8 X8 at_29 ?_
  refine wi C8 X8 #[.val (.int ux), .val (.int uy), .val (.int uz), .val (.int uk), .val (.ref b1), .val (.ref qa), .val (.ref qb), .val (.ref qc), .val (.int (uk &&& (3 : Int32))), .unset, .unset, .unset, .unset, .unset, .unset] at_30 ?_
  have f9 := (((Eo_0.keep Kc5).keep Kc6).keep Kc8)
  have f10 := (((Bc_0.keep Kc5 nin0).keep Kc6 nin0).keep Kc8 nin0)
  have f11 := (((Bs_0.keep Kc5 nin0).keep Kc6 nin0).keep Kc8 nin0)
  have f12 := (((Bh_0.keep Kc5 nin0).keep Kc6 nin0).keep Kc8 nin0)
  have f13 := (((Bl_0.keep Kc5 nin0).keep Kc6 nin0).keep Kc8 nin0)
  have f14 := (f7.keep Kc8)
  have f15 := ((Av_qa.keep Kc6 nin0).keep Kc8 nin0)
  have f16 := (Es_qb.keep Kc8)
  have f17 := (Av_qb.keep Kc8 nin0)
  have B : ∀ (T : State) (h : Heap) (lo : List Loc) (hha : Int32) (hza : Int32) (hhb : Int32) (hzb : Int32) (sz1 : Int32) (cc1 : Int32) (fc1 : Int32 → Int32) (fs1 : Int32 → Int32) (fh1 : Int32 → Int32) (fl1 : Int32 → Int32), Stand p l e room_1 (s.setVm vm8) m #[(.int ux), (.int uy), (.int uz), (.int uk)] below meth c T lo 17 799 → T.heap = h → Fr n0 lo → Keep h0 h [] → own_StK Z h0 h → k8 ≤ h.size → own_Ix Z h b1 ac as ah al sz1 cc1 fc1 fs1 fh1 fl1 → own_Str Z h qa bqa kqa hha hza (own_n ux) (ux &&& 255) (own_d ux) → own_Str Z h qb bqb kqb hhb hzb (own_n uy) (uy &&& 255) (own_d uy) → own_Str Z h qc bqc kqc (0 : Int32) (0 : Int32) (own_n uz) (uz &&& 255) (own_d uz) → fs1 0 = 0 → own_Fin p e below (own_EW room_1 s below (fun v h L => v = some (.int 1) ∧ Fr n0 L)) T (mkF m 60 #[.val (.int ux), .val (.int uy), .val (.int uz), .val (.int uk), .val (.ref b1), .val (.ref qa), .val (.ref qb), .val (.ref qc), .val (.int (uk &&& (3 : Int32))), .unset, .unset, .unset, .unset, .unset, .unset] []) := by
    intro T h lo hha hza hhb hzb sz1 cc1 fc1 fs1 fh1 fl1 X e1 N K SK hk IXb SAb SBb SCb hs1
    obtain ⟨Eo_b, Fch_b, Fst_b, Fhs_b, Fsl_b, Fsz_b, Fcc_b, Bc_b, Bs_b, Bh_b, Bl_b⟩ := id IXb
    obtain ⟨Es_ba, Fco_ba, Fva_ba, Fha_ba, Fhz_ba, Sv_ba, hh1_ba, hz1_ba⟩ := id SAb
    obtain ⟨Av_ba, Eb_ba, hok_ba⟩ := id Sv_ba
    obtain ⟨Es_bb, Fco_bb, Fva_bb, Fha_bb, Fhz_bb, Sv_bb, hh1_bb, hz1_bb⟩ := id SBb
    obtain ⟨Av_bb, Eb_bb, hok_bb⟩ := id Sv_bb
    obtain ⟨Es_bc, Fco_bc, Fva_bc, Fha_bc, Fhz_bc, Sv_bc, hh1_bc, hz1_bc⟩ := id SCb
    obtain ⟨Av_bc, Eb_bc, hok_bc⟩ := id Sv_bc
    refine sa C8 X at_60 ?_
    have IX18 : own_Ix Z h b1 ac as ah al sz1 cc1 fc1 fs1 fh1 fl1 := ⟨Eo_b, Fch_b, Fst_b, Fhs_b, Fsl_b, Fsz_b, Fcc_b, Bc_b, Bs_b, Bh_b, Bl_b⟩
    refine cV C8 X e1 (rm_clr l Z a0 hw b1 ac as ah al sz1 cc1 fc1 fs1 fh1 fl1  h n0 (Nat.le_trans Z0 K.1) IX18 hne3 hge) Eo_b (W := 0) (ow118 C8.w) (ow119 C8.w) (ow121 C8.w) (ow120 C8.w) (ow122 C8.w) (ow2 C8.w) (argsL := []) (lenOf pd___V rfl) at_62 fun v19 T19 lo19 X19 hQ19 => ?_
    obtain ⟨h19, e19⟩ : ∃ h', T19.heap = h' := ⟨_, rfl⟩
    rw [e19] at hQ19
    obtain ⟨rfl, Nq19, Kc19, Sc19, fl19, IN19, hz19⟩ := hQ19
    have KC19 : Keep h0 h19 [] := Keep.trans K Kc19 (allS (P := fun x => x ∈ ([] : List Addr) ∨ h0.size ≤ x) (Or.inr bo_b1) (allS (P := fun x => x ∈ ([] : List Addr) ∨ h0.size ≤ x) (Or.inr bo_al) all0))
    have SK19 : own_StK Z h0 h19 := SK.tr Sc19
    obtain ⟨Eo_19, Fch_19, Fst_19, Fhs_19, Fsl_19, Fsz_19, Fcc_19, Bc_19, Bs_19, Bh_19, Bl_19⟩ := id IN19
    refine sa C8 X19 at_65 ?_
    have IX20 : own_Ix Z h19 b1 ac as ah al (0 : Int32) (0 : Int32) fc1 fs1 fh1 fl19 := ⟨Eo_19, Fch_19, Fst_19, Fhs_19, Fsl_19, Fsz_19, Fcc_19, Bc_19, Bs_19, Bh_19, Bl_19⟩
    refine cV C8 X19 e19 (rm_siz l Z a0 hw b1 ac as ah al (0 : Int32) (0 : Int32) fc1 fs1 fh1 fl19  h19 n0 (Nat.le_trans Z0 KC19.1) IX20) Eo_19 (W := 0) (ow127 C8.w) (ow128 C8.w) (ow130 C8.w) (ow129 C8.w) (ow131 C8.w) (ow2 C8.w) (argsL := []) (lenOf pd___I rfl) at_67 fun v21 T21 lo21 X21 hQ21 => ?_
    obtain ⟨rfl, Nq21, e21⟩ := hQ21
    refine bN C8 X21 at_70 ((if0 _ _).trans (teq (by decide : (0 : Int32) = (0 : Int32))).2) ?_
    refine sa C8 X21 at_73 ?_
    refine sa C8 X21 at_75 ?_
    have IX22 : own_Ix Z h19 b1 ac as ah al (0 : Int32) (0 : Int32) fc1 fs1 fh1 fl19 := ⟨Eo_19, Fch_19, Fst_19, Fhs_19, Fsl_19, Fsz_19, Fcc_19, Bc_19, Bs_19, Bh_19, Bl_19⟩
    have f23 := (Es_ba.keep Kc19)
    have ne_qa_al : qa ≠ al := (own_Fa.neE Es_ba Bl_b (ow24 C8.w))
    have ne_qa_b1 : qa ≠ b1 := (Exa.ne Es_ba Eo_b (by decide))
    have f24 := (Fco_ba.keep Kc19 (ninS ne_qa_b1 (ninS ne_qa_al nin0)))
    have f25 := (Fva_ba.keep Kc19 (ninS ne_qa_b1 (ninS ne_qa_al nin0)))
    have f26 := (Fha_ba.keep Kc19 (ninS ne_qa_b1 (ninS ne_qa_al nin0)))
    have f27 := (Fhz_ba.keep Kc19 (ninS ne_qa_b1 (ninS ne_qa_al nin0)))
    have ne_bqa_al : bqa ≠ al := (own_Fa.neV Av_ba Bl_b (by decide))
    have ne_bqa_b1 : bqa ≠ b1 := (Ne.symm (Exa.neArv Eo_b Av_ba (ow1 C8.w)))
    have f29 := (Av_ba.keep Kc19 (ninS ne_bqa_b1 (ninS ne_bqa_al nin0)))
    have SR28 : own_Str Z h19 qa bqa kqa hha hza (own_n ux) (ux &&& 255) (own_d ux) := ⟨f23, f24, f25, f26, f27, ⟨f29, (fun q => (Eb_ba q).keep Kc19), hok_ba⟩, hh1_ba, hz1_ba⟩
    refine cV C8 X21 e21 (rm_ixo l Z a0 hw b1 ac as ah al (0 : Int32) (0 : Int32) fc1 fs1 fh1 fl19 qa bqa kqa hha hza (own_n ux) (ux &&& 255) (own_d ux) cs wf  h19 n0 (Nat.le_trans Z0 KC19.1) (Ss.k SK19) IX22 SR28 ge_qa hs1 (Or.inl (hz19 _ (own_m127 (own_sp (own_hs (own_n ux) (ux &&& 255) (own_d ux)))).1 (own_m127 (own_sp (own_hs (own_n ux) (ux &&& 255) (own_d ux)))).2))) Eo_19 (W := 0) (ow132 C8.w) (ow133 C8.w) (ow135 C8.w) (ow134 C8.w) (ow136 C8.w) (ow2 C8.w) (argsL := [(.ref qa)]) (lenOf pd__Ljava_lang_String__I rfl) at_77 fun v30 T30 lo30 X30 hQ30 => ?_
    obtain ⟨h30, e30⟩ : ∃ h', T30.heap = h' := ⟨_, rfl⟩
    rw [e30] at hQ30
    obtain ⟨hv30, Nq30, Kc30, Sc30, hhN30, hzN30, SN30⟩ := hQ30
    have KC30 : Keep h0 h30 [] := Keep.trans KC19 Kc30 (allS (P := fun x => x ∈ ([] : List Addr) ∨ h0.size ≤ x) (Or.inr bo_qa) all0)
    have SK30 : own_StK Z h0 h30 := SK19.tr Sc30
    rw [own_fd0 (hz19 _ (own_m127 (own_sp (own_hs (own_n ux) (ux &&& 255) (own_d ux)))).1 (own_m127 (own_sp (own_hs (own_n ux) (ux &&& 255) (own_d ux)))).2), (hz19 _ (own_m127 (own_sp (own_hs (own_n ux) (ux &&& 255) (own_d ux)))).1 (own_m127 (own_sp (own_hs (own_n ux) (ux &&& 255) (own_d ux)))).2)] at hv30
    subst hv30
    obtain ⟨Es_30, Fco_30, Fva_30, Fha_30, Fhz_30, Sv_30, hh1_30, hz1_30⟩ := id SN30
    obtain ⟨Av_30, Eb_30, hok_30⟩ := id Sv_30
    refine sC C8 X30 at_80 ?_
    refine cN C8 X30 at_81 ((teq (by decide : (-1 : Int32) = (-1 : Int32))).2) ?_
    refine sa C8 X30 at_84 ?_
    refine sa C8 X30 at_86 ?_
    have f31 := (Eo_19.keep Kc30)
    have f32 := (Fch_19.keep Kc30 (ninS (Ne.symm ne_qa_b1) nin0))
    have f33 := (Fst_19.keep Kc30 (ninS (Ne.symm ne_qa_b1) nin0))
    have f34 := (Fhs_19.keep Kc30 (ninS (Ne.symm ne_qa_b1) nin0))
    have f35 := (Fsl_19.keep Kc30 (ninS (Ne.symm ne_qa_b1) nin0))
    have f36 := (Fsz_19.keep Kc30 (ninS (Ne.symm ne_qa_b1) nin0))
    have f37 := (Fcc_19.keep Kc30 (ninS (Ne.symm ne_qa_b1) nin0))
    have ne_ac_qa : ac ≠ qa := (Ne.symm (own_Fa.neE Es_ba Bc_b (ow24 C8.w)))
    have f38 := (Bc_19.keep Kc30 (ninS ne_ac_qa nin0))
    have ne_as_qa : as ≠ qa := (Ne.symm (own_Fa.neE Es_ba Bs_b (ow24 C8.w)))
    have f39 := (Bs_19.keep Kc30 (ninS ne_as_qa nin0))
    have ne_ah_qa : ah ≠ qa := (Ne.symm (own_Fa.neE Es_ba Bh_b (ow24 C8.w)))
    have f40 := (Bh_19.keep Kc30 (ninS ne_ah_qa nin0))
    have f41 := (Bl_19.keep Kc30 (ninS (Ne.symm ne_qa_al) nin0))
    have IX42 : own_Ix Z h30 b1 ac as ah al (0 : Int32) (0 : Int32) fc1 fs1 fh1 fl19 := ⟨f31, f32, f33, f34, f35, f36, f37, f38, f39, f40, f41⟩
    have f43 := ((Es_bb.keep Kc19).keep Kc30)
    have ne_qb_al : qb ≠ al := (own_Fa.neE Es_bb Bl_b (ow24 C8.w))
    have ne_qb_b1 : qb ≠ b1 := (Exa.ne Es_bb Eo_b (by decide))
    have f44 := ((Fco_bb.keep Kc19 (ninS ne_qb_b1 (ninS ne_qb_al nin0))).keep Kc30 (ninS (Ne.symm ne_qa_qb) nin0))
    have f45 := ((Fva_bb.keep Kc19 (ninS ne_qb_b1 (ninS ne_qb_al nin0))).keep Kc30 (ninS (Ne.symm ne_qa_qb) nin0))
    have f46 := ((Fha_bb.keep Kc19 (ninS ne_qb_b1 (ninS ne_qb_al nin0))).keep Kc30 (ninS (Ne.symm ne_qa_qb) nin0))
    have f47 := ((Fhz_bb.keep Kc19 (ninS ne_qb_b1 (ninS ne_qb_al nin0))).keep Kc30 (ninS (Ne.symm ne_qa_qb) nin0))
    have ne_bqb_al : bqb ≠ al := (own_Fa.neV Av_bb Bl_b (by decide))
    have ne_bqb_b1 : bqb ≠ b1 := (Ne.symm (Exa.neArv Eo_b Av_bb (ow1 C8.w)))
    have ne_bqb_qa : bqb ≠ qa := (Ne.symm (Exa.neArv Es_ba Av_bb (ow24 C8.w)))
    have f49 := ((Av_bb.keep Kc19 (ninS ne_bqb_b1 (ninS ne_bqb_al nin0))).keep Kc30 (ninS ne_bqb_qa nin0))
    have SR48 : own_Str Z h30 qb bqb kqb hhb hzb (own_n uy) (uy &&& 255) (own_d uy) := ⟨f43, f44, f45, f46, f47, ⟨f49, (fun q => ((fun q => (Eb_bb q).keep Kc19) q).keep Kc30), hok_bb⟩, hh1_bb, hz1_bb⟩
    refine cV C8 X30 e30 (rm_ixo l Z a0 hw b1 ac as ah al (0 : Int32) (0 : Int32) fc1 fs1 fh1 fl19 qb bqb kqb hhb hzb (own_n uy) (uy &&& 255) (own_d uy) cs wf  h30 n0 (Nat.le_trans Z0 KC30.1) (Ss.k SK30) IX42 SR48 ge_qb hs1 (Or.inl (hz19 _ (own_m127 (own_sp (own_hs (own_n uy) (uy &&& 255) (own_d uy)))).1 (own_m127 (own_sp (own_hs (own_n uy) (uy &&& 255) (own_d uy)))).2))) f31 (W := 0) (ow132 C8.w) (ow133 C8.w) (ow135 C8.w) (ow134 C8.w) (ow136 C8.w) (ow2 C8.w) (argsL := [(.ref qb)]) (lenOf pd__Ljava_lang_String__I rfl) at_88 fun v50 T50 lo50 X50 hQ50 => ?_
    obtain ⟨h50, e50⟩ : ∃ h', T50.heap = h' := ⟨_, rfl⟩
    rw [e50] at hQ50
    obtain ⟨hv50, Nq50, Kc50, Sc50, hhN50, hzN50, SN50⟩ := hQ50
    have KC50 : Keep h0 h50 [] := Keep.trans KC30 Kc50 (allS (P := fun x => x ∈ ([] : List Addr) ∨ h0.size ≤ x) (Or.inr bo_qb) all0)
    have SK50 : own_StK Z h0 h50 := SK30.tr Sc50
    rw [own_fd0 (hz19 _ (own_m127 (own_sp (own_hs (own_n uy) (uy &&& 255) (own_d uy)))).1 (own_m127 (own_sp (own_hs (own_n uy) (uy &&& 255) (own_d uy)))).2), (hz19 _ (own_m127 (own_sp (own_hs (own_n uy) (uy &&& 255) (own_d uy)))).1 (own_m127 (own_sp (own_hs (own_n uy) (uy &&& 255) (own_d uy)))).2)] at hv50
    subst hv50
    obtain ⟨Es_50, Fco_50, Fva_50, Fha_50, Fhz_50, Sv_50, hh1_50, hz1_50⟩ := id SN50
    obtain ⟨Av_50, Eb_50, hok_50⟩ := id Sv_50
    refine sC C8 X50 at_91 ?_
    refine cN C8 X50 at_92 ((teq (by decide : (-1 : Int32) = (-1 : Int32))).2) ?_
    refine sC C8 X50 at_95 ?_
    refine sG C8 X50 at_96 100 ?_
    refine wi C8 X50 #[.val (.int ux), .val (.int uy), .val (.int uz), .val (.int uk), .val (.ref b1), .val (.ref qa), .val (.ref qb), .val (.ref qc), .val (.int (uk &&& (3 : Int32))), .val (.int (1 : Int32)), .unset, .unset, .unset, .unset, .unset] at_100 ?_
    refine si C8 X50 at_102 ?_
    refine bY C8 X50 at_104 109 ((if0 _ _).trans (feq (by decide : ¬ ((1 : Int32) = (0 : Int32)))).2) ?_
    refine sa C8 X50 at_109 ?_
    refine sa C8 X50 at_111 ?_
    have f51 := (f31.keep Kc50)
    have f52 := (f32.keep Kc50 (ninS (Ne.symm ne_qb_b1) nin0))
    have f53 := (f33.keep Kc50 (ninS (Ne.symm ne_qb_b1) nin0))
    have f54 := (f34.keep Kc50 (ninS (Ne.symm ne_qb_b1) nin0))
    have f55 := (f35.keep Kc50 (ninS (Ne.symm ne_qb_b1) nin0))
    have f56 := (f36.keep Kc50 (ninS (Ne.symm ne_qb_b1) nin0))
    have f57 := (f37.keep Kc50 (ninS (Ne.symm ne_qb_b1) nin0))
    have ne_ac_qb : ac ≠ qb := (Ne.symm (own_Fa.neE Es_bb Bc_b (ow24 C8.w)))
    have f58 := (f38.keep Kc50 (ninS ne_ac_qb nin0))
    have ne_as_qb : as ≠ qb := (Ne.symm (own_Fa.neE Es_bb Bs_b (ow24 C8.w)))
    have f59 := (f39.keep Kc50 (ninS ne_as_qb nin0))
    have ne_ah_qb : ah ≠ qb := (Ne.symm (own_Fa.neE Es_bb Bh_b (ow24 C8.w)))
    have f60 := (f40.keep Kc50 (ninS ne_ah_qb nin0))
    have f61 := (f41.keep Kc50 (ninS (Ne.symm ne_qb_al) nin0))
    have IX62 : own_Ix Z h50 b1 ac as ah al (0 : Int32) (0 : Int32) fc1 fs1 fh1 fl19 := ⟨f51, f52, f53, f54, f55, f56, f57, f58, f59, f60, f61⟩
    have f63 := (((Es_bc.keep Kc19).keep Kc30).keep Kc50)
    have ne_qc_al : qc ≠ al := (own_Fa.neE Es_bc Bl_b (ow24 C8.w))
    have ne_qc_b1 : qc ≠ b1 := (Exa.ne Es_bc Eo_b (by decide))
    have f64 := (((Fco_bc.keep Kc19 (ninS ne_qc_b1 (ninS ne_qc_al nin0))).keep Kc30 (ninS (Ne.symm ne_qa_qc) nin0)).keep Kc50 (ninS (Ne.symm ne_qb_qc) nin0))
    have f65 := (((Fva_bc.keep Kc19 (ninS ne_qc_b1 (ninS ne_qc_al nin0))).keep Kc30 (ninS (Ne.symm ne_qa_qc) nin0)).keep Kc50 (ninS (Ne.symm ne_qb_qc) nin0))
    have f66 := (((Fha_bc.keep Kc19 (ninS ne_qc_b1 (ninS ne_qc_al nin0))).keep Kc30 (ninS (Ne.symm ne_qa_qc) nin0)).keep Kc50 (ninS (Ne.symm ne_qb_qc) nin0))
    have f67 := (((Fhz_bc.keep Kc19 (ninS ne_qc_b1 (ninS ne_qc_al nin0))).keep Kc30 (ninS (Ne.symm ne_qa_qc) nin0)).keep Kc50 (ninS (Ne.symm ne_qb_qc) nin0))
    have ne_bqc_al : bqc ≠ al := (own_Fa.neV Av_bc Bl_b (by decide))
    have ne_bqc_b1 : bqc ≠ b1 := (Ne.symm (Exa.neArv Eo_b Av_bc (ow1 C8.w)))
    have ne_bqc_qa : bqc ≠ qa := (Ne.symm (Exa.neArv Es_ba Av_bc (ow24 C8.w)))
    have ne_bqc_qb : bqc ≠ qb := (Ne.symm (Exa.neArv Es_bb Av_bc (ow24 C8.w)))
    have f69 := (((Av_bc.keep Kc19 (ninS ne_bqc_b1 (ninS ne_bqc_al nin0))).keep Kc30 (ninS ne_bqc_qa nin0)).keep Kc50 (ninS ne_bqc_qb nin0))
    have SR68 : own_Str Z h50 qc bqc kqc (0 : Int32) (0 : Int32) (own_n uz) (uz &&& 255) (own_d uz) := ⟨f63, f64, f65, f66, f67, ⟨f69, (fun q => ((fun q => ((fun q => (Eb_bc q).keep Kc19) q).keep Kc30) q).keep Kc50), hok_bc⟩, hh1_bc, hz1_bc⟩
    refine cV C8 X50 e50 (rm_add l Z a0 hw b1 ac as ah al (0 : Int32) (0 : Int32) fc1 fs1 fh1 fl19 qc bqc kqc (0 : Int32) (0 : Int32) (own_n uz) (uz &&& 255) (own_d uz) cs wf  h50 n0 (Nat.le_trans Z0 KC50.1) (Ss.k SK50) IX62 SR68 hne3 hge ge_qc (Or.inl rfl) (Or.inl rfl) hs1 (Or.inl (hz19 _ (own_m127 (own_sp (own_hs (own_n uz) (uz &&& 255) (own_d uz)))).1 (own_m127 (own_sp (own_hs (own_n uz) (uz &&& 255) (own_d uz)))).2))) f51 (W := 0) (ow42 C8.w) (ow43 C8.w) (ow45 C8.w) (ow44 C8.w) (ow46 C8.w) (ow2 C8.w) (argsL := [(.ref qc)]) (lenOf pd__Ljava_lang_String__I rfl) at_113 fun v70 T70 lo70 X70 hQ70 => ?_
    obtain ⟨h70, e70⟩ : ∃ h', T70.heap = h' := ⟨_, rfl⟩
    rw [e70] at hQ70
    obtain ⟨hA70, Nq70, Kc70, Sc70, hhN70, hzN70, SN70⟩ := hQ70
    have KC70 : Keep h0 h70 [] := Keep.trans KC50 Kc70 (allS (P := fun x => x ∈ ([] : List Addr) ∨ h0.size ≤ x) (Or.inr bo_b1) (allS (P := fun x => x ∈ ([] : List Addr) ∨ h0.size ≤ x) (Or.inr bo_ac) (allS (P := fun x => x ∈ ([] : List Addr) ∨ h0.size ≤ x) (Or.inr bo_as) (allS (P := fun x => x ∈ ([] : List Addr) ∨ h0.size ≤ x) (Or.inr bo_ah) (allS (P := fun x => x ∈ ([] : List Addr) ∨ h0.size ≤ x) (Or.inr bo_al) (allS (P := fun x => x ∈ ([] : List Addr) ∨ h0.size ≤ x) (Or.inr bo_qc) all0))))))
    have SK70 : own_StK Z h0 h70 := SK50.tr Sc70
    obtain ⟨Es_70, Fco_70, Fva_70, Fha_70, Fhz_70, Sv_70, hh1_70, hz1_70⟩ := id SN70
    obtain ⟨Av_70, Eb_70, hok_70⟩ := id Sv_70
    obtain ⟨rfl, -, fcB70, fsB70, fhB70, flB70, IB70, cpB70, z070, z170, l170, l070⟩ := hA70.resolve_left (fun q => q.2.1 (by rw [own_fd0 (hz19 _ (own_m127 (own_sp (own_hs (own_n uz) (uz &&& 255) (own_d uz)))).1 (own_m127 (own_sp (own_hs (own_n uz) (uz &&& 255) (own_d uz)))).2)]; exact (hz19 _ (own_m127 (own_sp (own_hs (own_n uz) (uz &&& 255) (own_d uz)))).1 (own_m127 (own_sp (own_hs (own_n uz) (uz &&& 255) (own_d uz)))).2)))
    rw [own_fd0 (hz19 _ (own_m127 (own_sp (own_hs (own_n uz) (uz &&& 255) (own_d uz)))).1 (own_m127 (own_sp (own_hs (own_n uz) (uz &&& 255) (own_d uz)))).2)] at l170 l070
    have zz70 := z170 rfl
    simp only [Int32.zero_add] at IB70 l170 zz70
    have cp70 := cpB70 rfl
    have hl70 : ∀ i, ¬ i < 0 → i < (128 : Int32) → ¬ i = ((own_sp (own_hs (own_n uz) (uz &&& 255) (own_d uz))) &&& (127 : Int32)) → flB70 i = 0 := fun i h1 h2 h3 => (l070 i h3).trans (hz19 i h1 h2)
    obtain ⟨Eo_B70, Fch_B70, Fst_B70, Fhs_B70, Fsl_B70, Fsz_B70, Fcc_B70, Bc_B70, Bs_B70, Bh_B70, Bl_B70⟩ := id IB70
    refine wi C8 X70 #[.val (.int ux), .val (.int uy), .val (.int uz), .val (.int uk), .val (.ref b1), .val (.ref qa), .val (.ref qb), .val (.ref qc), .val (.int (uk &&& (3 : Int32))), .val (.int (1 : Int32)), .val (.int (0 : Int32)), .unset, .unset, .unset, .unset] at_116 ?_
    refine si C8 X70 at_118 ?_
    refine bN C8 X70 at_120 ((if0 _ _).trans (teq (by decide : (0 : Int32) = (0 : Int32))).2) ?_
    refine sa C8 X70 at_123 ?_
    have IX71 : own_Ix Z h70 b1 ac as ah al (1 : Int32) (own_n uz) fcB70 fsB70 fhB70 flB70 := ⟨Eo_B70, Fch_B70, Fst_B70, Fhs_B70, Fsl_B70, Fsz_B70, Fcc_B70, Bc_B70, Bs_B70, Bh_B70, Bl_B70⟩
    refine cV C8 X70 e70 (rm_siz l Z a0 hw b1 ac as ah al (1 : Int32) (own_n uz) fcB70 fsB70 fhB70 flB70  h70 n0 (Nat.le_trans Z0 KC70.1) IX71) Eo_B70 (W := 0) (ow127 C8.w) (ow128 C8.w) (ow130 C8.w) (ow129 C8.w) (ow131 C8.w) (ow2 C8.w) (argsL := []) (lenOf pd___I rfl) at_125 fun v72 T72 lo72 X72 hQ72 => ?_
    obtain ⟨rfl, Nq72, e72⟩ := hQ72
    refine sC C8 X72 at_128 ?_
    refine cN C8 X72 at_129 ((teq (by decide : (1 : Int32) = (1 : Int32))).2) ?_
    refine sa C8 X72 at_132 ?_
    refine sC C8 X72 at_134 ?_
    have IX73 : own_Ix Z h70 b1 ac as ah al (1 : Int32) (own_n uz) fcB70 fsB70 fhB70 flB70 := ⟨Eo_B70, Fch_B70, Fst_B70, Fhs_B70, Fsl_B70, Fsz_B70, Fcc_B70, Bc_B70, Bs_B70, Bh_B70, Bl_B70⟩
    refine cV C8 X72 e72 (rm_iln l Z a0 hw b1 ac as ah al (1 : Int32) (own_n uz) fcB70 fsB70 fhB70 flB70  h70 n0 (Nat.le_trans Z0 KC70.1) IX73 (by decide)) Eo_B70 (W := 0) (ow137 C8.w) (ow138 C8.w) (ow140 C8.w) (ow139 C8.w) (ow141 C8.w) (ow2 C8.w) (argsL := [(.int (0 : Int32))]) (lenOf pd__I_I rfl) at_135 fun v74 T74 lo74 X74 hQ74 => ?_
    obtain ⟨hv74, Nq74, e74⟩ := hQ74
    rw [zz70.1, z070, Int32.sub_zero] at hv74
    subst hv74
    refine sa C8 X74 at_138 ?_
    have SR75 : own_Str Z h70 qc bqc kqc hhN70 hzN70 (own_n uz) (uz &&& 255) (own_d uz) := ⟨Es_70, Fco_70, Fva_70, Fha_70, Fhz_70, ⟨Av_70, Eb_70, hok_70⟩, hh1_70, hz1_70⟩
    refine cV C8 X74 e74 (rm_len l Z a0 hw qc bqc kqc hhN70 hzN70 (own_n uz) (uz &&& 255) (own_d uz) cs wf  h70 n0 (Nat.le_trans Z0 KC70.1) (Ss.k SK70) SR75) Es_70 (W := 1) (ow149 C8.w) (ow83 C8.w) (ow85 C8.w) (ow84 C8.w) (ow86 C8.w) (ow25 C8.w) (argsL := []) (lenOf pd___I rfl) at_140 fun v76 T76 lo76 X76 hQ76 => ?_
    obtain ⟨rfl, Nq76, e76⟩ := hQ76
    refine cN C8 X76 at_143 ((teq rfl).2) ?_
    refine sa C8 X76 at_146 ?_
    refine sC C8 X76 at_148 ?_
    have IX77 : own_Ix Z h70 b1 ac as ah al (1 : Int32) (own_n uz) fcB70 fsB70 fhB70 flB70 := ⟨Eo_B70, Fch_B70, Fst_B70, Fhs_B70, Fsl_B70, Fsz_B70, Fcc_B70, Bc_B70, Bs_B70, Bh_B70, Bl_B70⟩
    refine cV C8 X76 e76 (rm_ihs l Z a0 hw b1 ac as ah al (1 : Int32) (own_n uz) fcB70 fsB70 fhB70 flB70  h70 n0 (Nat.le_trans Z0 KC70.1) IX77 (by decide)) Eo_B70 (W := 0) (ow150 C8.w) (ow151 C8.w) (ow153 C8.w) (ow152 C8.w) (ow154 C8.w) (ow2 C8.w) (argsL := [(.int (0 : Int32))]) (lenOf pd__I_I rfl) at_149 fun v78 T78 lo78 X78 hQ78 => ?_
    obtain ⟨hv78, Nq78, e78⟩ := hQ78
    rw [zz70.2] at hv78
    subst hv78
    refine sI C8 X78 at_152 ?_
    refine cS C8 X78 e78 (rm_href l Z a0 hw uz  h70 n0 (Nat.le_trans Z0 KC70.1)) (W := 1) (ow155 C8.w) (ow156 C8.w) (ow157 C8.w) (ow21 C8.w) (argsL := [(.int uz)]) (lenOf pd__I_I rfl) at_153 fun v79 T79 lo79 X79 hQ79 => ?_
    obtain ⟨rfl, Nq79, e79⟩ := hQ79
    refine cN C8 X79 at_156 ((teq rfl).2) ?_
    refine sa C8 X79 at_159 ?_
    refine sa C8 X79 at_161 ?_
    have IX80 : own_Ix Z h70 b1 ac as ah al (1 : Int32) (own_n uz) fcB70 fsB70 fhB70 flB70 := ⟨Eo_B70, Fch_B70, Fst_B70, Fhs_B70, Fsl_B70, Fsz_B70, Fcc_B70, Bc_B70, Bs_B70, Bh_B70, Bl_B70⟩
    have SR81 : own_Str Z h70 qc bqc kqc hhN70 hzN70 (own_n uz) (uz &&& 255) (own_d uz) := ⟨Es_70, Fco_70, Fva_70, Fha_70, Fhz_70, ⟨Av_70, Eb_70, hok_70⟩, hh1_70, hz1_70⟩
    refine cV C8 X79 e79 (rm_ixo l Z a0 hw b1 ac as ah al (1 : Int32) (own_n uz) fcB70 fsB70 fhB70 flB70 qc bqc kqc hhN70 hzN70 (own_n uz) (uz &&& 255) (own_d uz) cs wf  h70 n0 (Nat.le_trans Z0 KC70.1) (Ss.k SK70) IX80 SR81 ge_qc z070 (Or.inr ⟨l170, hl70 _ (own_m127 _).1 (own_m127 _).2 (own_nx _)⟩)) Eo_B70 (W := 0) (ow132 C8.w) (ow133 C8.w) (ow135 C8.w) (ow134 C8.w) (ow136 C8.w) (ow2 C8.w) (argsL := [(.ref qc)]) (lenOf pd__Ljava_lang_String__I rfl) at_163 fun v82 T82 lo82 X82 hQ82 => ?_
    obtain ⟨h82, e82⟩ : ∃ h', T82.heap = h' := ⟨_, rfl⟩
    rw [e82] at hQ82
    obtain ⟨hv82, Nq82, Kc82, Sc82, hhN82, hzN82, SN82⟩ := hQ82
    have KC82 : Keep h0 h82 [] := Keep.trans KC70 Kc82 (allS (P := fun x => x ∈ ([] : List Addr) ∨ h0.size ≤ x) (Or.inr bo_qc) all0)
    have SK82 : own_StK Z h0 h82 := SK70.tr Sc82
    rw [own_fd1 l170 zz70.2 (own_eR hok_70.1 zz70.1 cp70.1 cp70.2), l170] at hv82
    subst hv82
    obtain ⟨Es_82, Fco_82, Fva_82, Fha_82, Fhz_82, Sv_82, hh1_82, hz1_82⟩ := id SN82
    obtain ⟨Av_82, Eb_82, hok_82⟩ := id Sv_82
    refine bN C8 X82 at_166 ((if0 _ _).trans (teq (by decide : (0 : Int32) = (0 : Int32))).2) ?_
    refine sC C8 X82 at_169 ?_
    refine sG C8 X82 at_170 174 ?_
    refine wi C8 X82 #[.val (.int ux), .val (.int uy), .val (.int uz), .val (.int uk), .val (.ref b1), .val (.ref qa), .val (.ref qb), .val (.ref qc), .val (.int (uk &&& (3 : Int32))), .val (.int (1 : Int32)), .val (.int (0 : Int32)), .unset, .unset, .unset, .unset] at_174 ?_
    refine si C8 X82 at_176 ?_
    refine bY C8 X82 at_178 183 ((if0 _ _).trans (feq (by decide : ¬ ((1 : Int32) = (0 : Int32)))).2) ?_
    refine sa C8 X82 at_183 ?_
    refine sa C8 X82 at_185 ?_
    have f83 := (((Es_30.keep Kc50).keep Kc70).keep Kc82)
    have f84 := (((Fco_30.keep Kc50 (ninS ne_qa_qb nin0)).keep Kc70 (ninS ne_qa_b1 (ninS (Ne.symm ne_ac_qa) (ninS (Ne.symm ne_as_qa) (ninS (Ne.symm ne_ah_qa) (ninS ne_qa_al (ninS ne_qa_qc nin0))))))).keep Kc82 (ninS ne_qa_qc nin0))
    have f85 := (((Fva_30.keep Kc50 (ninS ne_qa_qb nin0)).keep Kc70 (ninS ne_qa_b1 (ninS (Ne.symm ne_ac_qa) (ninS (Ne.symm ne_as_qa) (ninS (Ne.symm ne_ah_qa) (ninS ne_qa_al (ninS ne_qa_qc nin0))))))).keep Kc82 (ninS ne_qa_qc nin0))
    have f86 := (((Fha_30.keep Kc50 (ninS ne_qa_qb nin0)).keep Kc70 (ninS ne_qa_b1 (ninS (Ne.symm ne_ac_qa) (ninS (Ne.symm ne_as_qa) (ninS (Ne.symm ne_ah_qa) (ninS ne_qa_al (ninS ne_qa_qc nin0))))))).keep Kc82 (ninS ne_qa_qc nin0))
    have f87 := (((Fhz_30.keep Kc50 (ninS ne_qa_qb nin0)).keep Kc70 (ninS ne_qa_b1 (ninS (Ne.symm ne_ac_qa) (ninS (Ne.symm ne_as_qa) (ninS (Ne.symm ne_ah_qa) (ninS ne_qa_al (ninS ne_qa_qc nin0))))))).keep Kc82 (ninS ne_qa_qc nin0))
    have ne_bqa_qb : bqa ≠ qb := (Ne.symm (Exa.neArv Es_bb Av_ba (ow24 C8.w)))
    have ne_bqa_qc : bqa ≠ qc := (Ne.symm (Exa.neArv Es_bc Av_ba (ow24 C8.w)))
    have ne_bqa_ah : bqa ≠ ah := (own_Fa.neV Av_ba Bh_b (by decide))
    have ne_bqa_as : bqa ≠ as := (own_Fa.neV Av_ba Bs_b (by decide))
    have ne_bqa_ac : bqa ≠ ac := (own_Fa.neV Av_ba Bc_b (by decide))
    have f89 := (((Av_30.keep Kc50 (ninS ne_bqa_qb nin0)).keep Kc70 (ninS ne_bqa_b1 (ninS ne_bqa_ac (ninS ne_bqa_as (ninS ne_bqa_ah (ninS ne_bqa_al (ninS ne_bqa_qc nin0))))))).keep Kc82 (ninS ne_bqa_qc nin0))
    have SR88 : own_Str Z h82 qa bqa kqa hhN30 hzN30 (own_n ux) (ux &&& 255) (own_d ux) := ⟨f83, f84, f85, f86, f87, ⟨f89, (fun q => ((fun q => ((fun q => (Eb_30 q).keep Kc50) q).keep Kc70) q).keep Kc82), hok_30⟩, hh1_30, hz1_30⟩
    have SR90 : own_Str Z h82 qc bqc kqc hhN82 hzN82 (own_n uz) (uz &&& 255) (own_d uz) := ⟨Es_82, Fco_82, Fva_82, Fha_82, Fhz_82, ⟨Av_82, Eb_82, hok_82⟩, hh1_82, hz1_82⟩
    refine cV C8 X82 e82 (rm_seq l Z a0 hw qa bqa kqa hhN30 hzN30 (own_n ux) (ux &&& 255) (own_d ux) qc bqc kqc hhN82 hzN82 (own_n uz) (uz &&& 255) (own_d uz) cs wf  h82 n0 (Nat.le_trans Z0 KC82.1) (Ss.k SK82) SR88 SR90 ne_qa_qc) f83 (W := 0) (ow162 C8.w) (ow163 C8.w) (ow165 C8.w) (ow164 C8.w) (ow166 C8.w) (ow25 C8.w) (argsL := [(.ref qc)]) (lenOf pd__Ljava_lang_Object__Z rfl) at_187 fun v91 T91 lo91 X91 hQ91 => ?_
    obtain ⟨hvE, Nq91, e91⟩ := hQ91
    rcases own_e01 (own_n ux) (ux &&& 255) (own_d ux) (own_n uz) (uz &&& 255) (own_d uz) with hE | hE
    · rw [hE] at hvE
      subst hvE
      refine wi C8 X91 #[.val (.int ux), .val (.int uy), .val (.int uz), .val (.int uk), .val (.ref b1), .val (.ref qa), .val (.ref qb), .val (.ref qc), .val (.int (uk &&& (3 : Int32))), .val (.int (1 : Int32)), .val (.int (0 : Int32)), .val (.int (0 : Int32)), .unset, .unset, .unset] at_190 ?_
      refine sa C8 X91 at_192 ?_
      refine sa C8 X91 at_194 ?_
      have f92 := (Eo_B70.keep Kc82)
      have f93 := (Fch_B70.keep Kc82 (ninS (Ne.symm ne_qc_b1) nin0))
      have f94 := (Fst_B70.keep Kc82 (ninS (Ne.symm ne_qc_b1) nin0))
      have f95 := (Fhs_B70.keep Kc82 (ninS (Ne.symm ne_qc_b1) nin0))
      have f96 := (Fsl_B70.keep Kc82 (ninS (Ne.symm ne_qc_b1) nin0))
      have f97 := (Fsz_B70.keep Kc82 (ninS (Ne.symm ne_qc_b1) nin0))
      have f98 := (Fcc_B70.keep Kc82 (ninS (Ne.symm ne_qc_b1) nin0))
      have ne_ac_qc : ac ≠ qc := (Ne.symm (own_Fa.neE Es_bc Bc_b (ow24 C8.w)))
      have f99 := (Bc_B70.keep Kc82 (ninS ne_ac_qc nin0))
      have ne_as_qc : as ≠ qc := (Ne.symm (own_Fa.neE Es_bc Bs_b (ow24 C8.w)))
      have f100 := (Bs_B70.keep Kc82 (ninS ne_as_qc nin0))
      have ne_ah_qc : ah ≠ qc := (Ne.symm (own_Fa.neE Es_bc Bh_b (ow24 C8.w)))
      have f101 := (Bh_B70.keep Kc82 (ninS ne_ah_qc nin0))
      have f102 := (Bl_B70.keep Kc82 (ninS (Ne.symm ne_qc_al) nin0))
      have IX103 : own_Ix Z h82 b1 ac as ah al (1 : Int32) (own_n uz) fcB70 fsB70 fhB70 flB70 := ⟨f92, f93, f94, f95, f96, f97, f98, f99, f100, f101, f102⟩
      have SR104 : own_Str Z h82 qa bqa kqa hhN30 hzN30 (own_n ux) (ux &&& 255) (own_d ux) := ⟨f83, f84, f85, f86, f87, ⟨f89, (fun q => ((fun q => ((fun q => (Eb_30 q).keep Kc50) q).keep Kc70) q).keep Kc82), hok_30⟩, hh1_30, hz1_30⟩
      refine cV C8 X91 e91 (rm_add l Z a0 hw b1 ac as ah al (1 : Int32) (own_n uz) fcB70 fsB70 fhB70 flB70 qa bqa kqa hhN30 hzN30 (own_n ux) (ux &&& 255) (own_d ux) cs wf  h82 n0 (Nat.le_trans Z0 KC82.1) (Ss.k SK82) IX103 SR104 hne3 hge ge_qa hok_bc.1 (Or.inr rfl) z070 (own_pl l170 hl70 _)) f92 (W := 0) (ow42 C8.w) (ow43 C8.w) (ow45 C8.w) (ow44 C8.w) (ow46 C8.w) (ow2 C8.w) (argsL := [(.ref qa)]) (lenOf pd__Ljava_lang_String__I rfl) at_196 fun v105 T105 lo105 X105 hQ105 => ?_
      obtain ⟨h105, e105⟩ : ∃ h', T105.heap = h' := ⟨_, rfl⟩
      rw [e105] at hQ105
      obtain ⟨hA105, Nq105, Kc105, Sc105, hhN105, hzN105, SN105⟩ := hQ105
      have KC105 : Keep h0 h105 [] := Keep.trans KC82 Kc105 (allS (P := fun x => x ∈ ([] : List Addr) ∨ h0.size ≤ x) (Or.inr bo_b1) (allS (P := fun x => x ∈ ([] : List Addr) ∨ h0.size ≤ x) (Or.inr bo_ac) (allS (P := fun x => x ∈ ([] : List Addr) ∨ h0.size ≤ x) (Or.inr bo_as) (allS (P := fun x => x ∈ ([] : List Addr) ∨ h0.size ≤ x) (Or.inr bo_ah) (allS (P := fun x => x ∈ ([] : List Addr) ∨ h0.size ≤ x) (Or.inr bo_al) (allS (P := fun x => x ∈ ([] : List Addr) ∨ h0.size ≤ x) (Or.inr bo_qa) all0))))))
      have SK105 : own_StK Z h0 h105 := SK82.tr Sc105
      obtain ⟨Es_105, Fco_105, Fva_105, Fha_105, Fhz_105, Sv_105, hh1_105, hz1_105⟩ := id SN105
      obtain ⟨Av_105, Eb_105, hok_105⟩ := id Sv_105
      obtain ⟨rfl, -, fcB105, fsB105, fhB105, flB105, IB105, cpB105, z0105, z1105, l1105, l0105⟩ := hA105.resolve_left (fun q => q.2.1 ((own_add1 (sp := own_sp) (fl := flB70) hok_30.1 hok_bc.1 zz70.1 cp70.1 cp70.2 zz70.2 l170 hl70).1 hE))
      rw [show (1 : Int32) + 1 = 2 from rfl] at IB105
      obtain ⟨Eo_B105, Fch_B105, Fst_B105, Fhs_B105, Fsl_B105, Fsz_B105, Fcc_B105, Bc_B105, Bs_B105, Bh_B105, Bl_B105⟩ := id IB105
      refine wi C8 X105 #[.val (.int ux), .val (.int uy), .val (.int uz), .val (.int uk), .val (.ref b1), .val (.ref qa), .val (.ref qb), .val (.ref qc), .val (.int (uk &&& (3 : Int32))), .val (.int (1 : Int32)), .val (.int (0 : Int32)), .val (.int (0 : Int32)), .val (.int (1 : Int32)), .unset, .unset] at_199 ?_
      refine si C8 X105 at_201 ?_
      refine bY C8 X105 at_203 210 ((if0 _ _).trans (teq (by decide : (0 : Int32) = (0 : Int32))).1) ?_
      refine sC C8 X105 at_210 ?_
      refine wi C8 X105 #[.val (.int ux), .val (.int uy), .val (.int uz), .val (.int uk), .val (.ref b1), .val (.ref qa), .val (.ref qb), .val (.ref qc), .val (.int (uk &&& (3 : Int32))), .val (.int (1 : Int32)), .val (.int (0 : Int32)), .val (.int (0 : Int32)), .val (.int (1 : Int32)), .val (.int (1 : Int32)), .unset] at_211 ?_
      refine si C8 X105 at_213 ?_
      refine bY C8 X105 at_215 222 ((if0 _ _).trans (teq (by decide : (0 : Int32) = (0 : Int32))).1) ?_
      refine sC C8 X105 at_222 ?_
      refine wi C8 X105 #[.val (.int ux), .val (.int uy), .val (.int uz), .val (.int uk), .val (.ref b1), .val (.ref qa), .val (.ref qb), .val (.ref qc), .val (.int (uk &&& (3 : Int32))), .val (.int (1 : Int32)), .val (.int (0 : Int32)), .val (.int (0 : Int32)), .val (.int (1 : Int32)), .val (.int (1 : Int32)), .val (.int (2 : Int32))] at_223 ?_
      refine si C8 X105 at_225 ?_
      refine si C8 X105 at_227 ?_
      refine cN C8 X105 at_229 ((teq (by decide : (1 : Int32) = (1 : Int32))).2) ?_
      refine sa C8 X105 at_232 ?_
      have IX106 : own_Ix Z h105 b1 ac as ah al (2 : Int32) ((own_n uz) + (own_n ux)) fcB105 fsB105 fhB105 flB105 := ⟨Eo_B105, Fch_B105, Fst_B105, Fhs_B105, Fsl_B105, Fsz_B105, Fcc_B105, Bc_B105, Bs_B105, Bh_B105, Bl_B105⟩
      refine cV C8 X105 e105 (rm_siz l Z a0 hw b1 ac as ah al (2 : Int32) ((own_n uz) + (own_n ux)) fcB105 fsB105 fhB105 flB105  h105 n0 (Nat.le_trans Z0 KC105.1) IX106) Eo_B105 (W := 0) (ow127 C8.w) (ow128 C8.w) (ow130 C8.w) (ow129 C8.w) (ow131 C8.w) (ow2 C8.w) (argsL := []) (lenOf pd___I rfl) at_234 fun v107 T107 lo107 X107 hQ107 => ?_
      obtain ⟨rfl, Nq107, e107⟩ := hQ107
      refine si C8 X107 at_237 ?_
      refine cN C8 X107 at_239 ((teq (by decide : (2 : Int32) = (2 : Int32))).2) ?_
      refine sC C8 X107 at_242 ?_
      refine sG C8 X107 at_243 247 ?_
      exact rZW C8 X107 e107 hS8 (Nat.le_trans (Nat.le_trans (Nat.le_trans (Nat.le_trans (Nat.le_trans (Nat.le_trans hk Kc19.1) Kc30.1) Kc50.1) Kc70.1) Kc82.1) Kc105.1) hret at_247 ⟨rfl, ((((((((((((((N.app Nq19).app Nq21).app Nq30).app Nq50).app Nq70).app Nq72).app Nq74).app Nq76).app Nq78).app Nq79).app Nq82).app Nq91).app Nq105).app Nq107)⟩
    · rw [hE] at hvE
      subst hvE
      refine wi C8 X91 #[.val (.int ux), .val (.int uy), .val (.int uz), .val (.int uk), .val (.ref b1), .val (.ref qa), .val (.ref qb), .val (.ref qc), .val (.int (uk &&& (3 : Int32))), .val (.int (1 : Int32)), .val (.int (0 : Int32)), .val (.int (1 : Int32)), .unset, .unset, .unset] at_190 ?_
      refine sa C8 X91 at_192 ?_
      refine sa C8 X91 at_194 ?_
      have f108 := (Eo_B70.keep Kc82)
      have f109 := (Fch_B70.keep Kc82 (ninS (Ne.symm ne_qc_b1) nin0))
      have f110 := (Fst_B70.keep Kc82 (ninS (Ne.symm ne_qc_b1) nin0))
      have f111 := (Fhs_B70.keep Kc82 (ninS (Ne.symm ne_qc_b1) nin0))
      have f112 := (Fsl_B70.keep Kc82 (ninS (Ne.symm ne_qc_b1) nin0))
      have f113 := (Fsz_B70.keep Kc82 (ninS (Ne.symm ne_qc_b1) nin0))
      have f114 := (Fcc_B70.keep Kc82 (ninS (Ne.symm ne_qc_b1) nin0))
      have ne_ac_qc : ac ≠ qc := (Ne.symm (own_Fa.neE Es_bc Bc_b (ow24 C8.w)))
      have f115 := (Bc_B70.keep Kc82 (ninS ne_ac_qc nin0))
      have ne_as_qc : as ≠ qc := (Ne.symm (own_Fa.neE Es_bc Bs_b (ow24 C8.w)))
      have f116 := (Bs_B70.keep Kc82 (ninS ne_as_qc nin0))
      have ne_ah_qc : ah ≠ qc := (Ne.symm (own_Fa.neE Es_bc Bh_b (ow24 C8.w)))
      have f117 := (Bh_B70.keep Kc82 (ninS ne_ah_qc nin0))
      have f118 := (Bl_B70.keep Kc82 (ninS (Ne.symm ne_qc_al) nin0))
      have IX119 : own_Ix Z h82 b1 ac as ah al (1 : Int32) (own_n uz) fcB70 fsB70 fhB70 flB70 := ⟨f108, f109, f110, f111, f112, f113, f114, f115, f116, f117, f118⟩
      have SR120 : own_Str Z h82 qa bqa kqa hhN30 hzN30 (own_n ux) (ux &&& 255) (own_d ux) := ⟨f83, f84, f85, f86, f87, ⟨f89, (fun q => ((fun q => ((fun q => (Eb_30 q).keep Kc50) q).keep Kc70) q).keep Kc82), hok_30⟩, hh1_30, hz1_30⟩
      refine cV C8 X91 e91 (rm_add l Z a0 hw b1 ac as ah al (1 : Int32) (own_n uz) fcB70 fsB70 fhB70 flB70 qa bqa kqa hhN30 hzN30 (own_n ux) (ux &&& 255) (own_d ux) cs wf  h82 n0 (Nat.le_trans Z0 KC82.1) (Ss.k SK82) IX119 SR120 hne3 hge ge_qa hok_bc.1 (Or.inr rfl) z070 (own_pl l170 hl70 _)) f108 (W := 0) (ow42 C8.w) (ow43 C8.w) (ow45 C8.w) (ow44 C8.w) (ow46 C8.w) (ow2 C8.w) (argsL := [(.ref qa)]) (lenOf pd__Ljava_lang_String__I rfl) at_196 fun v121 T121 lo121 X121 hQ121 => ?_
      obtain ⟨h121, e121⟩ : ∃ h', T121.heap = h' := ⟨_, rfl⟩
      rw [e121] at hQ121
      obtain ⟨hA121, Nq121, Kc121, Sc121, hhN121, hzN121, SN121⟩ := hQ121
      have KC121 : Keep h0 h121 [] := Keep.trans KC82 Kc121 (allS (P := fun x => x ∈ ([] : List Addr) ∨ h0.size ≤ x) (Or.inr bo_b1) (allS (P := fun x => x ∈ ([] : List Addr) ∨ h0.size ≤ x) (Or.inr bo_ac) (allS (P := fun x => x ∈ ([] : List Addr) ∨ h0.size ≤ x) (Or.inr bo_as) (allS (P := fun x => x ∈ ([] : List Addr) ∨ h0.size ≤ x) (Or.inr bo_ah) (allS (P := fun x => x ∈ ([] : List Addr) ∨ h0.size ≤ x) (Or.inr bo_al) (allS (P := fun x => x ∈ ([] : List Addr) ∨ h0.size ≤ x) (Or.inr bo_qa) all0))))))
      have SK121 : own_StK Z h0 h121 := SK82.tr Sc121
      obtain ⟨Es_121, Fco_121, Fva_121, Fha_121, Fhz_121, Sv_121, hh1_121, hz1_121⟩ := id SN121
      obtain ⟨Av_121, Eb_121, hok_121⟩ := id Sv_121
      obtain ⟨rfl, -, IB121⟩ := hA121.resolve_right (fun q => (own_add1 (sp := own_sp) (fl := flB70) hok_30.1 hok_bc.1 zz70.1 cp70.1 cp70.2 zz70.2 l170 hl70).2 hE q.2.1)
      obtain ⟨Eo_B121, Fch_B121, Fst_B121, Fhs_B121, Fsl_B121, Fsz_B121, Fcc_B121, Bc_B121, Bs_B121, Bh_B121, Bl_B121⟩ := id IB121
      refine wi C8 X121 #[.val (.int ux), .val (.int uy), .val (.int uz), .val (.int uk), .val (.ref b1), .val (.ref qa), .val (.ref qb), .val (.ref qc), .val (.int (uk &&& (3 : Int32))), .val (.int (1 : Int32)), .val (.int (0 : Int32)), .val (.int (1 : Int32)), .val (.int (-1 : Int32)), .unset, .unset] at_199 ?_
      refine si C8 X121 at_201 ?_
      refine bN C8 X121 at_203 ((if0 _ _).trans (feq (by decide : ¬ ((1 : Int32) = (0 : Int32)))).1) ?_
      refine sC C8 X121 at_206 ?_
      refine sG C8 X121 at_207 211 ?_
      refine wi C8 X121 #[.val (.int ux), .val (.int uy), .val (.int uz), .val (.int uk), .val (.ref b1), .val (.ref qa), .val (.ref qb), .val (.ref qc), .val (.int (uk &&& (3 : Int32))), .val (.int (1 : Int32)), .val (.int (0 : Int32)), .val (.int (1 : Int32)), .val (.int (-1 : Int32)), .val (.int (-1 : Int32)), .unset] at_211 ?_
      refine si C8 X121 at_213 ?_
      refine bN C8 X121 at_215 ((if0 _ _).trans (feq (by decide : ¬ ((1 : Int32) = (0 : Int32)))).1) ?_
      refine sC C8 X121 at_218 ?_
      refine sG C8 X121 at_219 223 ?_
      refine wi C8 X121 #[.val (.int ux), .val (.int uy), .val (.int uz), .val (.int uk), .val (.ref b1), .val (.ref qa), .val (.ref qb), .val (.ref qc), .val (.int (uk &&& (3 : Int32))), .val (.int (1 : Int32)), .val (.int (0 : Int32)), .val (.int (1 : Int32)), .val (.int (-1 : Int32)), .val (.int (-1 : Int32)), .val (.int (1 : Int32))] at_223 ?_
      refine si C8 X121 at_225 ?_
      refine si C8 X121 at_227 ?_
      refine cN C8 X121 at_229 ((teq (by decide : (-1 : Int32) = (-1 : Int32))).2) ?_
      refine sa C8 X121 at_232 ?_
      have IX122 : own_Ix Z h121 b1 ac as ah al (1 : Int32) (own_n uz) fcB70 fsB70 fhB70 flB70 := ⟨Eo_B121, Fch_B121, Fst_B121, Fhs_B121, Fsl_B121, Fsz_B121, Fcc_B121, Bc_B121, Bs_B121, Bh_B121, Bl_B121⟩
      refine cV C8 X121 e121 (rm_siz l Z a0 hw b1 ac as ah al (1 : Int32) (own_n uz) fcB70 fsB70 fhB70 flB70  h121 n0 (Nat.le_trans Z0 KC121.1) IX122) Eo_B121 (W := 0) (ow127 C8.w) (ow128 C8.w) (ow130 C8.w) (ow129 C8.w) (ow131 C8.w) (ow2 C8.w) (argsL := []) (lenOf pd___I rfl) at_234 fun v123 T123 lo123 X123 hQ123 => ?_
      obtain ⟨rfl, Nq123, e123⟩ := hQ123
      refine si C8 X123 at_237 ?_
      refine cN C8 X123 at_239 ((teq (by decide : (1 : Int32) = (1 : Int32))).2) ?_
      refine sC C8 X123 at_242 ?_
      refine sG C8 X123 at_243 247 ?_
      exact rZW C8 X123 e123 hS8 (Nat.le_trans (Nat.le_trans (Nat.le_trans (Nat.le_trans (Nat.le_trans (Nat.le_trans hk Kc19.1) Kc30.1) Kc50.1) Kc70.1) Kc82.1) Kc121.1) hret at_247 ⟨rfl, ((((((((((((((N.app Nq19).app Nq21).app Nq30).app Nq50).app Nq70).app Nq72).app Nq74).app Nq76).app Nq78).app Nq79).app Nq82).app Nq91).app Nq121).app Nq123)⟩
  refine si C8 X8 at_32 ?_
  refine sC C8 X8 at_34 ?_
  by_cases hb35_124 : (uk &&& (3 : Int32)) < (1 : Int32)
  · refine cY C8 X8 at_35 46 ((tlt hb35_124).1) ?_
    refine si C8 X8 at_46 ?_
    refine sC C8 X8 at_48 ?_
    refine cY C8 X8 at_49 60 ((tlt (own_lt12 hb35_124)).1) ?_
    have f125 := (((Fch_0.keep Kc5 nin0).keep Kc6 nin0).keep Kc8 nin0)
    have f126 := (((Fst_0.keep Kc5 nin0).keep Kc6 nin0).keep Kc8 nin0)
    have f127 := (((Fhs_0.keep Kc5 nin0).keep Kc6 nin0).keep Kc8 nin0)
    have f128 := (((Fsl_0.keep Kc5 nin0).keep Kc6 nin0).keep Kc8 nin0)
    have f129 := (((Fsz_0.keep Kc5 nin0).keep Kc6 nin0).keep Kc8 nin0)
    have f130 := (((Fcc_0.keep Kc5 nin0).keep Kc6 nin0).keep Kc8 nin0)
    have IX131 : own_Ix Z h8 b1 ac as ah al (0 : Int32) (0 : Int32) fc fs fh fl := ⟨f9, f125, f126, f127, f128, f129, f130, f10, f11, f12, f13⟩
    have f132 := ((Fco_qa.keep Kc6 nin0).keep Kc8 nin0)
    have f133 := ((Fva_qa.keep Kc6 nin0).keep Kc8 nin0)
    have f134 := ((Fha_qa.keep Kc6 nin0).keep Kc8 nin0)
    have f135 := ((Fhz_qa.keep Kc6 nin0).keep Kc8 nin0)
    have SR136 : own_Str Z h8 qa bqa kqa (0 : Int32) (0 : Int32) (own_n ux) (ux &&& 255) (own_d ux) := ⟨f14, f132, f133, f134, f135, ⟨f15, (fun q => ((fun q => (Eb_qa q).keep Kc6) q).keep Kc8), hok_qa⟩, hh1_qa, hz1_qa⟩
    have f137 := (Fco_qb.keep Kc8 nin0)
    have f138 := (Fva_qb.keep Kc8 nin0)
    have f139 := (Fha_qb.keep Kc8 nin0)
    have f140 := (Fhz_qb.keep Kc8 nin0)
    have SR141 : own_Str Z h8 qb bqb kqb (0 : Int32) (0 : Int32) (own_n uy) (uy &&& 255) (own_d uy) := ⟨f16, f137, f138, f139, f140, ⟨f17, (fun q => (Eb_qb q).keep Kc8), hok_qb⟩, hh1_qb, hz1_qb⟩
    have SR142 : own_Str Z h8 qc bqc kqc (0 : Int32) (0 : Int32) (own_n uz) (uz &&& 255) (own_d uz) := ⟨Es_qc, Fco_qc, Fva_qc, Fha_qc, Fhz_qc, ⟨Av_qc, Eb_qc, hok_qc⟩, hh1_qc, hz1_qc⟩
    exact B _ _ _ _ _ _ _ _ _ _ _ _ _ X8 e8 ((((N0.app Nq3).app Nq5).app Nq6).app Nq8) KC8 SK8 hk8 IX131 SR136 SR141 SR142 hs0
  · refine cN C8 X8 at_35 ((flt hb35_124).1) ?_
    refine sa C8 X8 at_38 ?_
    refine sa C8 X8 at_40 ?_
    have f143 := (((Fch_0.keep Kc5 nin0).keep Kc6 nin0).keep Kc8 nin0)
    have f144 := (((Fst_0.keep Kc5 nin0).keep Kc6 nin0).keep Kc8 nin0)
    have f145 := (((Fhs_0.keep Kc5 nin0).keep Kc6 nin0).keep Kc8 nin0)
    have f146 := (((Fsl_0.keep Kc5 nin0).keep Kc6 nin0).keep Kc8 nin0)
    have f147 := (((Fsz_0.keep Kc5 nin0).keep Kc6 nin0).keep Kc8 nin0)
    have f148 := (((Fcc_0.keep Kc5 nin0).keep Kc6 nin0).keep Kc8 nin0)
    have IX149 : own_Ix Z h8 b1 ac as ah al (0 : Int32) (0 : Int32) fc fs fh fl := ⟨f9, f143, f144, f145, f146, f147, f148, f10, f11, f12, f13⟩
    have f150 := ((Fco_qa.keep Kc6 nin0).keep Kc8 nin0)
    have f151 := ((Fva_qa.keep Kc6 nin0).keep Kc8 nin0)
    have f152 := ((Fha_qa.keep Kc6 nin0).keep Kc8 nin0)
    have f153 := ((Fhz_qa.keep Kc6 nin0).keep Kc8 nin0)
    have SR154 : own_Str Z h8 qa bqa kqa (0 : Int32) (0 : Int32) (own_n ux) (ux &&& 255) (own_d ux) := ⟨f14, f150, f151, f152, f153, ⟨f15, (fun q => ((fun q => (Eb_qa q).keep Kc6) q).keep Kc8), hok_qa⟩, hh1_qa, hz1_qa⟩
    refine cV C8 X8 e8 (rm_add l Z a0 hw b1 ac as ah al (0 : Int32) (0 : Int32) fc fs fh fl qa bqa kqa (0 : Int32) (0 : Int32) (own_n ux) (ux &&& 255) (own_d ux) cs wf  h8 n0 (Nat.le_trans Z0 KC8.1) (Ss.k SK8) IX149 SR154 hne3 hge ge_qa (Or.inl rfl) (Or.inl rfl) hs0 (Or.inl ((fun i (_ : ¬ i < 0) (_ : i < (128 : Int32)) => hfl0 i) _ (own_m127 (own_sp (own_hs (own_n ux) (ux &&& 255) (own_d ux)))).1 (own_m127 (own_sp (own_hs (own_n ux) (ux &&& 255) (own_d ux)))).2))) f9 (W := 0) (ow42 C8.w) (ow43 C8.w) (ow45 C8.w) (ow44 C8.w) (ow46 C8.w) (ow2 C8.w) (argsL := [(.ref qa)]) (lenOf pd__Ljava_lang_String__I rfl) at_42 fun v155 T155 lo155 X155 hQ155 => ?_
    obtain ⟨h155, e155⟩ : ∃ h', T155.heap = h' := ⟨_, rfl⟩
    rw [e155] at hQ155
    obtain ⟨hA155, Nq155, Kc155, Sc155, hhN155, hzN155, SN155⟩ := hQ155
    have KC155 : Keep h0 h155 [] := Keep.trans KC8 Kc155 (allS (P := fun x => x ∈ ([] : List Addr) ∨ h0.size ≤ x) (Or.inr bo_b1) (allS (P := fun x => x ∈ ([] : List Addr) ∨ h0.size ≤ x) (Or.inr bo_ac) (allS (P := fun x => x ∈ ([] : List Addr) ∨ h0.size ≤ x) (Or.inr bo_as) (allS (P := fun x => x ∈ ([] : List Addr) ∨ h0.size ≤ x) (Or.inr bo_ah) (allS (P := fun x => x ∈ ([] : List Addr) ∨ h0.size ≤ x) (Or.inr bo_al) (allS (P := fun x => x ∈ ([] : List Addr) ∨ h0.size ≤ x) (Or.inr bo_qa) all0))))))
    have SK155 : own_StK Z h0 h155 := SK8.tr Sc155
    obtain ⟨Es_155, Fco_155, Fva_155, Fha_155, Fhz_155, Sv_155, hh1_155, hz1_155⟩ := id SN155
    obtain ⟨Av_155, Eb_155, hok_155⟩ := id Sv_155
    obtain ⟨rfl, -, fcB155, fsB155, fhB155, flB155, IB155, cpB155, z0155, z1155, l1155, l0155⟩ := hA155.resolve_left (fun q => q.2.1 (by rw [own_fd0 ((fun i (_ : ¬ i < 0) (_ : i < (128 : Int32)) => hfl0 i) _ (own_m127 (own_sp (own_hs (own_n ux) (ux &&& 255) (own_d ux)))).1 (own_m127 (own_sp (own_hs (own_n ux) (ux &&& 255) (own_d ux)))).2)]; exact ((fun i (_ : ¬ i < 0) (_ : i < (128 : Int32)) => hfl0 i) _ (own_m127 (own_sp (own_hs (own_n ux) (ux &&& 255) (own_d ux)))).1 (own_m127 (own_sp (own_hs (own_n ux) (ux &&& 255) (own_d ux)))).2)))
    rw [own_fd0 ((fun i (_ : ¬ i < 0) (_ : i < (128 : Int32)) => hfl0 i) _ (own_m127 (own_sp (own_hs (own_n ux) (ux &&& 255) (own_d ux)))).1 (own_m127 (own_sp (own_hs (own_n ux) (ux &&& 255) (own_d ux)))).2)] at l1155 l0155
    have zz155 := z1155 rfl
    simp only [Int32.zero_add] at IB155 l1155 zz155
    have cp155 := cpB155 rfl
    have hl155 : ∀ i, ¬ i < 0 → i < (128 : Int32) → ¬ i = ((own_sp (own_hs (own_n ux) (ux &&& 255) (own_d ux))) &&& (127 : Int32)) → flB155 i = 0 := fun i h1 h2 h3 => (l0155 i h3).trans ((fun i (_ : ¬ i < 0) (_ : i < (128 : Int32)) => hfl0 i) i h1 h2)
    obtain ⟨Eo_B155, Fch_B155, Fst_B155, Fhs_B155, Fsl_B155, Fsz_B155, Fcc_B155, Bc_B155, Bs_B155, Bh_B155, Bl_B155⟩ := id IB155
    refine sO C8 X155 at_45 ?_
    refine si C8 X155 at_46 ?_
    refine sC C8 X155 at_48 ?_
    by_cases hb49_156 : (uk &&& (3 : Int32)) < (2 : Int32)
    · refine cY C8 X155 at_49 60 ((tlt hb49_156).1) ?_
      have IX157 : own_Ix Z h155 b1 ac as ah al (1 : Int32) (own_n ux) fcB155 fsB155 fhB155 flB155 := ⟨Eo_B155, Fch_B155, Fst_B155, Fhs_B155, Fsl_B155, Fsz_B155, Fcc_B155, Bc_B155, Bs_B155, Bh_B155, Bl_B155⟩
      have SR158 : own_Str Z h155 qa bqa kqa hhN155 hzN155 (own_n ux) (ux &&& 255) (own_d ux) := ⟨Es_155, Fco_155, Fva_155, Fha_155, Fhz_155, ⟨Av_155, Eb_155, hok_155⟩, hh1_155, hz1_155⟩
      have f159 := (f16.keep Kc155)
      have ne_qb_al : qb ≠ al := (own_Fa.neE f16 f13 (ow24 C8.w))
      have ne_qb_ah : qb ≠ ah := (own_Fa.neE f16 f12 (ow24 C8.w))
      have ne_qb_as : qb ≠ as := (own_Fa.neE f16 f11 (ow24 C8.w))
      have ne_qb_ac : qb ≠ ac := (own_Fa.neE f16 f10 (ow24 C8.w))
      have ne_qb_b1 : qb ≠ b1 := (Exa.ne f16 f9 (by decide))
      have f160 := ((Fco_qb.keep Kc8 nin0).keep Kc155 (ninS ne_qb_b1 (ninS ne_qb_ac (ninS ne_qb_as (ninS ne_qb_ah (ninS ne_qb_al (ninS (Ne.symm ne_qa_qb) nin0)))))))
      have f161 := ((Fva_qb.keep Kc8 nin0).keep Kc155 (ninS ne_qb_b1 (ninS ne_qb_ac (ninS ne_qb_as (ninS ne_qb_ah (ninS ne_qb_al (ninS (Ne.symm ne_qa_qb) nin0)))))))
      have f162 := ((Fha_qb.keep Kc8 nin0).keep Kc155 (ninS ne_qb_b1 (ninS ne_qb_ac (ninS ne_qb_as (ninS ne_qb_ah (ninS ne_qb_al (ninS (Ne.symm ne_qa_qb) nin0)))))))
      have f163 := ((Fhz_qb.keep Kc8 nin0).keep Kc155 (ninS ne_qb_b1 (ninS ne_qb_ac (ninS ne_qb_as (ninS ne_qb_ah (ninS ne_qb_al (ninS (Ne.symm ne_qa_qb) nin0)))))))
      have ne_bqb_qa : bqb ≠ qa := (Ne.symm (Exa.neArv f14 f17 (ow24 C8.w)))
      have ne_bqb_al : bqb ≠ al := (own_Fa.neV f17 f13 (by decide))
      have ne_bqb_ah : bqb ≠ ah := (own_Fa.neV f17 f12 (by decide))
      have ne_bqb_as : bqb ≠ as := (own_Fa.neV f17 f11 (by decide))
      have ne_bqb_ac : bqb ≠ ac := (own_Fa.neV f17 f10 (by decide))
      have ne_bqb_b1 : bqb ≠ b1 := (Ne.symm (Exa.neArv f9 f17 (ow1 C8.w)))
      have f165 := (f17.keep Kc155 (ninS ne_bqb_b1 (ninS ne_bqb_ac (ninS ne_bqb_as (ninS ne_bqb_ah (ninS ne_bqb_al (ninS ne_bqb_qa nin0)))))))
      have SR164 : own_Str Z h155 qb bqb kqb (0 : Int32) (0 : Int32) (own_n uy) (uy &&& 255) (own_d uy) := ⟨f159, f160, f161, f162, f163, ⟨f165, (fun q => ((fun q => (Eb_qb q).keep Kc8) q).keep Kc155), hok_qb⟩, hh1_qb, hz1_qb⟩
      have f166 := (Es_qc.keep Kc155)
      have ne_qc_al : qc ≠ al := (own_Fa.neE Es_qc f13 (ow24 C8.w))
      have ne_qc_ah : qc ≠ ah := (own_Fa.neE Es_qc f12 (ow24 C8.w))
      have ne_qc_as : qc ≠ as := (own_Fa.neE Es_qc f11 (ow24 C8.w))
      have ne_qc_ac : qc ≠ ac := (own_Fa.neE Es_qc f10 (ow24 C8.w))
      have ne_qc_b1 : qc ≠ b1 := (Exa.ne Es_qc f9 (by decide))
      have f167 := (Fco_qc.keep Kc155 (ninS ne_qc_b1 (ninS ne_qc_ac (ninS ne_qc_as (ninS ne_qc_ah (ninS ne_qc_al (ninS (Ne.symm ne_qa_qc) nin0)))))))
      have f168 := (Fva_qc.keep Kc155 (ninS ne_qc_b1 (ninS ne_qc_ac (ninS ne_qc_as (ninS ne_qc_ah (ninS ne_qc_al (ninS (Ne.symm ne_qa_qc) nin0)))))))
      have f169 := (Fha_qc.keep Kc155 (ninS ne_qc_b1 (ninS ne_qc_ac (ninS ne_qc_as (ninS ne_qc_ah (ninS ne_qc_al (ninS (Ne.symm ne_qa_qc) nin0)))))))
      have f170 := (Fhz_qc.keep Kc155 (ninS ne_qc_b1 (ninS ne_qc_ac (ninS ne_qc_as (ninS ne_qc_ah (ninS ne_qc_al (ninS (Ne.symm ne_qa_qc) nin0)))))))
      have ne_bqc_qa : bqc ≠ qa := (Ne.symm (Exa.neArv f14 Av_qc (ow24 C8.w)))
      have ne_bqc_al : bqc ≠ al := (own_Fa.neV Av_qc f13 (by decide))
      have ne_bqc_ah : bqc ≠ ah := (own_Fa.neV Av_qc f12 (by decide))
      have ne_bqc_as : bqc ≠ as := (own_Fa.neV Av_qc f11 (by decide))
      have ne_bqc_ac : bqc ≠ ac := (own_Fa.neV Av_qc f10 (by decide))
      have ne_bqc_b1 : bqc ≠ b1 := (Ne.symm (Exa.neArv f9 Av_qc (ow1 C8.w)))
      have f172 := (Av_qc.keep Kc155 (ninS ne_bqc_b1 (ninS ne_bqc_ac (ninS ne_bqc_as (ninS ne_bqc_ah (ninS ne_bqc_al (ninS ne_bqc_qa nin0)))))))
      have SR171 : own_Str Z h155 qc bqc kqc (0 : Int32) (0 : Int32) (own_n uz) (uz &&& 255) (own_d uz) := ⟨f166, f167, f168, f169, f170, ⟨f172, (fun q => (Eb_qc q).keep Kc155), hok_qc⟩, hh1_qc, hz1_qc⟩
      exact B _ _ _ _ _ _ _ _ _ _ _ _ _ X155 e155 (((((N0.app Nq3).app Nq5).app Nq6).app Nq8).app Nq155) KC155 SK155 (Nat.le_trans hk8 Kc155.1) IX157 SR158 SR164 SR171 z0155
    · refine cN C8 X155 at_49 ((flt hb49_156).1) ?_
      refine sa C8 X155 at_52 ?_
      refine sa C8 X155 at_54 ?_
      have IX173 : own_Ix Z h155 b1 ac as ah al (1 : Int32) (own_n ux) fcB155 fsB155 fhB155 flB155 := ⟨Eo_B155, Fch_B155, Fst_B155, Fhs_B155, Fsl_B155, Fsz_B155, Fcc_B155, Bc_B155, Bs_B155, Bh_B155, Bl_B155⟩
      have f174 := (f16.keep Kc155)
      have ne_qb_al : qb ≠ al := (own_Fa.neE f16 f13 (ow24 C8.w))
      have ne_qb_ah : qb ≠ ah := (own_Fa.neE f16 f12 (ow24 C8.w))
      have ne_qb_as : qb ≠ as := (own_Fa.neE f16 f11 (ow24 C8.w))
      have ne_qb_ac : qb ≠ ac := (own_Fa.neE f16 f10 (ow24 C8.w))
      have ne_qb_b1 : qb ≠ b1 := (Exa.ne f16 f9 (by decide))
      have f175 := ((Fco_qb.keep Kc8 nin0).keep Kc155 (ninS ne_qb_b1 (ninS ne_qb_ac (ninS ne_qb_as (ninS ne_qb_ah (ninS ne_qb_al (ninS (Ne.symm ne_qa_qb) nin0)))))))
      have f176 := ((Fva_qb.keep Kc8 nin0).keep Kc155 (ninS ne_qb_b1 (ninS ne_qb_ac (ninS ne_qb_as (ninS ne_qb_ah (ninS ne_qb_al (ninS (Ne.symm ne_qa_qb) nin0)))))))
      have f177 := ((Fha_qb.keep Kc8 nin0).keep Kc155 (ninS ne_qb_b1 (ninS ne_qb_ac (ninS ne_qb_as (ninS ne_qb_ah (ninS ne_qb_al (ninS (Ne.symm ne_qa_qb) nin0)))))))
      have f178 := ((Fhz_qb.keep Kc8 nin0).keep Kc155 (ninS ne_qb_b1 (ninS ne_qb_ac (ninS ne_qb_as (ninS ne_qb_ah (ninS ne_qb_al (ninS (Ne.symm ne_qa_qb) nin0)))))))
      have ne_bqb_qa : bqb ≠ qa := (Ne.symm (Exa.neArv f14 f17 (ow24 C8.w)))
      have ne_bqb_al : bqb ≠ al := (own_Fa.neV f17 f13 (by decide))
      have ne_bqb_ah : bqb ≠ ah := (own_Fa.neV f17 f12 (by decide))
      have ne_bqb_as : bqb ≠ as := (own_Fa.neV f17 f11 (by decide))
      have ne_bqb_ac : bqb ≠ ac := (own_Fa.neV f17 f10 (by decide))
      have ne_bqb_b1 : bqb ≠ b1 := (Ne.symm (Exa.neArv f9 f17 (ow1 C8.w)))
      have f180 := (f17.keep Kc155 (ninS ne_bqb_b1 (ninS ne_bqb_ac (ninS ne_bqb_as (ninS ne_bqb_ah (ninS ne_bqb_al (ninS ne_bqb_qa nin0)))))))
      have SR179 : own_Str Z h155 qb bqb kqb (0 : Int32) (0 : Int32) (own_n uy) (uy &&& 255) (own_d uy) := ⟨f174, f175, f176, f177, f178, ⟨f180, (fun q => ((fun q => (Eb_qb q).keep Kc8) q).keep Kc155), hok_qb⟩, hh1_qb, hz1_qb⟩
      refine cV C8 X155 e155 (rm_add l Z a0 hw b1 ac as ah al (1 : Int32) (own_n ux) fcB155 fsB155 fhB155 flB155 qb bqb kqb (0 : Int32) (0 : Int32) (own_n uy) (uy &&& 255) (own_d uy) cs wf  h155 n0 (Nat.le_trans Z0 KC155.1) (Ss.k SK155) IX173 SR179 hne3 hge ge_qb hok_qa.1 (Or.inr rfl) z0155 (own_pl l1155 hl155 _)) Eo_B155 (W := 0) (ow42 C8.w) (ow43 C8.w) (ow45 C8.w) (ow44 C8.w) (ow46 C8.w) (ow2 C8.w) (argsL := [(.ref qb)]) (lenOf pd__Ljava_lang_String__I rfl) at_56 fun v181 T181 lo181 X181 hQ181 => ?_
      obtain ⟨h181, e181⟩ : ∃ h', T181.heap = h' := ⟨_, rfl⟩
      rw [e181] at hQ181
      obtain ⟨hA181, Nq181, Kc181, Sc181, hhN181, hzN181, SN181⟩ := hQ181
      have KC181 : Keep h0 h181 [] := Keep.trans KC155 Kc181 (allS (P := fun x => x ∈ ([] : List Addr) ∨ h0.size ≤ x) (Or.inr bo_b1) (allS (P := fun x => x ∈ ([] : List Addr) ∨ h0.size ≤ x) (Or.inr bo_ac) (allS (P := fun x => x ∈ ([] : List Addr) ∨ h0.size ≤ x) (Or.inr bo_as) (allS (P := fun x => x ∈ ([] : List Addr) ∨ h0.size ≤ x) (Or.inr bo_ah) (allS (P := fun x => x ∈ ([] : List Addr) ∨ h0.size ≤ x) (Or.inr bo_al) (allS (P := fun x => x ∈ ([] : List Addr) ∨ h0.size ≤ x) (Or.inr bo_qb) all0))))))
      have SK181 : own_StK Z h0 h181 := SK155.tr Sc181
      obtain ⟨Es_181, Fco_181, Fva_181, Fha_181, Fhz_181, Sv_181, hh1_181, hz1_181⟩ := id SN181
      obtain ⟨Av_181, Eb_181, hok_181⟩ := id Sv_181
      rcases hA181 with ⟨rfl, -, IB181⟩ | ⟨rfl, -, fcB181, fsB181, fhB181, flB181, IB181, cpB181, z0181, z1181, l1181, l0181⟩
      · obtain ⟨Eo_C181, Fch_C181, Fst_C181, Fhs_C181, Fsl_C181, Fsz_C181, Fcc_C181, Bc_C181, Bs_C181, Bh_C181, Bl_C181⟩ := id IB181
        refine sO C8 X181 at_59 ?_
        have IX182 : own_Ix Z h181 b1 ac as ah al (1 : Int32) (own_n ux) fcB155 fsB155 fhB155 flB155 := ⟨Eo_C181, Fch_C181, Fst_C181, Fhs_C181, Fsl_C181, Fsz_C181, Fcc_C181, Bc_C181, Bs_C181, Bh_C181, Bl_C181⟩
        have f183 := (Es_155.keep Kc181)
        have ne_qa_al : qa ≠ al := (own_Fa.neE f14 f13 (ow24 C8.w))
        have ne_qa_ah : qa ≠ ah := (own_Fa.neE f14 f12 (ow24 C8.w))
        have ne_qa_as : qa ≠ as := (own_Fa.neE f14 f11 (ow24 C8.w))
        have ne_qa_ac : qa ≠ ac := (own_Fa.neE f14 f10 (ow24 C8.w))
        have ne_qa_b1 : qa ≠ b1 := (Exa.ne f14 f9 (by decide))
        have f184 := (Fco_155.keep Kc181 (ninS ne_qa_b1 (ninS ne_qa_ac (ninS ne_qa_as (ninS ne_qa_ah (ninS ne_qa_al (ninS ne_qa_qb nin0)))))))
        have f185 := (Fva_155.keep Kc181 (ninS ne_qa_b1 (ninS ne_qa_ac (ninS ne_qa_as (ninS ne_qa_ah (ninS ne_qa_al (ninS ne_qa_qb nin0)))))))
        have f186 := (Fha_155.keep Kc181 (ninS ne_qa_b1 (ninS ne_qa_ac (ninS ne_qa_as (ninS ne_qa_ah (ninS ne_qa_al (ninS ne_qa_qb nin0)))))))
        have f187 := (Fhz_155.keep Kc181 (ninS ne_qa_b1 (ninS ne_qa_ac (ninS ne_qa_as (ninS ne_qa_ah (ninS ne_qa_al (ninS ne_qa_qb nin0)))))))
        have ne_bqa_qb : bqa ≠ qb := (Ne.symm (Exa.neArv f16 f15 (ow24 C8.w)))
        have ne_bqa_al : bqa ≠ al := (own_Fa.neV f15 f13 (by decide))
        have ne_bqa_ah : bqa ≠ ah := (own_Fa.neV f15 f12 (by decide))
        have ne_bqa_as : bqa ≠ as := (own_Fa.neV f15 f11 (by decide))
        have ne_bqa_ac : bqa ≠ ac := (own_Fa.neV f15 f10 (by decide))
        have ne_bqa_b1 : bqa ≠ b1 := (Ne.symm (Exa.neArv f9 f15 (ow1 C8.w)))
        have f189 := (Av_155.keep Kc181 (ninS ne_bqa_b1 (ninS ne_bqa_ac (ninS ne_bqa_as (ninS ne_bqa_ah (ninS ne_bqa_al (ninS ne_bqa_qb nin0)))))))
        have SR188 : own_Str Z h181 qa bqa kqa hhN155 hzN155 (own_n ux) (ux &&& 255) (own_d ux) := ⟨f183, f184, f185, f186, f187, ⟨f189, (fun q => (Eb_155 q).keep Kc181), hok_155⟩, hh1_155, hz1_155⟩
        have SR190 : own_Str Z h181 qb bqb kqb hhN181 hzN181 (own_n uy) (uy &&& 255) (own_d uy) := ⟨Es_181, Fco_181, Fva_181, Fha_181, Fhz_181, ⟨Av_181, Eb_181, hok_181⟩, hh1_181, hz1_181⟩
        have f191 := ((Es_qc.keep Kc155).keep Kc181)
        have ne_qc_al : qc ≠ al := (own_Fa.neE Es_qc f13 (ow24 C8.w))
        have ne_qc_ah : qc ≠ ah := (own_Fa.neE Es_qc f12 (ow24 C8.w))
        have ne_qc_as : qc ≠ as := (own_Fa.neE Es_qc f11 (ow24 C8.w))
        have ne_qc_ac : qc ≠ ac := (own_Fa.neE Es_qc f10 (ow24 C8.w))
        have ne_qc_b1 : qc ≠ b1 := (Exa.ne Es_qc f9 (by decide))
        have f192 := ((Fco_qc.keep Kc155 (ninS ne_qc_b1 (ninS ne_qc_ac (ninS ne_qc_as (ninS ne_qc_ah (ninS ne_qc_al (ninS (Ne.symm ne_qa_qc) nin0))))))).keep Kc181 (ninS ne_qc_b1 (ninS ne_qc_ac (ninS ne_qc_as (ninS ne_qc_ah (ninS ne_qc_al (ninS (Ne.symm ne_qb_qc) nin0)))))))
        have f193 := ((Fva_qc.keep Kc155 (ninS ne_qc_b1 (ninS ne_qc_ac (ninS ne_qc_as (ninS ne_qc_ah (ninS ne_qc_al (ninS (Ne.symm ne_qa_qc) nin0))))))).keep Kc181 (ninS ne_qc_b1 (ninS ne_qc_ac (ninS ne_qc_as (ninS ne_qc_ah (ninS ne_qc_al (ninS (Ne.symm ne_qb_qc) nin0)))))))
        have f194 := ((Fha_qc.keep Kc155 (ninS ne_qc_b1 (ninS ne_qc_ac (ninS ne_qc_as (ninS ne_qc_ah (ninS ne_qc_al (ninS (Ne.symm ne_qa_qc) nin0))))))).keep Kc181 (ninS ne_qc_b1 (ninS ne_qc_ac (ninS ne_qc_as (ninS ne_qc_ah (ninS ne_qc_al (ninS (Ne.symm ne_qb_qc) nin0)))))))
        have f195 := ((Fhz_qc.keep Kc155 (ninS ne_qc_b1 (ninS ne_qc_ac (ninS ne_qc_as (ninS ne_qc_ah (ninS ne_qc_al (ninS (Ne.symm ne_qa_qc) nin0))))))).keep Kc181 (ninS ne_qc_b1 (ninS ne_qc_ac (ninS ne_qc_as (ninS ne_qc_ah (ninS ne_qc_al (ninS (Ne.symm ne_qb_qc) nin0)))))))
        have ne_bqc_qa : bqc ≠ qa := (Ne.symm (Exa.neArv f14 Av_qc (ow24 C8.w)))
        have ne_bqc_al : bqc ≠ al := (own_Fa.neV Av_qc f13 (by decide))
        have ne_bqc_ah : bqc ≠ ah := (own_Fa.neV Av_qc f12 (by decide))
        have ne_bqc_as : bqc ≠ as := (own_Fa.neV Av_qc f11 (by decide))
        have ne_bqc_ac : bqc ≠ ac := (own_Fa.neV Av_qc f10 (by decide))
        have ne_bqc_b1 : bqc ≠ b1 := (Ne.symm (Exa.neArv f9 Av_qc (ow1 C8.w)))
        have ne_bqc_qb : bqc ≠ qb := (Ne.symm (Exa.neArv f16 Av_qc (ow24 C8.w)))
        have f197 := ((Av_qc.keep Kc155 (ninS ne_bqc_b1 (ninS ne_bqc_ac (ninS ne_bqc_as (ninS ne_bqc_ah (ninS ne_bqc_al (ninS ne_bqc_qa nin0))))))).keep Kc181 (ninS ne_bqc_b1 (ninS ne_bqc_ac (ninS ne_bqc_as (ninS ne_bqc_ah (ninS ne_bqc_al (ninS ne_bqc_qb nin0)))))))
        have SR196 : own_Str Z h181 qc bqc kqc (0 : Int32) (0 : Int32) (own_n uz) (uz &&& 255) (own_d uz) := ⟨f191, f192, f193, f194, f195, ⟨f197, (fun q => ((fun q => (Eb_qc q).keep Kc155) q).keep Kc181), hok_qc⟩, hh1_qc, hz1_qc⟩
        exact B _ _ _ _ _ _ _ _ _ _ _ _ _ X181 e181 ((((((N0.app Nq3).app Nq5).app Nq6).app Nq8).app Nq155).app Nq181) KC181 SK181 (Nat.le_trans (Nat.le_trans hk8 Kc155.1) Kc181.1) IX182 SR188 SR190 SR196 z0155
      · obtain ⟨Eo_D181, Fch_D181, Fst_D181, Fhs_D181, Fsl_D181, Fsz_D181, Fcc_D181, Bc_D181, Bs_D181, Bh_D181, Bl_D181⟩ := id IB181
        refine sO C8 X181 at_59 ?_
        have IX198 : own_Ix Z h181 b1 ac as ah al ((1 : Int32) + 1) ((own_n ux) + (own_n uy)) fcB181 fsB181 fhB181 flB181 := ⟨Eo_D181, Fch_D181, Fst_D181, Fhs_D181, Fsl_D181, Fsz_D181, Fcc_D181, Bc_D181, Bs_D181, Bh_D181, Bl_D181⟩
        have f199 := (Es_155.keep Kc181)
        have ne_qa_al : qa ≠ al := (own_Fa.neE f14 f13 (ow24 C8.w))
        have ne_qa_ah : qa ≠ ah := (own_Fa.neE f14 f12 (ow24 C8.w))
        have ne_qa_as : qa ≠ as := (own_Fa.neE f14 f11 (ow24 C8.w))
        have ne_qa_ac : qa ≠ ac := (own_Fa.neE f14 f10 (ow24 C8.w))
        have ne_qa_b1 : qa ≠ b1 := (Exa.ne f14 f9 (by decide))
        have f200 := (Fco_155.keep Kc181 (ninS ne_qa_b1 (ninS ne_qa_ac (ninS ne_qa_as (ninS ne_qa_ah (ninS ne_qa_al (ninS ne_qa_qb nin0)))))))
        have f201 := (Fva_155.keep Kc181 (ninS ne_qa_b1 (ninS ne_qa_ac (ninS ne_qa_as (ninS ne_qa_ah (ninS ne_qa_al (ninS ne_qa_qb nin0)))))))
        have f202 := (Fha_155.keep Kc181 (ninS ne_qa_b1 (ninS ne_qa_ac (ninS ne_qa_as (ninS ne_qa_ah (ninS ne_qa_al (ninS ne_qa_qb nin0)))))))
        have f203 := (Fhz_155.keep Kc181 (ninS ne_qa_b1 (ninS ne_qa_ac (ninS ne_qa_as (ninS ne_qa_ah (ninS ne_qa_al (ninS ne_qa_qb nin0)))))))
        have ne_bqa_qb : bqa ≠ qb := (Ne.symm (Exa.neArv f16 f15 (ow24 C8.w)))
        have ne_bqa_al : bqa ≠ al := (own_Fa.neV f15 f13 (by decide))
        have ne_bqa_ah : bqa ≠ ah := (own_Fa.neV f15 f12 (by decide))
        have ne_bqa_as : bqa ≠ as := (own_Fa.neV f15 f11 (by decide))
        have ne_bqa_ac : bqa ≠ ac := (own_Fa.neV f15 f10 (by decide))
        have ne_bqa_b1 : bqa ≠ b1 := (Ne.symm (Exa.neArv f9 f15 (ow1 C8.w)))
        have f205 := (Av_155.keep Kc181 (ninS ne_bqa_b1 (ninS ne_bqa_ac (ninS ne_bqa_as (ninS ne_bqa_ah (ninS ne_bqa_al (ninS ne_bqa_qb nin0)))))))
        have SR204 : own_Str Z h181 qa bqa kqa hhN155 hzN155 (own_n ux) (ux &&& 255) (own_d ux) := ⟨f199, f200, f201, f202, f203, ⟨f205, (fun q => (Eb_155 q).keep Kc181), hok_155⟩, hh1_155, hz1_155⟩
        have SR206 : own_Str Z h181 qb bqb kqb hhN181 hzN181 (own_n uy) (uy &&& 255) (own_d uy) := ⟨Es_181, Fco_181, Fva_181, Fha_181, Fhz_181, ⟨Av_181, Eb_181, hok_181⟩, hh1_181, hz1_181⟩
        have f207 := ((Es_qc.keep Kc155).keep Kc181)
        have ne_qc_al : qc ≠ al := (own_Fa.neE Es_qc f13 (ow24 C8.w))
        have ne_qc_ah : qc ≠ ah := (own_Fa.neE Es_qc f12 (ow24 C8.w))
        have ne_qc_as : qc ≠ as := (own_Fa.neE Es_qc f11 (ow24 C8.w))
        have ne_qc_ac : qc ≠ ac := (own_Fa.neE Es_qc f10 (ow24 C8.w))
        have ne_qc_b1 : qc ≠ b1 := (Exa.ne Es_qc f9 (by decide))
        have f208 := ((Fco_qc.keep Kc155 (ninS ne_qc_b1 (ninS ne_qc_ac (ninS ne_qc_as (ninS ne_qc_ah (ninS ne_qc_al (ninS (Ne.symm ne_qa_qc) nin0))))))).keep Kc181 (ninS ne_qc_b1 (ninS ne_qc_ac (ninS ne_qc_as (ninS ne_qc_ah (ninS ne_qc_al (ninS (Ne.symm ne_qb_qc) nin0)))))))
        have f209 := ((Fva_qc.keep Kc155 (ninS ne_qc_b1 (ninS ne_qc_ac (ninS ne_qc_as (ninS ne_qc_ah (ninS ne_qc_al (ninS (Ne.symm ne_qa_qc) nin0))))))).keep Kc181 (ninS ne_qc_b1 (ninS ne_qc_ac (ninS ne_qc_as (ninS ne_qc_ah (ninS ne_qc_al (ninS (Ne.symm ne_qb_qc) nin0)))))))
        have f210 := ((Fha_qc.keep Kc155 (ninS ne_qc_b1 (ninS ne_qc_ac (ninS ne_qc_as (ninS ne_qc_ah (ninS ne_qc_al (ninS (Ne.symm ne_qa_qc) nin0))))))).keep Kc181 (ninS ne_qc_b1 (ninS ne_qc_ac (ninS ne_qc_as (ninS ne_qc_ah (ninS ne_qc_al (ninS (Ne.symm ne_qb_qc) nin0)))))))
        have f211 := ((Fhz_qc.keep Kc155 (ninS ne_qc_b1 (ninS ne_qc_ac (ninS ne_qc_as (ninS ne_qc_ah (ninS ne_qc_al (ninS (Ne.symm ne_qa_qc) nin0))))))).keep Kc181 (ninS ne_qc_b1 (ninS ne_qc_ac (ninS ne_qc_as (ninS ne_qc_ah (ninS ne_qc_al (ninS (Ne.symm ne_qb_qc) nin0)))))))
        have ne_bqc_qa : bqc ≠ qa := (Ne.symm (Exa.neArv f14 Av_qc (ow24 C8.w)))
        have ne_bqc_al : bqc ≠ al := (own_Fa.neV Av_qc f13 (by decide))
        have ne_bqc_ah : bqc ≠ ah := (own_Fa.neV Av_qc f12 (by decide))
        have ne_bqc_as : bqc ≠ as := (own_Fa.neV Av_qc f11 (by decide))
        have ne_bqc_ac : bqc ≠ ac := (own_Fa.neV Av_qc f10 (by decide))
        have ne_bqc_b1 : bqc ≠ b1 := (Ne.symm (Exa.neArv f9 Av_qc (ow1 C8.w)))
        have ne_bqc_qb : bqc ≠ qb := (Ne.symm (Exa.neArv f16 Av_qc (ow24 C8.w)))
        have f213 := ((Av_qc.keep Kc155 (ninS ne_bqc_b1 (ninS ne_bqc_ac (ninS ne_bqc_as (ninS ne_bqc_ah (ninS ne_bqc_al (ninS ne_bqc_qa nin0))))))).keep Kc181 (ninS ne_bqc_b1 (ninS ne_bqc_ac (ninS ne_bqc_as (ninS ne_bqc_ah (ninS ne_bqc_al (ninS ne_bqc_qb nin0)))))))
        have SR212 : own_Str Z h181 qc bqc kqc (0 : Int32) (0 : Int32) (own_n uz) (uz &&& 255) (own_d uz) := ⟨f207, f208, f209, f210, f211, ⟨f213, (fun q => ((fun q => (Eb_qc q).keep Kc155) q).keep Kc181), hok_qc⟩, hh1_qc, hz1_qc⟩
        exact B _ _ _ _ _ _ _ _ _ _ _ _ _ X181 e181 ((((((N0.app Nq3).app Nq5).app Nq6).app Nq8).app Nq155).app Nq181) KC181 SK181 (Nat.le_trans (Nat.le_trans hk8 Kc155.1) Kc181.1) IX198 SR204 SR206 SR212 z0181
theorem comes_1 {Post : Tables → Env → Array Value → State → Outcome → State → Prop} (hpost : ∀ tb e args s v u, (limb_1_1.after args s (.returned v) u = true ∧ limb_1_2.after args s (.returned v) u = true ∧ True) → ReturnedEndW s (.returned v) u (Jvm.fieldLocs frame_1_writes args s ++ Jvm.arrayLocs frame_1_arrays args s ++ Jvm.staticLocs frame_1_statics s) 40 2752 → Post tb e args s (.returned v) u) :
    ArmFor flags0 classFile x code maxLocals ret World_1 tables_1 room_1 Calls_1 rest_1 Pre_1 Post := by
  intro l hfl _ _ p e ha hc hk s m args below hf hA hF happ hP
  obtain ⟨hcalls, hrest, hpre⟩ := hP
  obtain ⟨-, -, -, hnamed, -, -, -, hat⟩ := (Spec.applies_iff hf).mp happ
  obtain ⟨hg, hn⟩ := and_e (Cond.before_iff.mp (show (Jvm.Cond.and given_1 narrow_1).before args s = true from hpre))
  obtain ⟨g1, g2⟩ := and_e hg
  obtain ⟨g3, g4⟩ := and_e g2
  obtain ⟨g5, g6⟩ := and_e g4
  obtain ⟨g7, g8⟩ := and_e g6
  obtain ⟨w0, w1, w2, w3, rfl⟩ : ∃ w0 w1 w2 w3 : Value, args = #[w0, w1, w2, w3] := by
    have hs : args.size = 4 := by simpa [Cond.value, given_1] using g1
    obtain ⟨L⟩ := args
    match L, hs with
    | [w0, w1, w2, w3], _ => exact ⟨w0, w1, w2, w3, rfl⟩
  have hw := fun d (hd : d ∈ tables_1) => atoms_spec (ws := Jvm.Cond.code x code maxLocals ret :: tables_1) hat d (List.mem_cons_of_mem _ hd)
  obtain ⟨hsets, hown0⟩ := atoms_of _ (rest_1_c_eq ▸ (show rest_1_c.before _ s = true from hrest))
  obtain ⟨i0, ei0⟩ := is_v g3
  obtain rfl : w0 = (.int i0) := Option.some.inj ei0
  obtain ⟨i1, ei1⟩ := is_v g5
  obtain rfl : w1 = (.int i1) := Option.some.inj ei1
  obtain ⟨i2, ei2⟩ := is_v g7
  obtain rfl : w2 = (.int i2) := Option.some.inj ei2
  obtain ⟨i3, ei3⟩ := is_v g8
  obtain rfl : w3 = (.int i3) := Option.some.inj ei3
  obtain ⟨cs, ecs⟩ := is_v (Cond.before_iff.mp (hsets _ (List.mem_of_getElem? (i := 1) rfl)))
  have Sco := Sta.start ecs (Or.inl (hsets _ (List.mem_of_getElem? (i := 0) rfl)))
  have hcs : ¬ cs = 0 := fun q => by
    have h := Cond.before_iff.mp (hsets _ (List.mem_of_getElem? (i := 2) rfl))
    subst q
    simp [Cond.value, ecs, Term.int_eval] at h
  obtain ⟨wf, ewf, hwf⟩ := isR_v (Cond.before_iff.mp (hsets _ (List.mem_of_getElem? (i := 8) rfl)))
  have Sfo := Sta.start ewf (Or.inl (hsets _ (List.mem_of_getElem? (i := 7) rfl)))
  have hCH : CHv s consts_1 s.vm s.heap := CHv.start (own_EL hw) hcalls.1 (hsets _ (List.mem_of_getElem? (i := 2) rfl)) (ow35 hw) (ow24 hw)
  obtain ⟨n, o, h1, h2, h3, _, L, rfl, ⟨rfl, N⟩, hq⟩ := rm0 l s _ hw i0 i1 i2 i3 cs wf s.heap s.heap.size (Nat.le_refl _) ⟨Sco, hcs, Sfo, hwf⟩ tables_1 p e ha hc hk s m _ below hf ((Spec.applies_iff_loose hf).mp happ).1 ⟨rfl, State.Warmed39.refl s, rfl, hCH⟩ trivial
  refine ⟨n, _, h1, h2, h3, hpost _ _ _ _ _ _ ⟨Cond.after_iff.mpr rfl, Cond.after_iff.mpr (eq_i res_at (Term.int_eval (1)) rfl), trivial⟩ ⟨hq.1, hq.2.1, hq.2.2.1, (hq.2.2.2.sift fun y hy => Or.inr (N y hy)).mono (by decide) (by decide)⟩⟩
theorem main_1_1 : Claimed_1_1 := comes_1 fun _ _ _ _ _ _ h hF => ⟨h.1, hF⟩
theorem main_1_2 : Claimed_1_2 := comes_1 fun _ _ _ _ _ _ h hF => ⟨h.2.1, hF⟩
end Jvm.Pilot.@@N@@
namespace Jvm.Pilot.@@N@@
open Jvm Jvm.ClassFile Sem Op Lib Jvm.Free Jvm.Stand Jvm.Pilot.@@N@@.Jvm.D
/-! MADE BY PROGRAM (witnessworld.py) out of the Statement's table words and the real class files: 22 classes; the members and pool entries that the words name. The judged class is class 1, her method 3. -/
namespace start1
open Jvm.ClassFile
def u (s : String) : CpInfo := .utf8 (stringToUtf16 s)
/-- a pool by its gaps: so many unusable entries, then the entry; so many at the end -/
def gap : Nat → List CpInfo → List CpInfo
  | 0, r => r
  | n + 1, r => .unusable :: gap n r
def poolList (es : List (Nat × CpInfo)) (last : Nat) : List CpInfo := es.foldr (fun e r => gap e.1 (e.2 :: r)) (gap last [])
def pool (es : List (Nat × CpInfo)) (last : Nat) : Array CpInfo := ⟨poolList es last⟩
def fileOf (pool : Array CpInfo) (this : Nat) (attrs : Array Attribute := #[]) (ms : Array MethodInfo := #[]) (fl : Nat := 33) (sup : Nat := 0) (ifs : Array Nat := #[]) (fds : Array FieldInfo := #[]) : ClassFile where
  minorVersion := 0
  majorVersion := 65
  constantPool := pool
  accessFlags := fl
  thisClass := this
  superClass := sup
  interfaces := ifs
  fields := fds
  methods := ms
  attributes := attrs
def plain (name : String) (sup : Option ClassId) : Class where
  name := name
  kind := .ordinary
  loader := none
  accessFlags := 33
  super := sup
  interfaces := #[]
  cf := none
  fields := #[]
  methods := #[]
  instanceTypes := #[]
  staticTypes := #[]
  resolved := #[]
  callSites := []
  init := .initialized
  statics := none
  mirror := none

def pool0 : Array CpInfo := pool [(5, u "<init>"), (0, u "()V"), (1, .class_ 10), (1, u "java/lang/Object")] 113

def k0c0 : Code := { maxStack := 0, maxLocals := 1, code := object_method_1_code, exceptionTable := #[], attributes := #[] }
def k0m0 : Method := { name := "<init>", desc := "()V", sig := { parameters := [], returnType := none }, accessFlags := 1, code := some k0c0 }
/-- java/lang/Object -/
def k0 : Class := { plain "java/lang/Object" none with
  accessFlags := 33
  interfaces := #[]
  cf := some (fileOf pool0 8 #[] #[{ accessFlags := 1, nameIndex := 5, descriptorIndex := 6, attributes := #[] }] 33 0 #[] #[])
  fields := #[]
  methods := #[k0m0]
  instanceTypes := #[]
  staticTypes := #[]
  resolved := Array.replicate 124 none
  statics := none }

def pool1 : Array CpInfo := pool [(2, .class_ 4), (0, .nameAndType 5 6), (0, u "java/lang/Object"), (0, u "<init>"), (0, u "()V"), (0, .class_ 8), (0, u "java/lang/String"), (0, .methodref 7 10), (0, .nameAndType 5 11), (0, u "([C)V"), (0, .class_ 13), (0, u "com/example/holdback/holdback/util/StringIndex"), (0, .methodref 12 3), (0, .methodref 16 17), (0, .class_ 18), (0, .nameAndType 19 20), (0, u "com/example/holdback/holdback/util/StringIndexClearPinLaw"), (0, u "mk"), (0, u "(I)Ljava/lang/String;"), (0, .methodref 12 22), (0, .nameAndType 23 24), (0, u "add"), (0, u "(Ljava/lang/String;)I"), (0, .methodref 12 26), (0, .nameAndType 27 6), (0, u "clear"), (0, .methodref 12 29), (0, .nameAndType 30 31), (0, u "size"), (0, u "()I"), (0, .methodref 12 33), (0, .nameAndType 34 24), (0, u "indexOf"), (0, .methodref 12 36), (0, .nameAndType 37 38), (0, u "length"), (0, u "(I)I"), (0, .methodref 7 40), (0, .nameAndType 37 31), (0, .methodref 12 42), (0, .nameAndType 43 38), (0, u "hash"), (0, .methodref 16 45), (0, .nameAndType 46 38), (0, u "hashRef"), (0, .methodref 7 48), (0, .nameAndType 49 50), (0, u "equals"), (0, u "(Ljava/lang/Object;)Z"), (3, u "law"), (0, u "(IIII)Z")] 2

def k1m0 : Method := { name := "<init>", desc := "()V", sig := { parameters := [], returnType := none }, accessFlags := 1, code := none }
def k1c1 : Code := { maxStack := 6, maxLocals := 4, code := method_2_code, exceptionTable := #[], attributes := #[] }
def k1m1 : Method := { name := "mk", desc := "(I)Ljava/lang/String;", sig := { parameters := [.int], returnType := some (.object "java/lang/String") }, accessFlags := 10, code := some k1c1 }
def k1c2 : Code := { maxStack := 2, maxLocals := 4, code := method_3_code, exceptionTable := #[], attributes := #[] }
def k1m2 : Method := { name := "hashRef", desc := "(I)I", sig := { parameters := [.int], returnType := some .int }, accessFlags := 10, code := some k1c2 }
def k1c3 : Code := { maxStack := 2, maxLocals := 15, code := code, exceptionTable := #[], attributes := #[] }
def k1m3 : Method := { name := "law", desc := "(IIII)Z", sig := { parameters := [.int, .int, .int, .int], returnType := some .boolean }, accessFlags := 9, code := some k1c3 }
/-- com/example/holdback/holdback/util/StringIndexClearPinLaw -/
def k1 : Class := { plain "com/example/holdback/holdback/util/StringIndexClearPinLaw" (some 0) with
  accessFlags := 49
  interfaces := #[]
  cf := some (fileOf pool1 16 #[] #[{ accessFlags := 1, nameIndex := 5, descriptorIndex := 6, attributes := #[] }, { accessFlags := 10, nameIndex := 19, descriptorIndex := 20, attributes := #[] }, { accessFlags := 10, nameIndex := 46, descriptorIndex := 38, attributes := #[] }, { accessFlags := 9, nameIndex := 54, descriptorIndex := 55, attributes := #[] }] 49 2 #[] #[])
  fields := #[]
  methods := #[k1m0, k1m1, k1m2, k1m3]
  instanceTypes := #[]
  staticTypes := #[]
  resolved := Array.replicate 58 none
  statics := none }

def pool2 : Array CpInfo := pool [(1, .methodref 2 3), (0, .class_ 4), (0, .nameAndType 5 6), (0, u "java/lang/Object"), (0, u "<init>"), (0, u "()V"), (0, .class_ 8), (0, u "com/example/holdback/holdback/util/StringIndex"), (0, .fieldref 7 10), (0, .nameAndType 11 12), (0, u "chars"), (0, u "[C"), (0, .fieldref 7 14), (0, .nameAndType 15 16), (0, u "starts"), (0, u "[I"), (0, .fieldref 7 18), (0, .nameAndType 19 16), (0, u "hashes"), (0, .fieldref 7 21), (0, .nameAndType 22 16), (0, u "slots"), (0, .fieldref 7 24), (0, .nameAndType 25 26), (0, u "size"), (0, u "I"), (0, .methodref 28 29), (0, .class_ 30), (0, .nameAndType 31 32), (0, u "java/util/Objects"), (0, u "checkIndex"), (0, u "(II)I"), (5, u "()I"), (18, .methodref 58 59), (0, .class_ 60), (0, .nameAndType 61 38), (0, u "java/lang/String"), (0, u "hashCode"), (0, .methodref 7 63), (0, .nameAndType 64 65), (0, u "find"), (0, u "(Ljava/lang/String;I)I"), (0, .methodref 7 67), (0, .nameAndType 68 69), (0, u "append"), (0, u "(Ljava/lang/String;I)V"), (4, .methodref 75 76), (0, .class_ 77), (0, .nameAndType 78 79), (0, u "java/util/Arrays"), (0, u "fill"), (0, u "([II)V"), (0, .fieldref 7 81), (0, .nameAndType 82 26), (0, u "charCount"), (0, .methodref 7 84), (0, .nameAndType 85 86), (0, u "spread"), (0, u "(I)I"), (0, .methodref 7 88), (0, .nameAndType 89 90), (0, u "equalsAt"), (0, u "(ILjava/lang/String;)Z"), (0, .methodref 58 92), (0, .nameAndType 93 38), (0, u "length"), (0, .methodref 58 95), (0, .nameAndType 96 97), (0, u "charAt"), (0, u "(I)C"), (12, .methodref 58 111), (0, .nameAndType 112 113), (0, u "getChars"), (0, u "(II[CI)V"), (0, .integer 2246822507), (0, u "INITIAL_STRINGS"), (4, u "hash"), (5, u "indexOf"), (0, u "(Ljava/lang/String;)I"), (0, u "add"), (0, u "clear")] 2

def k2c0 : Code := { maxStack := 2, maxLocals := 1, code := prog_76_method_1_code, exceptionTable := #[], attributes := #[] }
def k2m0 : Method := { name := "<init>", desc := "()V", sig := { parameters := [], returnType := none }, accessFlags := 1, code := some k2c0 }
def k2c1 : Code := { maxStack := 1, maxLocals := 1, code := prog_76_method_2_code, exceptionTable := #[], attributes := #[] }
def k2m1 : Method := { name := "size", desc := "()I", sig := { parameters := [], returnType := some .int }, accessFlags := 1, code := some k2c1 }
def k2c2 : Code := { maxStack := 3, maxLocals := 2, code := prog_76_method_3_code, exceptionTable := #[], attributes := #[] }
def k2m2 : Method := { name := "length", desc := "(I)I", sig := { parameters := [.int], returnType := some .int }, accessFlags := 1, code := some k2c2 }
def k2c3 : Code := { maxStack := 2, maxLocals := 2, code := prog_76_method_4_code, exceptionTable := #[], attributes := #[] }
def k2m3 : Method := { name := "hash", desc := "(I)I", sig := { parameters := [.int], returnType := some .int }, accessFlags := 1, code := some k2c3 }
def k2c4 : Code := { maxStack := 3, maxLocals := 4, code := prog_76_method_6_code, exceptionTable := #[], attributes := #[] }
def k2m4 : Method := { name := "indexOf", desc := "(Ljava/lang/String;)I", sig := { parameters := [(.object "java/lang/String")], returnType := some .int }, accessFlags := 1, code := some k2c4 }
def k2c5 : Code := { maxStack := 4, maxLocals := 5, code := prog_76_method_7_code, exceptionTable := #[], attributes := #[] }
def k2m5 : Method := { name := "add", desc := "(Ljava/lang/String;)I", sig := { parameters := [(.object "java/lang/String")], returnType := some .int }, accessFlags := 1, code := some k2c5 }
def k2c6 : Code := { maxStack := 2, maxLocals := 1, code := prog_76_method_8_code, exceptionTable := #[], attributes := #[] }
def k2m6 : Method := { name := "clear", desc := "()V", sig := { parameters := [], returnType := none }, accessFlags := 1, code := some k2c6 }
def k2c7 : Code := { maxStack := 3, maxLocals := 6, code := prog_76_method_9_code, exceptionTable := #[], attributes := #[] }
def k2m7 : Method := { name := "find", desc := "(Ljava/lang/String;I)I", sig := { parameters := [(.object "java/lang/String"), .int], returnType := some .int }, accessFlags := 2, code := some k2c7 }
def k2c8 : Code := { maxStack := 3, maxLocals := 5, code := prog_76_method_10_code, exceptionTable := #[], attributes := #[] }
def k2m8 : Method := { name := "equalsAt", desc := "(ILjava/lang/String;)Z", sig := { parameters := [.int, (.object "java/lang/String")], returnType := some .boolean }, accessFlags := 2, code := some k2c8 }
def k2c9 : Code := { maxStack := 5, maxLocals := 3, code := prog_76_method_11_code, exceptionTable := #[], attributes := #[] }
def k2m9 : Method := { name := "append", desc := "(Ljava/lang/String;I)V", sig := { parameters := [(.object "java/lang/String"), .int], returnType := none }, accessFlags := 2, code := some k2c9 }
def k2c10 : Code := { maxStack := 3, maxLocals := 2, code := prog_76_method_13_code, exceptionTable := #[], attributes := #[] }
def k2m10 : Method := { name := "spread", desc := "(I)I", sig := { parameters := [.int], returnType := some .int }, accessFlags := 8, code := some k2c10 }
/-- com/example/holdback/holdback/util/StringIndex -/
def k2 : Class := { plain "com/example/holdback/holdback/util/StringIndex" (some 0) with
  accessFlags := 49
  interfaces := #[]
  cf := some (fileOf pool2 7 #[] #[{ accessFlags := 1, nameIndex := 5, descriptorIndex := 6, attributes := #[] }, { accessFlags := 1, nameIndex := 25, descriptorIndex := 38, attributes := #[] }, { accessFlags := 1, nameIndex := 93, descriptorIndex := 86, attributes := #[] }, { accessFlags := 1, nameIndex := 120, descriptorIndex := 86, attributes := #[] }, { accessFlags := 1, nameIndex := 126, descriptorIndex := 127, attributes := #[] }, { accessFlags := 1, nameIndex := 128, descriptorIndex := 127, attributes := #[] }, { accessFlags := 1, nameIndex := 129, descriptorIndex := 6, attributes := #[] }, { accessFlags := 2, nameIndex := 64, descriptorIndex := 65, attributes := #[] }, { accessFlags := 2, nameIndex := 89, descriptorIndex := 90, attributes := #[] }, { accessFlags := 2, nameIndex := 68, descriptorIndex := 69, attributes := #[] }, { accessFlags := 8, nameIndex := 85, descriptorIndex := 86, attributes := #[] }] 49 2 #[] #[{ accessFlags := 26, nameIndex := 115, descriptorIndex := 26, attributes := #[] }, { accessFlags := 2, nameIndex := 11, descriptorIndex := 12, attributes := #[] }, { accessFlags := 2, nameIndex := 82, descriptorIndex := 26, attributes := #[] }, { accessFlags := 2, nameIndex := 15, descriptorIndex := 16, attributes := #[] }, { accessFlags := 2, nameIndex := 19, descriptorIndex := 16, attributes := #[] }, { accessFlags := 2, nameIndex := 25, descriptorIndex := 26, attributes := #[] }, { accessFlags := 2, nameIndex := 22, descriptorIndex := 16, attributes := #[] }])
  fields := #[{ name := "INITIAL_STRINGS", type := .int, accessFlags := 26, slot := 0, constantValue := 0 }, { name := "chars", type := (.array .char), accessFlags := 2, slot := 0, constantValue := 0 }, { name := "charCount", type := .int, accessFlags := 2, slot := 1, constantValue := 0 }, { name := "starts", type := (.array .int), accessFlags := 2, slot := 2, constantValue := 0 }, { name := "hashes", type := (.array .int), accessFlags := 2, slot := 3, constantValue := 0 }, { name := "size", type := .int, accessFlags := 2, slot := 4, constantValue := 0 }, { name := "slots", type := (.array .int), accessFlags := 2, slot := 5, constantValue := 0 }]
  methods := #[k2m0, k2m1, k2m2, k2m3, k2m4, k2m5, k2m6, k2m7, k2m8, k2m9, k2m10]
  instanceTypes := #[(.array .char), .int, (.array .int), (.array .int), .int, (.array .int)]
  staticTypes := #[.int]
  resolved := Array.replicate 132 none
  statics := none }

def pool3 : Array CpInfo := pool [(1, .class_ 2), (0, u "java/io/Serializable"), (0, .class_ 4), (0, u "java/lang/Object")] 2

/-- java/io/Serializable -/
def k3 : Class := { plain "java/io/Serializable" (some 0) with
  accessFlags := 1537
  interfaces := #[]
  cf := some (fileOf pool3 1 #[] #[] 1537 3 #[] #[])
  fields := #[]
  methods := #[]
  instanceTypes := #[]
  staticTypes := #[]
  resolved := Array.replicate 7 none
  statics := none }

def pool4 : Array CpInfo := pool [(1, .class_ 2), (0, u "java/lang/Comparable"), (0, .class_ 4), (0, u "java/lang/Object")] 7

/-- java/lang/Comparable -/
def k4 : Class := { plain "java/lang/Comparable" (some 0) with
  accessFlags := 1537
  interfaces := #[]
  cf := some (fileOf pool4 1 #[] #[] 1537 3 #[] #[])
  fields := #[]
  methods := #[]
  instanceTypes := #[]
  staticTypes := #[]
  resolved := Array.replicate 12 none
  statics := none }

def pool5 : Array CpInfo := pool [(2, .class_ 4), (1, u "java/lang/CharSequence"), (42, .class_ 48), (0, u "java/lang/CharSequence$1CodePointIterator"), (10, .class_ 60), (0, u "java/lang/CharSequence$1CharIterator"), (5, .class_ 67), (0, u "java/lang/Object")] 63

/-- java/lang/CharSequence -/
def k5 : Class := { plain "java/lang/CharSequence" (some 0) with
  accessFlags := 1537
  interfaces := #[]
  cf := some (fileOf pool5 2 #[.nestMembers #[47, 59]] #[] 1537 66 #[] #[])
  fields := #[]
  methods := #[]
  instanceTypes := #[]
  staticTypes := #[]
  resolved := Array.replicate 131 none
  statics := none }

def pool6 : Array CpInfo := pool [(1, .class_ 2), (0, u "java/lang/constant/Constable"), (0, .class_ 4), (0, u "java/lang/Object")] 6

/-- java/lang/constant/Constable -/
def k6 : Class := { plain "java/lang/constant/Constable" (some 0) with
  accessFlags := 1537
  interfaces := #[]
  cf := some (fileOf pool6 1 #[] #[] 1537 3 #[] #[])
  fields := #[]
  methods := #[]
  instanceTypes := #[]
  staticTypes := #[]
  resolved := Array.replicate 11 none
  statics := none }

def pool7 : Array CpInfo := pool [(1, .class_ 2), (0, u "java/lang/constant/ConstantDesc"), (0, .class_ 4), (0, u "java/lang/Object")] 32

/-- java/lang/constant/ConstantDesc -/
def k7 : Class := { plain "java/lang/constant/ConstantDesc" (some 0) with
  accessFlags := 1537
  interfaces := #[]
  cf := some (fileOf pool7 1 #[] #[] 1537 3 #[] #[])
  fields := #[]
  methods := #[]
  instanceTypes := #[]
  staticTypes := #[]
  resolved := Array.replicate 37 none
  statics := none }

def pool8 : Array CpInfo := pool [(1, .methodref 2 3), (0, .class_ 4), (0, .nameAndType 5 6), (0, u "java/lang/Object"), (0, u "<init>"), (0, u "()V"), (0, .string 8), (0, u ""), (0, .fieldref 10 11), (0, .class_ 12), (0, .nameAndType 13 14), (0, u "java/lang/String"), (0, u "value"), (0, u "[B"), (0, .fieldref 10 16), (0, .nameAndType 17 18), (0, u "coder"), (0, u "B"), (0, .fieldref 10 20), (0, .nameAndType 21 22), (0, u "hash"), (0, u "I"), (0, .fieldref 10 24), (0, .nameAndType 25 26), (0, u "hashIsZero"), (0, u "Z"), (0, .methodref 10 28), (0, .nameAndType 5 29), (0, u "([CIILjava/lang/Void;)V"), (4, .methodref 10 35), (0, .nameAndType 36 37), (0, u "checkBoundsOffCount"), (0, u "(III)I"), (0, .fieldref 10 39), (0, .nameAndType 40 26), (0, u "COMPACT_STRINGS"), (1, .class_ 44), (1, u "java/lang/StringUTF16"), (0, u "compress"), (1, .methodref 42 48), (0, .nameAndType 49 50), (0, u "coderFromArrayLen"), (0, u "([BI)B"), (56, .class_ 109), (1, u "java/lang/StringLatin1"), (32, u "()Z"), (34, .methodref 42 178), (0, .nameAndType 45 179), (0, u "([CII)[B"), (154, u "()I"), (0, .methodref 10 336), (0, .nameAndType 17 337), (0, u "()B"), (25, u "([BI)C"), (27, u "(II)V"), (35, u "(I)C"), (64, .methodref 10 493), (0, .nameAndType 494 142), (0, u "isLatin1"), (0, .methodref 107 496), (0, .nameAndType 497 363), (0, u "charAt"), (3, u "checkIndex"), (3, .methodref 10 506), (0, .nameAndType 507 334), (0, u "length"), (5, u "checkFromToIndex"), (7, .methodref 10 522), (0, .nameAndType 523 524), (0, u "checkBoundsBeginEnd"), (0, u "(III)V"), (0, .methodref 107 526), (0, .nameAndType 527 528), (0, u "getChars"), (0, u "([BII[CI)V"), (12, .methodref 107 542), (0, .nameAndType 543 544), (0, u "equals"), (0, u "([B[B)Z"), (28, u "(Ljava/lang/Object;)Z"), (1, .class_ 576), (0, u "java/lang/CharSequence"), (22, u "CASE_INSENSITIVE_ORDER"), (0, u "Ljava/util/Comparator;"), (27, .methodref 107 629), (0, .nameAndType 630 631), (0, u "hashCode"), (0, u "([B)I"), (378, u "([C)V"), (42, .fieldref 1054 1055), (0, .class_ 1056), (0, .nameAndType 1057 1058), (0, u "jdk/internal/util/Preconditions"), (0, u "SIOOBE_FORMATTER"), (0, u "Ljava/util/function/BiFunction;"), (0, .methodref 1054 1060), (0, .nameAndType 501 1061), (0, u "(IILjava/util/function/BiFunction;)I"), (0, .methodref 1054 1063), (0, .nameAndType 513 1064), (0, u "(IIILjava/util/function/BiFunction;)I"), (0, .methodref 1054 1066), (0, .nameAndType 1067 1064), (0, u "checkFromIndexSize"), (33, u "serialPersistentFields"), (0, u "[Ljava/io/ObjectStreamField;"), (0, .class_ 1104), (0, u "java/lang/String$CaseInsensitiveComparator"), (1, .class_ 1107), (0, u "java/io/Serializable"), (0, .class_ 1109), (0, u "java/lang/Comparable"), (0, .class_ 1111), (0, u "java/lang/constant/Constable"), (0, .class_ 1113), (0, u "java/lang/constant/ConstantDesc"), (2, u "serialVersionUID"), (0, u "J"), (3, u "REPL"), (0, u "C"), (2, u "LATIN1"), (1, u "UTF16"), (112, u "(II[CI)V")] 210

def k8m0 : Method := { name := "<init>", desc := "()V", sig := { parameters := [], returnType := none }, accessFlags := 1, code := none }
def k8c1 : Code := { maxStack := 5, maxLocals := 2, code := jdk_42_method_3_code, exceptionTable := #[], attributes := #[] }
def k8m1 : Method := { name := "<init>", desc := "([C)V", sig := { parameters := [(.array .char)], returnType := none }, accessFlags := 1, code := some k8c1 }
def k8c2 : Code := { maxStack := 2, maxLocals := 1, code := jdk_42_method_54_code, exceptionTable := #[], attributes := #[] }
def k8m2 : Method := { name := "length", desc := "()I", sig := { parameters := [], returnType := some .int }, accessFlags := 1, code := some k8c2 }
def k8c3 : Code := { maxStack := 2, maxLocals := 2, code := jdk_42_method_56_code, exceptionTable := #[], attributes := #[] }
def k8m3 : Method := { name := "charAt", desc := "(I)C", sig := { parameters := [.int], returnType := some .char }, accessFlags := 1, code := some k8c3 }
def k8c4 : Code := { maxStack := 5, maxLocals := 5, code := jdk_42_method_61_code, exceptionTable := #[], attributes := #[] }
def k8m4 : Method := { name := "getChars", desc := "(II[CI)V", sig := { parameters := [.int, .int, (.array .char), .int], returnType := none }, accessFlags := 1, code := some k8c4 }
def k8c5 : Code := { maxStack := 2, maxLocals := 3, code := jdk_42_method_66_code, exceptionTable := #[], attributes := #[] }
def k8m5 : Method := { name := "equals", desc := "(Ljava/lang/Object;)Z", sig := { parameters := [(.object "java/lang/Object")], returnType := some .boolean }, accessFlags := 1, code := some k8c5 }
def k8c6 : Code := { maxStack := 2, maxLocals := 2, code := jdk_42_method_78_code, exceptionTable := #[], attributes := #[] }
def k8m6 : Method := { name := "hashCode", desc := "()I", sig := { parameters := [], returnType := some .int }, accessFlags := 1, code := some k8c6 }
def k8c7 : Code := { maxStack := 4, maxLocals := 6, code := jdk_42_method_149_code, exceptionTable := #[], attributes := #[] }
def k8m7 : Method := { name := "<init>", desc := "([CIILjava/lang/Void;)V", sig := { parameters := [(.array .char), .int, .int, (.object "java/lang/Void")], returnType := none }, accessFlags := 2, code := some k8c7 }
def k8c8 : Code := { maxStack := 1, maxLocals := 1, code := jdk_42_method_152_code, exceptionTable := #[], attributes := #[] }
def k8m8 : Method := { name := "coder", desc := "()B", sig := { parameters := [], returnType := some .byte }, accessFlags := 0, code := some k8c8 }
def k8c9 : Code := { maxStack := 1, maxLocals := 1, code := jdk_42_method_154_code, exceptionTable := #[], attributes := #[] }
def k8m9 : Method := { name := "isLatin1", desc := "()Z", sig := { parameters := [], returnType := some .boolean }, accessFlags := 0, code := some k8c9 }
def k8c10 : Code := { maxStack := 3, maxLocals := 2, code := jdk_42_method_155_code, exceptionTable := #[], attributes := #[] }
def k8m10 : Method := { name := "checkIndex", desc := "(II)V", sig := { parameters := [.int, .int], returnType := none }, accessFlags := 8, code := some k8c10 }
def k8c11 : Code := { maxStack := 4, maxLocals := 3, code := jdk_42_method_157_code, exceptionTable := #[], attributes := #[] }
def k8m11 : Method := { name := "checkBoundsOffCount", desc := "(III)I", sig := { parameters := [.int, .int, .int], returnType := some .int }, accessFlags := 8, code := some k8c11 }
def k8c12 : Code := { maxStack := 4, maxLocals := 3, code := jdk_42_method_158_code, exceptionTable := #[], attributes := #[] }
def k8m12 : Method := { name := "checkBoundsBeginEnd", desc := "(III)V", sig := { parameters := [.int, .int, .int], returnType := none }, accessFlags := 8, code := some k8c12 }
/-- java/lang/String -/
def k8 : Class := { plain "java/lang/String" (some 0) with
  accessFlags := 49
  interfaces := #[3, 4, 5, 6, 7]
  cf := some (fileOf pool8 10 #[.nestMembers #[1103]] #[{ accessFlags := 1, nameIndex := 5, descriptorIndex := 6, attributes := #[] }, { accessFlags := 1, nameIndex := 5, descriptorIndex := 1010, attributes := #[] }, { accessFlags := 1, nameIndex := 507, descriptorIndex := 334, attributes := #[] }, { accessFlags := 1, nameIndex := 497, descriptorIndex := 427, attributes := #[] }, { accessFlags := 1, nameIndex := 527, descriptorIndex := 1240, attributes := #[] }, { accessFlags := 1, nameIndex := 543, descriptorIndex := 573, attributes := #[] }, { accessFlags := 1, nameIndex := 630, descriptorIndex := 334, attributes := #[] }, { accessFlags := 2, nameIndex := 5, descriptorIndex := 29, attributes := #[] }, { accessFlags := 0, nameIndex := 17, descriptorIndex := 337, attributes := #[] }, { accessFlags := 0, nameIndex := 494, descriptorIndex := 142, attributes := #[] }, { accessFlags := 8, nameIndex := 501, descriptorIndex := 391, attributes := #[] }, { accessFlags := 8, nameIndex := 36, descriptorIndex := 37, attributes := #[] }, { accessFlags := 8, nameIndex := 523, descriptorIndex := 524, attributes := #[] }] 49 2 #[1106, 1108, 575, 1110, 1112] #[{ accessFlags := 18, nameIndex := 13, descriptorIndex := 14, attributes := #[] }, { accessFlags := 18, nameIndex := 17, descriptorIndex := 18, attributes := #[] }, { accessFlags := 2, nameIndex := 21, descriptorIndex := 22, attributes := #[] }, { accessFlags := 2, nameIndex := 25, descriptorIndex := 26, attributes := #[] }, { accessFlags := 26, nameIndex := 1116, descriptorIndex := 1117, attributes := #[] }, { accessFlags := 24, nameIndex := 40, descriptorIndex := 26, attributes := #[] }, { accessFlags := 26, nameIndex := 1101, descriptorIndex := 1102, attributes := #[] }, { accessFlags := 26, nameIndex := 1121, descriptorIndex := 1122, attributes := #[] }, { accessFlags := 25, nameIndex := 599, descriptorIndex := 600, attributes := #[] }, { accessFlags := 24, nameIndex := 1125, descriptorIndex := 18, attributes := #[] }, { accessFlags := 24, nameIndex := 1127, descriptorIndex := 18, attributes := #[] }])
  fields := #[{ name := "value", type := (.array .byte), accessFlags := 18, slot := 0, constantValue := 0 }, { name := "coder", type := .byte, accessFlags := 18, slot := 1, constantValue := 0 }, { name := "hash", type := .int, accessFlags := 2, slot := 2, constantValue := 0 }, { name := "hashIsZero", type := .boolean, accessFlags := 2, slot := 3, constantValue := 0 }, { name := "serialVersionUID", type := .long, accessFlags := 26, slot := 0, constantValue := 0 }, { name := "COMPACT_STRINGS", type := .boolean, accessFlags := 24, slot := 1, constantValue := 0 }, { name := "serialPersistentFields", type := (.array (.object "java/io/ObjectStreamField")), accessFlags := 26, slot := 2, constantValue := 0 }, { name := "REPL", type := .char, accessFlags := 26, slot := 3, constantValue := 0 }, { name := "CASE_INSENSITIVE_ORDER", type := (.object "java/util/Comparator"), accessFlags := 25, slot := 4, constantValue := 0 }, { name := "LATIN1", type := .byte, accessFlags := 24, slot := 5, constantValue := 0 }, { name := "UTF16", type := .byte, accessFlags := 24, slot := 6, constantValue := 0 }]
  methods := #[k8m0, k8m1, k8m2, k8m3, k8m4, k8m5, k8m6, k8m7, k8m8, k8m9, k8m10, k8m11, k8m12]
  instanceTypes := #[(.array .byte), .byte, .int, .boolean]
  staticTypes := #[.long, .boolean, (.array (.object "java/io/ObjectStreamField")), .char, (.object "java/util/Comparator"), .byte, .byte]
  resolved := Array.replicate 1451 none
  statics := some 0 }

def pool9 : Array CpInfo := pool [(1, .class_ 2), (0, u "java/lang/String"), (1, .class_ 6), (1, u "java/lang/Object"), (0, u "<init>"), (0, u "()V"), (0, .methodref 1 10), (0, .nameAndType 11 12), (0, u "checkIndex"), (0, u "(II)V"), (0, .methodref 14 15), (0, .class_ 16), (0, .nameAndType 17 18), (0, u "java/lang/StringLatin1"), (0, u "inflate"), (0, u "([BI[CII)V"), (26, .class_ 47), (1, u "jdk/internal/util/ArraysSupport"), (5, u "([BI)C"), (3, u "([B)I"), (26, .methodref 45 85), (0, .nameAndType 86 87), (0, u "vectorizedHashCode"), (0, u "(Ljava/lang/Object;IIII)I"), (33, u "$assertionsDisabled"), (0, u "Z"), (98, .class_ 223), (1, u "java/lang/StringLatin1$LinesSpliterator"), (28, u "charAt"), (21, u "getChars"), (0, u "([BII[CI)V"), (5, u "equals"), (0, u "([B[B)Z"), (15, u "hashCode"), (91, .class_ 391), (0, u "java/lang/StringLatin1$CharsSpliterator")] 3

def k9m0 : Method := { name := "<init>", desc := "()V", sig := { parameters := [], returnType := none }, accessFlags := 0, code := none }
def k9c1 : Code := { maxStack := 2, maxLocals := 2, code := jdk_43_method_2_code, exceptionTable := #[], attributes := #[] }
def k9m1 : Method := { name := "charAt", desc := "([BI)C", sig := { parameters := [(.array .byte), .int], returnType := some .char }, accessFlags := 9, code := some k9c1 }
def k9c2 : Code := { maxStack := 6, maxLocals := 5, code := jdk_43_method_11_code, exceptionTable := #[], attributes := #[] }
def k9m2 : Method := { name := "getChars", desc := "([BII[CI)V", sig := { parameters := [(.array .byte), .int, .int, (.array .char), .int], returnType := none }, accessFlags := 9, code := some k9c2 }
def k9c3 : Code := { maxStack := 3, maxLocals := 3, code := jdk_43_method_13_code, exceptionTable := #[], attributes := #[] }
def k9m3 : Method := { name := "equals", desc := "([B[B)Z", sig := { parameters := [(.array .byte), (.array .byte)], returnType := some .boolean }, accessFlags := 9, code := some k9c3 }
def k9c4 : Code := { maxStack := 5, maxLocals := 1, code := jdk_43_method_21_code, exceptionTable := #[], attributes := #[] }
def k9m4 : Method := { name := "hashCode", desc := "([B)I", sig := { parameters := [(.array .byte)], returnType := some .int }, accessFlags := 9, code := some k9c4 }
def k9c5 : Code := { maxStack := 4, maxLocals := 6, code := jdk_43_method_49_code, exceptionTable := #[], attributes := #[] }
def k9m5 : Method := { name := "inflate", desc := "([BI[CII)V", sig := { parameters := [(.array .byte), .int, (.array .char), .int, .int], returnType := none }, accessFlags := 9, code := some k9c5 }
/-- java/lang/StringLatin1 -/
def k9 : Class := { plain "java/lang/StringLatin1" (some 0) with
  accessFlags := 48
  interfaces := #[]
  cf := some (fileOf pool9 14 #[.nestMembers #[390, 221]] #[{ accessFlags := 0, nameIndex := 7, descriptorIndex := 8, attributes := #[] }, { accessFlags := 9, nameIndex := 252, descriptorIndex := 53, attributes := #[] }, { accessFlags := 9, nameIndex := 274, descriptorIndex := 275, attributes := #[] }, { accessFlags := 9, nameIndex := 281, descriptorIndex := 282, attributes := #[] }, { accessFlags := 9, nameIndex := 298, descriptorIndex := 57, attributes := #[] }, { accessFlags := 9, nameIndex := 17, descriptorIndex := 18, attributes := #[] }] 48 4 #[] #[{ accessFlags := 4120, nameIndex := 121, descriptorIndex := 122, attributes := #[] }])
  fields := #[{ name := "$assertionsDisabled", type := .boolean, accessFlags := 4120, slot := 0, constantValue := 0 }]
  methods := #[k9m0, k9m1, k9m2, k9m3, k9m4, k9m5]
  instanceTypes := #[]
  staticTypes := #[.boolean]
  resolved := Array.replicate 395 none
  statics := none }

def pool10 : Array CpInfo := pool [(2, .class_ 4), (1, u "java/lang/Object"), (0, u "<init>"), (0, u "()V"), (17, .class_ 26), (1, u "jdk/internal/util/Preconditions"), (6, u "checkIndex"), (13, u "checkFromToIndex"), (1, u "checkFromIndexSize"), (5, .class_ 56), (0, u "jdk/internal/util/Preconditions$4"), (57, .class_ 115), (0, u "jdk/internal/util/Preconditions$1"), (7, u "SIOOBE_FORMATTER"), (0, u "Ljava/util/function/BiFunction;"), (0, .class_ 126), (0, u "jdk/internal/util/Preconditions$2"), (3, u "AIOOBE_FORMATTER"), (0, .class_ 132), (0, u "jdk/internal/util/Preconditions$3"), (3, u "IOOBE_FORMATTER"), (41, u "(IILjava/util/function/BiFunction;)I"), (4, u "(IIILjava/util/function/BiFunction;)I")] 10

def k10m0 : Method := { name := "<init>", desc := "()V", sig := { parameters := [], returnType := none }, accessFlags := 1, code := none }
def k10c1 : Code := { maxStack := 3, maxLocals := 3, code := jdk_41_method_11_code, exceptionTable := #[], attributes := #[] }
def k10m1 : Method := { name := "checkIndex", desc := "(IILjava/util/function/BiFunction;)I", sig := { parameters := [.int, .int, (.object "java/util/function/BiFunction")], returnType := some .int }, accessFlags := 9, code := some k10c1 }
def k10c2 : Code := { maxStack := 4, maxLocals := 4, code := jdk_41_method_12_code, exceptionTable := #[], attributes := #[] }
def k10m2 : Method := { name := "checkFromToIndex", desc := "(IIILjava/util/function/BiFunction;)I", sig := { parameters := [.int, .int, .int, (.object "java/util/function/BiFunction")], returnType := some .int }, accessFlags := 9, code := some k10c2 }
def k10c3 : Code := { maxStack := 4, maxLocals := 4, code := jdk_41_method_13_code, exceptionTable := #[], attributes := #[] }
def k10m3 : Method := { name := "checkFromIndexSize", desc := "(IIILjava/util/function/BiFunction;)I", sig := { parameters := [.int, .int, .int, (.object "java/util/function/BiFunction")], returnType := some .int }, accessFlags := 9, code := some k10c3 }
/-- jdk/internal/util/Preconditions -/
def k10 : Class := { plain "jdk/internal/util/Preconditions" (some 0) with
  accessFlags := 33
  interfaces := #[]
  cf := some (fileOf pool10 24 #[.nestMembers #[55, 131, 125, 114]] #[{ accessFlags := 1, nameIndex := 5, descriptorIndex := 6, attributes := #[] }, { accessFlags := 9, nameIndex := 33, descriptorIndex := 178, attributes := #[] }, { accessFlags := 9, nameIndex := 47, descriptorIndex := 183, attributes := #[] }, { accessFlags := 9, nameIndex := 49, descriptorIndex := 183, attributes := #[] }] 33 2 #[] #[{ accessFlags := 25, nameIndex := 123, descriptorIndex := 124, attributes := #[] }, { accessFlags := 25, nameIndex := 130, descriptorIndex := 124, attributes := #[] }, { accessFlags := 25, nameIndex := 136, descriptorIndex := 124, attributes := #[] }])
  fields := #[{ name := "SIOOBE_FORMATTER", type := (.object "java/util/function/BiFunction"), accessFlags := 25, slot := 0, constantValue := 0 }, { name := "AIOOBE_FORMATTER", type := (.object "java/util/function/BiFunction"), accessFlags := 25, slot := 1, constantValue := 0 }, { name := "IOOBE_FORMATTER", type := (.object "java/util/function/BiFunction"), accessFlags := 25, slot := 2, constantValue := 0 }]
  methods := #[k10m0, k10m1, k10m2, k10m3]
  instanceTypes := #[]
  staticTypes := #[(.object "java/util/function/BiFunction"), (.object "java/util/function/BiFunction"), (.object "java/util/function/BiFunction")]
  resolved := Array.replicate 194 none
  statics := some 1 }

def pool11 : Array CpInfo := pool [(2, .class_ 4), (1, u "java/lang/Object"), (0, u "<init>"), (0, u "()V"), (7, .class_ 16), (1, u "java/util/Arrays"), (57, .class_ 76), (1, u "java/util/Arrays$NaturalOrder"), (36, .class_ 115), (1, u "java/util/Arrays$LegacyMergeSort"), (1, u "Z"), (257, .class_ 376), (0, u "java/util/Arrays$ArrayList"), (68, u "$assertionsDisabled"), (269, u "MIN_ARRAY_SORT_GRAN"), (0, u "I"), (2, u "INSERTIONSORT_THRESHOLD"), (120, u "fill"), (4, u "([II)V"), (129, .class_ 976), (0, u "java/util/Arrays$ArrayItr")] 52

def k11m0 : Method := { name := "<init>", desc := "()V", sig := { parameters := [], returnType := none }, accessFlags := 2, code := none }
def k11c1 : Code := { maxStack := 3, maxLocals := 4, code := jdk_65_method_103_code, exceptionTable := #[], attributes := #[] }
def k11m1 : Method := { name := "fill", desc := "([II)V", sig := { parameters := [(.array .int), .int], returnType := none }, accessFlags := 9, code := some k11c1 }
/-- java/util/Arrays -/
def k11 : Class := { plain "java/util/Arrays" (some 0) with
  accessFlags := 49
  interfaces := #[]
  cf := some (fileOf pool11 14 #[.nestMembers #[975, 375, 113, 74]] #[{ accessFlags := 2, nameIndex := 5, descriptorIndex := 6, attributes := #[] }, { accessFlags := 9, nameIndex := 840, descriptorIndex := 845, attributes := #[] }] 49 2 #[] #[{ accessFlags := 26, nameIndex := 715, descriptorIndex := 716, attributes := #[] }, { accessFlags := 26, nameIndex := 719, descriptorIndex := 716, attributes := #[] }, { accessFlags := 4120, nameIndex := 445, descriptorIndex := 117, attributes := #[] }])
  fields := #[{ name := "MIN_ARRAY_SORT_GRAN", type := .int, accessFlags := 26, slot := 0, constantValue := 0 }, { name := "INSERTIONSORT_THRESHOLD", type := .int, accessFlags := 26, slot := 1, constantValue := 0 }, { name := "$assertionsDisabled", type := .boolean, accessFlags := 4120, slot := 2, constantValue := 0 }]
  methods := #[k11m0, k11m1]
  instanceTypes := #[]
  staticTypes := #[.int, .int, .boolean]
  resolved := Array.replicate 1029 none
  statics := none }

def pool12 : Array CpInfo := pool [(2, .class_ 4), (1, u "java/lang/Object"), (0, u "<init>"), (0, u "()V"), (35, .class_ 44), (1, u "java/util/Objects"), (60, .methodref 106 107), (0, .class_ 108), (0, .nameAndType 109 110), (0, u "jdk/internal/util/Preconditions"), (0, u "checkIndex"), (0, u "(IILjava/util/function/BiFunction;)I"), (60, u "(II)I")] 12

def k12m0 : Method := { name := "<init>", desc := "()V", sig := { parameters := [], returnType := none }, accessFlags := 2, code := none }
def k12c1 : Code := { maxStack := 3, maxLocals := 2, code := jdk_31_method_17_code, exceptionTable := #[], attributes := #[] }
def k12m1 : Method := { name := "checkIndex", desc := "(II)I", sig := { parameters := [.int, .int], returnType := some .int }, accessFlags := 9, code := some k12c1 }
/-- java/util/Objects -/
def k12 : Class := { plain "java/util/Objects" (some 0) with
  accessFlags := 49
  interfaces := #[]
  cf := some (fileOf pool12 42 #[] #[{ accessFlags := 2, nameIndex := 5, descriptorIndex := 6, attributes := #[] }, { accessFlags := 9, nameIndex := 109, descriptorIndex := 171, attributes := #[] }] 49 2 #[] #[])
  fields := #[]
  methods := #[k12m0, k12m1]
  instanceTypes := #[]
  staticTypes := #[]
  resolved := Array.replicate 184 none
  statics := none }

def pool13 : Array CpInfo := pool [(6, .class_ 8), (1, u "java/lang/Object"), (0, u "<init>"), (0, u "()V"), (1, .class_ 14), (1, u "java/lang/StringUTF16"), (31, u "$assertionsDisabled"), (0, u "Z"), (13, u "HI_BYTE_SHIFT"), (0, u "I"), (2, u "LO_BYTE_SHIFT"), (49, .methodref 12 116), (0, .nameAndType 117 118), (0, u "compress"), (0, u "([CI[BII)I"), (3, u "([CII)[B"), (138, u "coderFromArrayLen"), (0, u "([BI)B"), (106, .class_ 371), (1, u "java/lang/StringUTF16$LinesSpliterator"), (58, u "MAX_LENGTH"), (196, .class_ 628), (0, u "java/lang/StringUTF16$CodePointsSpliterator"), (0, .class_ 630), (0, u "java/lang/StringUTF16$CharsSpliterator")] 4

def k13m0 : Method := { name := "<init>", desc := "()V", sig := { parameters := [], returnType := none }, accessFlags := 0, code := none }
def k13c1 : Code := { maxStack := 2, maxLocals := 2, code := jdk_52_method_15_code, exceptionTable := #[], attributes := #[] }
def k13m1 : Method := { name := "coderFromArrayLen", desc := "([BI)B", sig := { parameters := [(.array .byte), .int], returnType := some .byte }, accessFlags := 8, code := some k13c1 }
def k13c2 : Code := { maxStack := 5, maxLocals := 6, code := jdk_52_method_16_code, exceptionTable := #[], attributes := #[] }
def k13m2 : Method := { name := "compress", desc := "([CII)[B", sig := { parameters := [(.array .char), .int, .int], returnType := some (.array .byte) }, accessFlags := 9, code := some k13c2 }
def k13c3 : Code := { maxStack := 3, maxLocals := 7, code := jdk_52_method_21_code, exceptionTable := #[], attributes := #[] }
def k13m3 : Method := { name := "compress", desc := "([CI[BII)I", sig := { parameters := [(.array .char), .int, (.array .byte), .int, .int], returnType := some .int }, accessFlags := 9, code := some k13c3 }
/-- java/lang/StringUTF16 -/
def k13 : Class := { plain "java/lang/StringUTF16" (some 0) with
  accessFlags := 48
  interfaces := #[]
  cf := some (fileOf pool13 12 #[.nestMembers #[627, 629, 369]] #[{ accessFlags := 0, nameIndex := 9, descriptorIndex := 10, attributes := #[] }, { accessFlags := 8, nameIndex := 261, descriptorIndex := 262, attributes := #[] }, { accessFlags := 9, nameIndex := 117, descriptorIndex := 122, attributes := #[] }, { accessFlags := 9, nameIndex := 117, descriptorIndex := 118, attributes := #[] }] 48 6 #[] #[{ accessFlags := 26, nameIndex := 61, descriptorIndex := 62, attributes := #[] }, { accessFlags := 26, nameIndex := 65, descriptorIndex := 62, attributes := #[] }, { accessFlags := 24, nameIndex := 430, descriptorIndex := 62, attributes := #[] }, { accessFlags := 4120, nameIndex := 46, descriptorIndex := 47, attributes := #[] }])
  fields := #[{ name := "HI_BYTE_SHIFT", type := .int, accessFlags := 26, slot := 0, constantValue := 0 }, { name := "LO_BYTE_SHIFT", type := .int, accessFlags := 26, slot := 1, constantValue := 0 }, { name := "MAX_LENGTH", type := .int, accessFlags := 24, slot := 2, constantValue := 0 }, { name := "$assertionsDisabled", type := .boolean, accessFlags := 4120, slot := 3, constantValue := 0 }]
  methods := #[k13m0, k13m1, k13m2, k13m3]
  instanceTypes := #[]
  staticTypes := #[.int, .int, .int, .boolean]
  resolved := Array.replicate 635 none
  statics := none }

def pool14 : Array CpInfo := pool [(9, u "<init>"), (6, .class_ 18), (1, u "java/lang/Object"), (0, u "()V"), (1, .class_ 23), (1, u "jdk/internal/util/ArraysSupport"), (0, u "LOG2_ARRAY_LONG_INDEX_SCALE"), (0, u "I"), (2, u "U"), (0, u "Ljdk/internal/misc/Unsafe;"), (8, u "BIG_ENDIAN"), (0, u "Z"), (8, u "LOG2_BYTE_BIT_SIZE"), (4, u "LOG2_ARRAY_INT_INDEX_SCALE"), (6, .class_ 61), (0, u "[B"), (0, .methodref 21 63), (0, .nameAndType 64 65), (0, u "signedHashCode"), (0, u "(I[BII)I"), (42, u "JLA"), (0, u "Ljdk/internal/access/JavaLangAccess;"), (11, u "LOG2_ARRAY_BOOLEAN_INDEX_SCALE"), (9, u "LOG2_ARRAY_BYTE_INDEX_SCALE"), (5, u "LOG2_ARRAY_CHAR_INDEX_SCALE"), (5, u "LOG2_ARRAY_SHORT_INDEX_SCALE"), (18, u "LOG2_ARRAY_FLOAT_INDEX_SCALE"), (24, u "LOG2_ARRAY_DOUBLE_INDEX_SCALE"), (89, u "T_BOOLEAN"), (2, u "T_CHAR"), (1, u "T_FLOAT"), (1, u "T_DOUBLE"), (1, u "T_BYTE"), (1, u "T_SHORT"), (1, u "T_INT"), (1, u "T_LONG"), (1, u "SOFT_MAX_ARRAY_LENGTH"), (26, u "vectorizedHashCode"), (0, u "(Ljava/lang/Object;IIII)I")] 55

def k14m0 : Method := { name := "<init>", desc := "()V", sig := { parameters := [], returnType := none }, accessFlags := 2, code := none }
def k14c1 : Code := { maxStack := 4, maxLocals := 5, code := jdk_48_method_4_code, exceptionTable := #[], attributes := #[] }
def k14m1 : Method := { name := "vectorizedHashCode", desc := "(Ljava/lang/Object;IIII)I", sig := { parameters := [(.object "java/lang/Object"), .int, .int, .int, .int], returnType := some .int }, accessFlags := 9, code := some k14c1 }
def k14c2 : Code := { maxStack := 3, maxLocals := 6, code := jdk_48_method_5_code, exceptionTable := #[], attributes := #[] }
def k14m2 : Method := { name := "signedHashCode", desc := "(I[BII)I", sig := { parameters := [.int, (.array .byte), .int, .int], returnType := some .int }, accessFlags := 10, code := some k14c2 }
/-- jdk/internal/util/ArraysSupport -/
def k14 : Class := { plain "jdk/internal/util/ArraysSupport" (some 0) with
  accessFlags := 33
  interfaces := #[]
  cf := some (fileOf pool14 21 #[] #[{ accessFlags := 2, nameIndex := 9, descriptorIndex := 19, attributes := #[] }, { accessFlags := 9, nameIndex := 321, descriptorIndex := 322, attributes := #[] }, { accessFlags := 10, nameIndex := 64, descriptorIndex := 65, attributes := #[] }] 33 16 #[] #[{ accessFlags := 24, nameIndex := 28, descriptorIndex := 29, attributes := #[] }, { accessFlags := 26, nameIndex := 38, descriptorIndex := 39, attributes := #[] }, { accessFlags := 25, nameIndex := 121, descriptorIndex := 25, attributes := #[] }, { accessFlags := 25, nameIndex := 131, descriptorIndex := 25, attributes := #[] }, { accessFlags := 25, nameIndex := 137, descriptorIndex := 25, attributes := #[] }, { accessFlags := 25, nameIndex := 143, descriptorIndex := 25, attributes := #[] }, { accessFlags := 25, nameIndex := 53, descriptorIndex := 25, attributes := #[] }, { accessFlags := 25, nameIndex := 24, descriptorIndex := 25, attributes := #[] }, { accessFlags := 25, nameIndex := 162, descriptorIndex := 25, attributes := #[] }, { accessFlags := 25, nameIndex := 187, descriptorIndex := 25, attributes := #[] }, { accessFlags := 26, nameIndex := 48, descriptorIndex := 25, attributes := #[] }, { accessFlags := 25, nameIndex := 277, descriptorIndex := 25, attributes := #[] }, { accessFlags := 25, nameIndex := 280, descriptorIndex := 25, attributes := #[] }, { accessFlags := 25, nameIndex := 282, descriptorIndex := 25, attributes := #[] }, { accessFlags := 25, nameIndex := 284, descriptorIndex := 25, attributes := #[] }, { accessFlags := 25, nameIndex := 286, descriptorIndex := 25, attributes := #[] }, { accessFlags := 25, nameIndex := 288, descriptorIndex := 25, attributes := #[] }, { accessFlags := 25, nameIndex := 290, descriptorIndex := 25, attributes := #[] }, { accessFlags := 25, nameIndex := 292, descriptorIndex := 25, attributes := #[] }, { accessFlags := 26, nameIndex := 108, descriptorIndex := 109, attributes := #[] }, { accessFlags := 25, nameIndex := 294, descriptorIndex := 25, attributes := #[] }])
  fields := #[{ name := "U", type := (.object "jdk/internal/misc/Unsafe"), accessFlags := 24, slot := 0, constantValue := 0 }, { name := "BIG_ENDIAN", type := .boolean, accessFlags := 26, slot := 1, constantValue := 0 }, { name := "LOG2_ARRAY_BOOLEAN_INDEX_SCALE", type := .int, accessFlags := 25, slot := 2, constantValue := 0 }, { name := "LOG2_ARRAY_BYTE_INDEX_SCALE", type := .int, accessFlags := 25, slot := 3, constantValue := 0 }, { name := "LOG2_ARRAY_CHAR_INDEX_SCALE", type := .int, accessFlags := 25, slot := 4, constantValue := 0 }, { name := "LOG2_ARRAY_SHORT_INDEX_SCALE", type := .int, accessFlags := 25, slot := 5, constantValue := 0 }, { name := "LOG2_ARRAY_INT_INDEX_SCALE", type := .int, accessFlags := 25, slot := 6, constantValue := 0 }, { name := "LOG2_ARRAY_LONG_INDEX_SCALE", type := .int, accessFlags := 25, slot := 7, constantValue := 0 }, { name := "LOG2_ARRAY_FLOAT_INDEX_SCALE", type := .int, accessFlags := 25, slot := 8, constantValue := 0 }, { name := "LOG2_ARRAY_DOUBLE_INDEX_SCALE", type := .int, accessFlags := 25, slot := 9, constantValue := 0 }, { name := "LOG2_BYTE_BIT_SIZE", type := .int, accessFlags := 26, slot := 10, constantValue := 0 }, { name := "T_BOOLEAN", type := .int, accessFlags := 25, slot := 11, constantValue := 0 }, { name := "T_CHAR", type := .int, accessFlags := 25, slot := 12, constantValue := 0 }, { name := "T_FLOAT", type := .int, accessFlags := 25, slot := 13, constantValue := 0 }, { name := "T_DOUBLE", type := .int, accessFlags := 25, slot := 14, constantValue := 0 }, { name := "T_BYTE", type := .int, accessFlags := 25, slot := 15, constantValue := 0 }, { name := "T_SHORT", type := .int, accessFlags := 25, slot := 16, constantValue := 0 }, { name := "T_INT", type := .int, accessFlags := 25, slot := 17, constantValue := 0 }, { name := "T_LONG", type := .int, accessFlags := 25, slot := 18, constantValue := 0 }, { name := "JLA", type := (.object "jdk/internal/access/JavaLangAccess"), accessFlags := 26, slot := 19, constantValue := 0 }, { name := "SOFT_MAX_ARRAY_LENGTH", type := .int, accessFlags := 25, slot := 20, constantValue := 0 }]
  methods := #[k14m0, k14m1, k14m2]
  instanceTypes := #[]
  staticTypes := #[(.object "jdk/internal/misc/Unsafe"), .boolean, .int, .int, .int, .int, .int, .int, .int, .int, .int, .int, .int, .int, .int, .int, .int, .int, .int, (.object "jdk/internal/access/JavaLangAccess"), .int]
  resolved := Array.replicate 378 none
  statics := none }

def pool15 : Array CpInfo := pool [(1, u "java/lang/Cloneable"), (0, .class_ 1), (0, u "java/lang/Object"), (0, .class_ 3)] 3

/-- java/lang/Cloneable -/
def k15 : Class := { plain "java/lang/Cloneable" (some 0) with
  accessFlags := 1537
  interfaces := #[]
  cf := some (fileOf pool15 2 #[] #[] 1537 4 #[] #[])
  fields := #[]
  methods := #[]
  instanceTypes := #[]
  staticTypes := #[]
  resolved := Array.replicate 8 none
  statics := none }

/-- the primitive byte -/
def k16 : Class := { plain "byte" none with kind := .primitive 'B', accessFlags := 0x411 }
/-- [B -/
def k17 : Class := { plain "[B" (some 0) with kind := .array 16 .byte, interfaces := #[15, 3], accessFlags := 1041 }

/-- the primitive char -/
def k18 : Class := { plain "char" none with kind := .primitive 'C', accessFlags := 0x411 }
/-- [C -/
def k19 : Class := { plain "[C" (some 0) with kind := .array 18 .char, interfaces := #[15, 3], accessFlags := 1041 }

/-- the primitive int -/
def k20 : Class := { plain "int" none with kind := .primitive 'I', accessFlags := 0x411 }
/-- [I -/
def k21 : Class := { plain "[I" (some 0) with kind := .array 20 .int, interfaces := #[15, 3], accessFlags := 1041 }

def heap : Heap := #[{ cls := 8, slots := #[.long 0, .int 1, .null, .int 0, .null, .int 0, .int 0], vm := .statics 8 },
  { cls := 10, slots := #[.null, .null, .null], vm := .statics 10 }]
def classes : Array Class := #[k0, k1, k2, k3, k4, k5, k6, k7, k8, k9, k10, k11, k12, k13, k14, k15, k16, k17, k18, k19, k20, k21]
def interned : List (Array UInt16 × Addr) := []
def slotsUsed : Nat := 10
def theMethod : MethodId := ⟨1, 3⟩
def args0 : Array Value := #[.int 5, .int 6, .int 7, .int 3]
def aboutOver (below : List Frame) : State where
  vm := { classes := classes, interned := interned.toArray }
  heap := heap
  slotsUsed := slotsUsed
  threads := #[{ frames := .invoking theMethod args0 :: below }]
def below0 : List Frame := [.native { method := ⟨0, 0⟩, args := #[] }]
def about1 : State := aboutOver below0
def p0 : Program := .bare "" "" ""
def e0 : Env := launch0.env 0 0 0
theorem w_frames : about1.frames = Frame.invoking theMethod args0 :: below0 := rfl
set_option maxRecDepth 65536 in
theorem w_args : argsFit about1.vm theMethod args0 = true := by decide +kernel
set_option maxRecDepth 65536 in
theorem w_heap : heapFits about1 = true := by decide +kernel
set_option maxRecDepth 65536 in
theorem w_runnable : about1.curStatus? = some .runnable := by decide +kernel
set_option maxRecDepth 65536 in
theorem w_alone : about1.alone = true := by decide +kernel
set_option maxRecDepth 65536 in
theorem w_named : about1.methodNamed? x = some theMethod := by decide +kernel
set_option maxRecDepth 65536 in
theorem w_hears : about1.hears theMethod below0 = true := by decide +kernel
set_option maxRecDepth 65536 in
theorem w_ripe : about1.ripe theMethod args0 below0 = true := by decide +kernel
theorem w_running : about1.status = .running := rfl
set_option maxRecDepth 65536 in
theorem w_room : about1.hasRoom e0.platform room_1 = true :=
  launch0.hasRoom_least _ room_1 (by decide +kernel) (by decide +kernel) (by decide +kernel) (by decide +kernel) (by decide +kernel) (by decide +kernel)
theorem allAtoms_all (ts : List Jvm.Cond) (a : Array Jvm.Value) (st : Jvm.State) : (allAtoms ts).before a st = ts.all (fun c => c.before a st) := by
  induction ts with
  | nil => rfl
  | cons c t ih =>
    show (Jvm.Cond.and c (allAtoms t)).before a st = _
    rw [Jvm.Cond.before_and, ih, List.all_cons]
def words1 : List Jvm.Cond := Jvm.Cond.code x code maxLocals ret :: tables_1
/-- a 'code' word, met by the world's own term for the bytes: nothing is compared byte by byte -/
theorem code_word {y : MethodName} {bytes : ByteArray} {mx : Nat} {rt : Option FieldType} {a : Array Value} {s : State} {m : MethodId} {meth : Method} {c : Code} (h1 : s.methodNamed? y = some m) (h2 : s.vm.method? m = some meth) (h3 : meth.code = some c) (h4 : c.code = bytes)
    (h5 : (c.maxLocals == mx && c.exceptionTable.isEmpty && decide (c.maxStack ≤ mostOperands) && decide (meth.sig.returnType = rt) && !meth.locks && decide (parseMethodDescriptor y.desc = some meth.sig)) = true) : (Jvm.Cond.code y bytes mx rt).before a s = true := by
  simp only [Bool.and_eq_true, beq_iff_eq, Bool.not_eq_true', decide_eq_true_eq] at h5
  obtain ⟨⟨⟨⟨⟨g1, g2⟩, g3⟩, g4⟩, g5⟩, g6⟩ := h5
  simp [Cond.before, Cond.holds, Cond.value, h1, h2, h3, h4, g1, g2, g3, g4, g5, g6]
def isCode : Jvm.Cond → Bool
  | .code _ _ _ _ => true
  | _ => false
theorem all_split {L : List Jvm.Cond} {P : Jvm.Cond → Bool} (h1 : L.all (fun c => isCode c || P c) = true) (h2 : ∀ c ∈ L.filter isCode, P c = true) : L.all P = true := by
  refine List.all_eq_true.mpr fun c hc => ?_
  have h := List.all_eq_true.mp h1 c hc
  rcases Bool.eq_false_or_eq_true (isCode c) with hi | hi
  · exact h2 c (List.mem_filter.mpr ⟨hc, hi⟩)
  · simpa [hi] using h
set_option maxRecDepth 65536 in
theorem w_c0 : (Jvm.Cond.code x code maxLocals ret).before args0 about1 = true := code_word (m := ⟨1, 3⟩) (meth := k1m3) (c := k1c3) (by decide +kernel) rfl rfl rfl (by decide +kernel)
set_option maxRecDepth 65536 in
theorem w_c1 : (Jvm.Cond.code ({ cls := "com/example/holdback/holdback/util/StringIndex", name := "<init>", desc := "()V" } : Jvm.MethodName) prog_76_method_1_code (1 : Nat) (Option.none : Option Jvm.ClassFile.FieldType)).before args0 about1 = true := code_word (m := ⟨2, 0⟩) (meth := k2m0) (c := k2c0) (by decide +kernel) rfl rfl rfl (by decide +kernel)
set_option maxRecDepth 65536 in
theorem w_c2 : (Jvm.Cond.code ({ cls := "java/lang/Object", name := "<init>", desc := "()V" } : Jvm.MethodName) object_method_1_code (1 : Nat) (Option.none : Option Jvm.ClassFile.FieldType)).before args0 about1 = true := code_word (m := ⟨0, 0⟩) (meth := k0m0) (c := k0c0) (by decide +kernel) rfl rfl rfl (by decide +kernel)
set_option maxRecDepth 65536 in
theorem w_c3 : (Jvm.Cond.code ({ cls := "com/example/holdback/holdback/util/StringIndexClearPinLaw", name := "mk", desc := "(I)Ljava/lang/String;" } : Jvm.MethodName) method_2_code (4 : Nat) (Option.some (Jvm.ClassFile.FieldType.object "java/lang/String"))).before args0 about1 = true := code_word (m := ⟨1, 1⟩) (meth := k1m1) (c := k1c1) (by decide +kernel) rfl rfl rfl (by decide +kernel)
set_option maxRecDepth 65536 in
theorem w_c4 : (Jvm.Cond.code ({ cls := "java/lang/String", name := "<init>", desc := "([C)V" } : Jvm.MethodName) jdk_42_method_3_code (2 : Nat) (Option.none : Option Jvm.ClassFile.FieldType)).before args0 about1 = true := code_word (m := ⟨8, 1⟩) (meth := k8m1) (c := k8c1) (by decide +kernel) rfl rfl rfl (by decide +kernel)
set_option maxRecDepth 65536 in
theorem w_c5 : (Jvm.Cond.code ({ cls := "java/lang/String", name := "<init>", desc := "([CIILjava/lang/Void;)V" } : Jvm.MethodName) jdk_42_method_149_code (6 : Nat) (Option.none : Option Jvm.ClassFile.FieldType)).before args0 about1 = true := code_word (m := ⟨8, 7⟩) (meth := k8m7) (c := k8c7) (by decide +kernel) rfl rfl rfl (by decide +kernel)
set_option maxRecDepth 65536 in
theorem w_c6 : (Jvm.Cond.code ({ cls := "com/example/holdback/holdback/util/StringIndex", name := "add", desc := "(Ljava/lang/String;)I" } : Jvm.MethodName) prog_76_method_7_code (5 : Nat) (Option.some Jvm.ClassFile.FieldType.int)).before args0 about1 = true := code_word (m := ⟨2, 5⟩) (meth := k2m5) (c := k2c5) (by decide +kernel) rfl rfl rfl (by decide +kernel)
set_option maxRecDepth 65536 in
theorem w_c7 : (Jvm.Cond.code ({ cls := "java/lang/String", name := "hashCode", desc := "()I" } : Jvm.MethodName) jdk_42_method_78_code (2 : Nat) (Option.some Jvm.ClassFile.FieldType.int)).before args0 about1 = true := code_word (m := ⟨8, 6⟩) (meth := k8m6) (c := k8c6) (by decide +kernel) rfl rfl rfl (by decide +kernel)
set_option maxRecDepth 65536 in
theorem w_c8 : (Jvm.Cond.code ({ cls := "java/lang/String", name := "isLatin1", desc := "()Z" } : Jvm.MethodName) jdk_42_method_154_code (1 : Nat) (Option.some Jvm.ClassFile.FieldType.boolean)).before args0 about1 = true := code_word (m := ⟨8, 9⟩) (meth := k8m9) (c := k8c9) (by decide +kernel) rfl rfl rfl (by decide +kernel)
set_option maxRecDepth 65536 in
theorem w_c9 : (Jvm.Cond.code ({ cls := "java/lang/StringLatin1", name := "hashCode", desc := "([B)I" } : Jvm.MethodName) jdk_43_method_21_code (1 : Nat) (Option.some Jvm.ClassFile.FieldType.int)).before args0 about1 = true := code_word (m := ⟨9, 4⟩) (meth := k9m4) (c := k9c4) (by decide +kernel) rfl rfl rfl (by decide +kernel)
set_option maxRecDepth 65536 in
theorem w_c10 : (Jvm.Cond.code ({ cls := "com/example/holdback/holdback/util/StringIndex", name := "find", desc := "(Ljava/lang/String;I)I" } : Jvm.MethodName) prog_76_method_9_code (6 : Nat) (Option.some Jvm.ClassFile.FieldType.int)).before args0 about1 = true := code_word (m := ⟨2, 7⟩) (meth := k2m7) (c := k2c7) (by decide +kernel) rfl rfl rfl (by decide +kernel)
set_option maxRecDepth 65536 in
theorem w_c11 : (Jvm.Cond.code ({ cls := "com/example/holdback/holdback/util/StringIndex", name := "spread", desc := "(I)I" } : Jvm.MethodName) prog_76_method_13_code (2 : Nat) (Option.some Jvm.ClassFile.FieldType.int)).before args0 about1 = true := code_word (m := ⟨2, 10⟩) (meth := k2m10) (c := k2c10) (by decide +kernel) rfl rfl rfl (by decide +kernel)
set_option maxRecDepth 65536 in
theorem w_c12 : (Jvm.Cond.code ({ cls := "com/example/holdback/holdback/util/StringIndex", name := "append", desc := "(Ljava/lang/String;I)V" } : Jvm.MethodName) prog_76_method_11_code (3 : Nat) (Option.none : Option Jvm.ClassFile.FieldType)).before args0 about1 = true := code_word (m := ⟨2, 9⟩) (meth := k2m9) (c := k2c9) (by decide +kernel) rfl rfl rfl (by decide +kernel)
set_option maxRecDepth 65536 in
theorem w_c13 : (Jvm.Cond.code ({ cls := "java/lang/String", name := "length", desc := "()I" } : Jvm.MethodName) jdk_42_method_54_code (1 : Nat) (Option.some Jvm.ClassFile.FieldType.int)).before args0 about1 = true := code_word (m := ⟨8, 2⟩) (meth := k8m2) (c := k8c2) (by decide +kernel) rfl rfl rfl (by decide +kernel)
set_option maxRecDepth 65536 in
theorem w_c14 : (Jvm.Cond.code ({ cls := "java/lang/String", name := "coder", desc := "()B" } : Jvm.MethodName) jdk_42_method_152_code (1 : Nat) (Option.some Jvm.ClassFile.FieldType.byte)).before args0 about1 = true := code_word (m := ⟨8, 8⟩) (meth := k8m8) (c := k8c8) (by decide +kernel) rfl rfl rfl (by decide +kernel)
set_option maxRecDepth 65536 in
theorem w_c15 : (Jvm.Cond.code ({ cls := "java/lang/String", name := "getChars", desc := "(II[CI)V" } : Jvm.MethodName) jdk_42_method_61_code (5 : Nat) (Option.none : Option Jvm.ClassFile.FieldType)).before args0 about1 = true := code_word (m := ⟨8, 4⟩) (meth := k8m4) (c := k8c4) (by decide +kernel) rfl rfl rfl (by decide +kernel)
set_option maxRecDepth 65536 in
theorem w_c16 : (Jvm.Cond.code ({ cls := "java/lang/String", name := "checkBoundsBeginEnd", desc := "(III)V" } : Jvm.MethodName) jdk_42_method_158_code (3 : Nat) (Option.none : Option Jvm.ClassFile.FieldType)).before args0 about1 = true := code_word (m := ⟨8, 12⟩) (meth := k8m12) (c := k8c12) (by decide +kernel) rfl rfl rfl (by decide +kernel)
set_option maxRecDepth 65536 in
theorem w_c17 : (Jvm.Cond.code ({ cls := "jdk/internal/util/Preconditions", name := "checkFromToIndex", desc := "(IIILjava/util/function/BiFunction;)I" } : Jvm.MethodName) jdk_41_method_12_code (4 : Nat) (Option.some Jvm.ClassFile.FieldType.int)).before args0 about1 = true := code_word (m := ⟨10, 2⟩) (meth := k10m2) (c := k10c2) (by decide +kernel) rfl rfl rfl (by decide +kernel)
set_option maxRecDepth 65536 in
theorem w_c18 : (Jvm.Cond.code ({ cls := "java/lang/String", name := "checkBoundsOffCount", desc := "(III)I" } : Jvm.MethodName) jdk_42_method_157_code (3 : Nat) (Option.some Jvm.ClassFile.FieldType.int)).before args0 about1 = true := code_word (m := ⟨8, 11⟩) (meth := k8m11) (c := k8c11) (by decide +kernel) rfl rfl rfl (by decide +kernel)
set_option maxRecDepth 65536 in
theorem w_c19 : (Jvm.Cond.code ({ cls := "jdk/internal/util/Preconditions", name := "checkFromIndexSize", desc := "(IIILjava/util/function/BiFunction;)I" } : Jvm.MethodName) jdk_41_method_13_code (4 : Nat) (Option.some Jvm.ClassFile.FieldType.int)).before args0 about1 = true := code_word (m := ⟨10, 3⟩) (meth := k10m3) (c := k10c3) (by decide +kernel) rfl rfl rfl (by decide +kernel)
set_option maxRecDepth 65536 in
theorem w_c20 : (Jvm.Cond.code ({ cls := "java/lang/StringLatin1", name := "getChars", desc := "([BII[CI)V" } : Jvm.MethodName) jdk_43_method_11_code (5 : Nat) (Option.none : Option Jvm.ClassFile.FieldType)).before args0 about1 = true := code_word (m := ⟨9, 2⟩) (meth := k9m2) (c := k9c2) (by decide +kernel) rfl rfl rfl (by decide +kernel)
set_option maxRecDepth 65536 in
theorem w_c21 : (Jvm.Cond.code ({ cls := "java/lang/StringLatin1", name := "inflate", desc := "([BI[CII)V" } : Jvm.MethodName) jdk_43_method_49_code (6 : Nat) (Option.none : Option Jvm.ClassFile.FieldType)).before args0 about1 = true := code_word (m := ⟨9, 5⟩) (meth := k9m5) (c := k9c5) (by decide +kernel) rfl rfl rfl (by decide +kernel)
set_option maxRecDepth 65536 in
theorem w_c22 : (Jvm.Cond.code ({ cls := "com/example/holdback/holdback/util/StringIndex", name := "clear", desc := "()V" } : Jvm.MethodName) prog_76_method_8_code (1 : Nat) (Option.none : Option Jvm.ClassFile.FieldType)).before args0 about1 = true := code_word (m := ⟨2, 6⟩) (meth := k2m6) (c := k2c6) (by decide +kernel) rfl rfl rfl (by decide +kernel)
set_option maxRecDepth 65536 in
theorem w_c23 : (Jvm.Cond.code ({ cls := "java/util/Arrays", name := "fill", desc := "([II)V" } : Jvm.MethodName) jdk_65_method_103_code (4 : Nat) (Option.none : Option Jvm.ClassFile.FieldType)).before args0 about1 = true := code_word (m := ⟨11, 1⟩) (meth := k11m1) (c := k11c1) (by decide +kernel) rfl rfl rfl (by decide +kernel)
set_option maxRecDepth 65536 in
theorem w_c24 : (Jvm.Cond.code ({ cls := "com/example/holdback/holdback/util/StringIndex", name := "size", desc := "()I" } : Jvm.MethodName) prog_76_method_2_code (1 : Nat) (Option.some Jvm.ClassFile.FieldType.int)).before args0 about1 = true := code_word (m := ⟨2, 1⟩) (meth := k2m1) (c := k2c1) (by decide +kernel) rfl rfl rfl (by decide +kernel)
set_option maxRecDepth 65536 in
theorem w_c25 : (Jvm.Cond.code ({ cls := "com/example/holdback/holdback/util/StringIndex", name := "indexOf", desc := "(Ljava/lang/String;)I" } : Jvm.MethodName) prog_76_method_6_code (4 : Nat) (Option.some Jvm.ClassFile.FieldType.int)).before args0 about1 = true := code_word (m := ⟨2, 4⟩) (meth := k2m4) (c := k2c4) (by decide +kernel) rfl rfl rfl (by decide +kernel)
set_option maxRecDepth 65536 in
theorem w_c26 : (Jvm.Cond.code ({ cls := "com/example/holdback/holdback/util/StringIndex", name := "length", desc := "(I)I" } : Jvm.MethodName) prog_76_method_3_code (2 : Nat) (Option.some Jvm.ClassFile.FieldType.int)).before args0 about1 = true := code_word (m := ⟨2, 2⟩) (meth := k2m2) (c := k2c2) (by decide +kernel) rfl rfl rfl (by decide +kernel)
set_option maxRecDepth 65536 in
theorem w_c27 : (Jvm.Cond.code ({ cls := "java/util/Objects", name := "checkIndex", desc := "(II)I" } : Jvm.MethodName) jdk_31_method_17_code (2 : Nat) (Option.some Jvm.ClassFile.FieldType.int)).before args0 about1 = true := code_word (m := ⟨12, 1⟩) (meth := k12m1) (c := k12c1) (by decide +kernel) rfl rfl rfl (by decide +kernel)
set_option maxRecDepth 65536 in
theorem w_c28 : (Jvm.Cond.code ({ cls := "jdk/internal/util/Preconditions", name := "checkIndex", desc := "(IILjava/util/function/BiFunction;)I" } : Jvm.MethodName) jdk_41_method_11_code (3 : Nat) (Option.some Jvm.ClassFile.FieldType.int)).before args0 about1 = true := code_word (m := ⟨10, 1⟩) (meth := k10m1) (c := k10c1) (by decide +kernel) rfl rfl rfl (by decide +kernel)
set_option maxRecDepth 65536 in
theorem w_c29 : (Jvm.Cond.code ({ cls := "com/example/holdback/holdback/util/StringIndex", name := "hash", desc := "(I)I" } : Jvm.MethodName) prog_76_method_4_code (2 : Nat) (Option.some Jvm.ClassFile.FieldType.int)).before args0 about1 = true := code_word (m := ⟨2, 3⟩) (meth := k2m3) (c := k2c3) (by decide +kernel) rfl rfl rfl (by decide +kernel)
set_option maxRecDepth 65536 in
theorem w_c30 : (Jvm.Cond.code ({ cls := "com/example/holdback/holdback/util/StringIndexClearPinLaw", name := "hashRef", desc := "(I)I" } : Jvm.MethodName) method_3_code (4 : Nat) (Option.some Jvm.ClassFile.FieldType.int)).before args0 about1 = true := code_word (m := ⟨1, 2⟩) (meth := k1m2) (c := k1c2) (by decide +kernel) rfl rfl rfl (by decide +kernel)
set_option maxRecDepth 65536 in
theorem w_c31 : (Jvm.Cond.code ({ cls := "com/example/holdback/holdback/util/StringIndex", name := "equalsAt", desc := "(ILjava/lang/String;)Z" } : Jvm.MethodName) prog_76_method_10_code (5 : Nat) (Option.some Jvm.ClassFile.FieldType.boolean)).before args0 about1 = true := code_word (m := ⟨2, 8⟩) (meth := k2m8) (c := k2c8) (by decide +kernel) rfl rfl rfl (by decide +kernel)
set_option maxRecDepth 65536 in
theorem w_c32 : (Jvm.Cond.code ({ cls := "java/lang/String", name := "equals", desc := "(Ljava/lang/Object;)Z" } : Jvm.MethodName) jdk_42_method_66_code (3 : Nat) (Option.some Jvm.ClassFile.FieldType.boolean)).before args0 about1 = true := code_word (m := ⟨8, 5⟩) (meth := k8m5) (c := k8c5) (by decide +kernel) rfl rfl rfl (by decide +kernel)
set_option maxRecDepth 65536 in
theorem w_c33 : (Jvm.Cond.code ({ cls := "java/lang/StringLatin1", name := "equals", desc := "([B[B)Z" } : Jvm.MethodName) jdk_43_method_13_code (3 : Nat) (Option.some Jvm.ClassFile.FieldType.boolean)).before args0 about1 = true := code_word (m := ⟨9, 3⟩) (meth := k9m3) (c := k9c3) (by decide +kernel) rfl rfl rfl (by decide +kernel)
set_option maxRecDepth 65536 in
theorem w_c34 : (Jvm.Cond.code ({ cls := "java/lang/StringUTF16", name := "compress", desc := "([CII)[B" } : Jvm.MethodName) jdk_52_method_16_code (6 : Nat) (Option.some (Jvm.ClassFile.FieldType.array Jvm.ClassFile.FieldType.byte))).before args0 about1 = true := code_word (m := ⟨13, 2⟩) (meth := k13m2) (c := k13c2) (by decide +kernel) rfl rfl rfl (by decide +kernel)
set_option maxRecDepth 65536 in
theorem w_c35 : (Jvm.Cond.code ({ cls := "java/lang/StringUTF16", name := "compress", desc := "([CI[BII)I" } : Jvm.MethodName) jdk_52_method_21_code (7 : Nat) (Option.some Jvm.ClassFile.FieldType.int)).before args0 about1 = true := code_word (m := ⟨13, 3⟩) (meth := k13m3) (c := k13c3) (by decide +kernel) rfl rfl rfl (by decide +kernel)
set_option maxRecDepth 65536 in
theorem w_c36 : (Jvm.Cond.code ({ cls := "java/lang/StringUTF16", name := "coderFromArrayLen", desc := "([BI)B" } : Jvm.MethodName) jdk_52_method_15_code (2 : Nat) (Option.some Jvm.ClassFile.FieldType.byte)).before args0 about1 = true := code_word (m := ⟨13, 1⟩) (meth := k13m1) (c := k13c1) (by decide +kernel) rfl rfl rfl (by decide +kernel)
set_option maxRecDepth 65536 in
theorem w_c37 : (Jvm.Cond.code ({ cls := "java/lang/String", name := "charAt", desc := "(I)C" } : Jvm.MethodName) jdk_42_method_56_code (2 : Nat) (Option.some Jvm.ClassFile.FieldType.char)).before args0 about1 = true := code_word (m := ⟨8, 3⟩) (meth := k8m3) (c := k8c3) (by decide +kernel) rfl rfl rfl (by decide +kernel)
set_option maxRecDepth 65536 in
theorem w_c38 : (Jvm.Cond.code ({ cls := "java/lang/StringLatin1", name := "charAt", desc := "([BI)C" } : Jvm.MethodName) jdk_43_method_2_code (2 : Nat) (Option.some Jvm.ClassFile.FieldType.char)).before args0 about1 = true := code_word (m := ⟨9, 1⟩) (meth := k9m1) (c := k9c1) (by decide +kernel) rfl rfl rfl (by decide +kernel)
set_option maxRecDepth 65536 in
theorem w_c39 : (Jvm.Cond.code ({ cls := "java/lang/String", name := "checkIndex", desc := "(II)V" } : Jvm.MethodName) jdk_42_method_155_code (2 : Nat) (Option.none : Option Jvm.ClassFile.FieldType)).before args0 about1 = true := code_word (m := ⟨8, 10⟩) (meth := k8m10) (c := k8c10) (by decide +kernel) rfl rfl rfl (by decide +kernel)
set_option maxRecDepth 65536 in
theorem w_c40 : (Jvm.Cond.code ({ cls := "jdk/internal/util/ArraysSupport", name := "vectorizedHashCode", desc := "(Ljava/lang/Object;IIII)I" } : Jvm.MethodName) jdk_48_method_4_code (5 : Nat) (Option.some Jvm.ClassFile.FieldType.int)).before args0 about1 = true := code_word (m := ⟨14, 1⟩) (meth := k14m1) (c := k14c1) (by decide +kernel) rfl rfl rfl (by decide +kernel)
set_option maxRecDepth 65536 in
theorem w_c41 : (Jvm.Cond.code ({ cls := "jdk/internal/util/ArraysSupport", name := "signedHashCode", desc := "(I[BII)I" } : Jvm.MethodName) jdk_48_method_5_code (6 : Nat) (Option.some Jvm.ClassFile.FieldType.int)).before args0 about1 = true := code_word (m := ⟨14, 2⟩) (meth := k14m2) (c := k14c2) (by decide +kernel) rfl rfl rfl (by decide +kernel)
def codes1 : List Jvm.Cond := [Jvm.Cond.code x code maxLocals ret, Jvm.Cond.code ({ cls := "com/example/holdback/holdback/util/StringIndex", name := "<init>", desc := "()V" } : Jvm.MethodName) prog_76_method_1_code (1 : Nat) (Option.none : Option Jvm.ClassFile.FieldType), Jvm.Cond.code ({ cls := "java/lang/Object", name := "<init>", desc := "()V" } : Jvm.MethodName) object_method_1_code (1 : Nat) (Option.none : Option Jvm.ClassFile.FieldType), Jvm.Cond.code ({ cls := "com/example/holdback/holdback/util/StringIndexClearPinLaw", name := "mk", desc := "(I)Ljava/lang/String;" } : Jvm.MethodName) method_2_code (4 : Nat) (Option.some (Jvm.ClassFile.FieldType.object "java/lang/String")), Jvm.Cond.code ({ cls := "java/lang/String", name := "<init>", desc := "([C)V" } : Jvm.MethodName) jdk_42_method_3_code (2 : Nat) (Option.none : Option Jvm.ClassFile.FieldType), Jvm.Cond.code ({ cls := "java/lang/String", name := "<init>", desc := "([CIILjava/lang/Void;)V" } : Jvm.MethodName) jdk_42_method_149_code (6 : Nat) (Option.none : Option Jvm.ClassFile.FieldType), Jvm.Cond.code ({ cls := "com/example/holdback/holdback/util/StringIndex", name := "add", desc := "(Ljava/lang/String;)I" } : Jvm.MethodName) prog_76_method_7_code (5 : Nat) (Option.some Jvm.ClassFile.FieldType.int), Jvm.Cond.code ({ cls := "java/lang/String", name := "hashCode", desc := "()I" } : Jvm.MethodName) jdk_42_method_78_code (2 : Nat) (Option.some Jvm.ClassFile.FieldType.int), Jvm.Cond.code ({ cls := "java/lang/String", name := "isLatin1", desc := "()Z" } : Jvm.MethodName) jdk_42_method_154_code (1 : Nat) (Option.some Jvm.ClassFile.FieldType.boolean), Jvm.Cond.code ({ cls := "java/lang/StringLatin1", name := "hashCode", desc := "([B)I" } : Jvm.MethodName) jdk_43_method_21_code (1 : Nat) (Option.some Jvm.ClassFile.FieldType.int), Jvm.Cond.code ({ cls := "com/example/holdback/holdback/util/StringIndex", name := "find", desc := "(Ljava/lang/String;I)I" } : Jvm.MethodName) prog_76_method_9_code (6 : Nat) (Option.some Jvm.ClassFile.FieldType.int), Jvm.Cond.code ({ cls := "com/example/holdback/holdback/util/StringIndex", name := "spread", desc := "(I)I" } : Jvm.MethodName) prog_76_method_13_code (2 : Nat) (Option.some Jvm.ClassFile.FieldType.int), Jvm.Cond.code ({ cls := "com/example/holdback/holdback/util/StringIndex", name := "append", desc := "(Ljava/lang/String;I)V" } : Jvm.MethodName) prog_76_method_11_code (3 : Nat) (Option.none : Option Jvm.ClassFile.FieldType), Jvm.Cond.code ({ cls := "java/lang/String", name := "length", desc := "()I" } : Jvm.MethodName) jdk_42_method_54_code (1 : Nat) (Option.some Jvm.ClassFile.FieldType.int), Jvm.Cond.code ({ cls := "java/lang/String", name := "coder", desc := "()B" } : Jvm.MethodName) jdk_42_method_152_code (1 : Nat) (Option.some Jvm.ClassFile.FieldType.byte), Jvm.Cond.code ({ cls := "java/lang/String", name := "getChars", desc := "(II[CI)V" } : Jvm.MethodName) jdk_42_method_61_code (5 : Nat) (Option.none : Option Jvm.ClassFile.FieldType), Jvm.Cond.code ({ cls := "java/lang/String", name := "checkBoundsBeginEnd", desc := "(III)V" } : Jvm.MethodName) jdk_42_method_158_code (3 : Nat) (Option.none : Option Jvm.ClassFile.FieldType), Jvm.Cond.code ({ cls := "jdk/internal/util/Preconditions", name := "checkFromToIndex", desc := "(IIILjava/util/function/BiFunction;)I" } : Jvm.MethodName) jdk_41_method_12_code (4 : Nat) (Option.some Jvm.ClassFile.FieldType.int), Jvm.Cond.code ({ cls := "java/lang/String", name := "checkBoundsOffCount", desc := "(III)I" } : Jvm.MethodName) jdk_42_method_157_code (3 : Nat) (Option.some Jvm.ClassFile.FieldType.int), Jvm.Cond.code ({ cls := "jdk/internal/util/Preconditions", name := "checkFromIndexSize", desc := "(IIILjava/util/function/BiFunction;)I" } : Jvm.MethodName) jdk_41_method_13_code (4 : Nat) (Option.some Jvm.ClassFile.FieldType.int), Jvm.Cond.code ({ cls := "java/lang/StringLatin1", name := "getChars", desc := "([BII[CI)V" } : Jvm.MethodName) jdk_43_method_11_code (5 : Nat) (Option.none : Option Jvm.ClassFile.FieldType), Jvm.Cond.code ({ cls := "java/lang/StringLatin1", name := "inflate", desc := "([BI[CII)V" } : Jvm.MethodName) jdk_43_method_49_code (6 : Nat) (Option.none : Option Jvm.ClassFile.FieldType), Jvm.Cond.code ({ cls := "com/example/holdback/holdback/util/StringIndex", name := "clear", desc := "()V" } : Jvm.MethodName) prog_76_method_8_code (1 : Nat) (Option.none : Option Jvm.ClassFile.FieldType), Jvm.Cond.code ({ cls := "java/util/Arrays", name := "fill", desc := "([II)V" } : Jvm.MethodName) jdk_65_method_103_code (4 : Nat) (Option.none : Option Jvm.ClassFile.FieldType), Jvm.Cond.code ({ cls := "com/example/holdback/holdback/util/StringIndex", name := "size", desc := "()I" } : Jvm.MethodName) prog_76_method_2_code (1 : Nat) (Option.some Jvm.ClassFile.FieldType.int), Jvm.Cond.code ({ cls := "com/example/holdback/holdback/util/StringIndex", name := "indexOf", desc := "(Ljava/lang/String;)I" } : Jvm.MethodName) prog_76_method_6_code (4 : Nat) (Option.some Jvm.ClassFile.FieldType.int), Jvm.Cond.code ({ cls := "com/example/holdback/holdback/util/StringIndex", name := "length", desc := "(I)I" } : Jvm.MethodName) prog_76_method_3_code (2 : Nat) (Option.some Jvm.ClassFile.FieldType.int), Jvm.Cond.code ({ cls := "java/util/Objects", name := "checkIndex", desc := "(II)I" } : Jvm.MethodName) jdk_31_method_17_code (2 : Nat) (Option.some Jvm.ClassFile.FieldType.int), Jvm.Cond.code ({ cls := "jdk/internal/util/Preconditions", name := "checkIndex", desc := "(IILjava/util/function/BiFunction;)I" } : Jvm.MethodName) jdk_41_method_11_code (3 : Nat) (Option.some Jvm.ClassFile.FieldType.int), Jvm.Cond.code ({ cls := "com/example/holdback/holdback/util/StringIndex", name := "hash", desc := "(I)I" } : Jvm.MethodName) prog_76_method_4_code (2 : Nat) (Option.some Jvm.ClassFile.FieldType.int), Jvm.Cond.code ({ cls := "com/example/holdback/holdback/util/StringIndexClearPinLaw", name := "hashRef", desc := "(I)I" } : Jvm.MethodName) method_3_code (4 : Nat) (Option.some Jvm.ClassFile.FieldType.int), Jvm.Cond.code ({ cls := "com/example/holdback/holdback/util/StringIndex", name := "equalsAt", desc := "(ILjava/lang/String;)Z" } : Jvm.MethodName) prog_76_method_10_code (5 : Nat) (Option.some Jvm.ClassFile.FieldType.boolean), Jvm.Cond.code ({ cls := "java/lang/String", name := "equals", desc := "(Ljava/lang/Object;)Z" } : Jvm.MethodName) jdk_42_method_66_code (3 : Nat) (Option.some Jvm.ClassFile.FieldType.boolean), Jvm.Cond.code ({ cls := "java/lang/StringLatin1", name := "equals", desc := "([B[B)Z" } : Jvm.MethodName) jdk_43_method_13_code (3 : Nat) (Option.some Jvm.ClassFile.FieldType.boolean), Jvm.Cond.code ({ cls := "java/lang/StringUTF16", name := "compress", desc := "([CII)[B" } : Jvm.MethodName) jdk_52_method_16_code (6 : Nat) (Option.some (Jvm.ClassFile.FieldType.array Jvm.ClassFile.FieldType.byte)), Jvm.Cond.code ({ cls := "java/lang/StringUTF16", name := "compress", desc := "([CI[BII)I" } : Jvm.MethodName) jdk_52_method_21_code (7 : Nat) (Option.some Jvm.ClassFile.FieldType.int), Jvm.Cond.code ({ cls := "java/lang/StringUTF16", name := "coderFromArrayLen", desc := "([BI)B" } : Jvm.MethodName) jdk_52_method_15_code (2 : Nat) (Option.some Jvm.ClassFile.FieldType.byte), Jvm.Cond.code ({ cls := "java/lang/String", name := "charAt", desc := "(I)C" } : Jvm.MethodName) jdk_42_method_56_code (2 : Nat) (Option.some Jvm.ClassFile.FieldType.char), Jvm.Cond.code ({ cls := "java/lang/StringLatin1", name := "charAt", desc := "([BI)C" } : Jvm.MethodName) jdk_43_method_2_code (2 : Nat) (Option.some Jvm.ClassFile.FieldType.char), Jvm.Cond.code ({ cls := "java/lang/String", name := "checkIndex", desc := "(II)V" } : Jvm.MethodName) jdk_42_method_155_code (2 : Nat) (Option.none : Option Jvm.ClassFile.FieldType), Jvm.Cond.code ({ cls := "jdk/internal/util/ArraysSupport", name := "vectorizedHashCode", desc := "(Ljava/lang/Object;IIII)I" } : Jvm.MethodName) jdk_48_method_4_code (5 : Nat) (Option.some Jvm.ClassFile.FieldType.int), Jvm.Cond.code ({ cls := "jdk/internal/util/ArraysSupport", name := "signedHashCode", desc := "(I[BII)I" } : Jvm.MethodName) jdk_48_method_5_code (6 : Nat) (Option.some Jvm.ClassFile.FieldType.int)]
set_option maxRecDepth 65536 in
theorem codes_eq : words1.filter isCode = codes1 := rfl
theorem w_codes : ∀ c ∈ words1.filter isCode, c.before args0 about1 = true := by
  rw [codes_eq]
  intro c hc
  simp only [codes1, List.mem_cons, List.not_mem_nil, or_false] at hc
  rcases hc with rfl | rfl | rfl | rfl | rfl | rfl | rfl | rfl | rfl | rfl | rfl | rfl | rfl | rfl | rfl | rfl | rfl | rfl | rfl | rfl | rfl | rfl | rfl | rfl | rfl | rfl | rfl | rfl | rfl | rfl | rfl | rfl | rfl | rfl | rfl | rfl | rfl | rfl | rfl | rfl | rfl | rfl
  · exact w_c0
  · exact w_c1
  · exact w_c2
  · exact w_c3
  · exact w_c4
  · exact w_c5
  · exact w_c6
  · exact w_c7
  · exact w_c8
  · exact w_c9
  · exact w_c10
  · exact w_c11
  · exact w_c12
  · exact w_c13
  · exact w_c14
  · exact w_c15
  · exact w_c16
  · exact w_c17
  · exact w_c18
  · exact w_c19
  · exact w_c20
  · exact w_c21
  · exact w_c22
  · exact w_c23
  · exact w_c24
  · exact w_c25
  · exact w_c26
  · exact w_c27
  · exact w_c28
  · exact w_c29
  · exact w_c30
  · exact w_c31
  · exact w_c32
  · exact w_c33
  · exact w_c34
  · exact w_c35
  · exact w_c36
  · exact w_c37
  · exact w_c38
  · exact w_c39
  · exact w_c40
  · exact w_c41
set_option maxRecDepth 65536 in
theorem w_t1 : (words1.take 24).all (fun c => isCode c || c.before args0 about1) = true := by decide +kernel
set_option maxRecDepth 65536 in
theorem w_t2 : ((words1.drop 24).take 24).all (fun c => isCode c || c.before args0 about1) = true := by decide +kernel
set_option maxRecDepth 65536 in
theorem w_t3 : (((words1.drop 24).drop 24).take 24).all (fun c => isCode c || c.before args0 about1) = true := by decide +kernel
set_option maxRecDepth 65536 in
theorem w_t4 : ((((words1.drop 24).drop 24).drop 24).take 24).all (fun c => isCode c || c.before args0 about1) = true := by decide +kernel
set_option maxRecDepth 65536 in
theorem w_t5 : (((((words1.drop 24).drop 24).drop 24).drop 24).take 24).all (fun c => isCode c || c.before args0 about1) = true := by decide +kernel
set_option maxRecDepth 65536 in
theorem w_t6 : ((((((words1.drop 24).drop 24).drop 24).drop 24).drop 24).take 24).all (fun c => isCode c || c.before args0 about1) = true := by decide +kernel
set_option maxRecDepth 65536 in
theorem w_t7 : (((((((words1.drop 24).drop 24).drop 24).drop 24).drop 24).drop 24).take 24).all (fun c => isCode c || c.before args0 about1) = true := by decide +kernel
set_option maxRecDepth 65536 in
theorem w_t8 : ((((((((words1.drop 24).drop 24).drop 24).drop 24).drop 24).drop 24).drop 24).take 24).all (fun c => isCode c || c.before args0 about1) = true := by decide +kernel
set_option maxRecDepth 65536 in
theorem w_t9 : ((((((((words1.drop 24).drop 24).drop 24).drop 24).drop 24).drop 24).drop 24).drop 24).all (fun c => isCode c || c.before args0 about1) = true := by decide +kernel
theorem w_tables : (allAtoms (Jvm.Cond.code x code maxLocals ret :: tables_1)).before args0 about1 = true := by
  rw [allAtoms_all]
  show words1.all (fun c => c.before args0 about1) = true
  refine all_split ?_ w_codes
  rw [← List.take_append_drop 24 words1, List.all_append, w_t1, ← List.take_append_drop 24 (words1.drop 24), List.all_append, w_t2, ← List.take_append_drop 24 ((words1.drop 24).drop 24), List.all_append, w_t3, ← List.take_append_drop 24 (((words1.drop 24).drop 24).drop 24), List.all_append, w_t4, ← List.take_append_drop 24 ((((words1.drop 24).drop 24).drop 24).drop 24), List.all_append, w_t5, ← List.take_append_drop 24 (((((words1.drop 24).drop 24).drop 24).drop 24).drop 24), List.all_append, w_t6, ← List.take_append_drop 24 ((((((words1.drop 24).drop 24).drop 24).drop 24).drop 24).drop 24), List.all_append, w_t7, ← List.take_append_drop 24 (((((((words1.drop 24).drop 24).drop 24).drop 24).drop 24).drop 24).drop 24), List.all_append, w_t8, w_t9]
  rfl
set_option maxRecDepth 65536 in
theorem w_rest : rest_1_c.before args0 about1 = true := by decide +kernel
set_option maxRecDepth 65536 in
theorem w_case : (Jvm.Cond.and given_1 narrow_1).before args0 about1 = true := by decide +kernel
set_option maxRecDepth 65536 in
theorem w_consts : constsHeld consts_1 about1 := Jvm.Lit.constsHeldB_iff.mp (by decide +kernel)
theorem w_applies : (headSpec (Jvm.Cond.code x code maxLocals ret :: tables_1) room_1).applies x e0.platform about1 = true :=
  (Spec.applies_iff w_frames).mpr ⟨w_running, w_runnable, w_alone, w_named, w_hears, w_ripe, w_room, w_tables⟩
theorem atStart : AtStart classFile x code maxLocals ret World_1 tables_1 room_1 Calls_1 rest_1 Pre_1 launch0 p0 e0 about1 theMethod args0 below0 :=
  ⟨lists_1, trivial, launch0.admits_env _ _ _, launch0.least_env, fairChoices_fair.cas, fairChoices_fair.clock, w_frames, w_args, w_heap, w_applies, ⟨w_consts, trivial⟩, w_rest, w_case⟩
end start1
theorem witness_1 : WitnessClaimed_1 := ⟨start1.p0, start1.e0, start1.about1, start1.theMethod, start1.args0, start1.below0, start1.atStart⟩
end Jvm.Pilot.@@N@@
