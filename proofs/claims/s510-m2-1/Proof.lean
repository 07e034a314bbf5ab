import JvmDerived
import JvmDerived.Pilot.@@N@@Statement
import JvmDerived.Pilot.@@N@@Code
set_option linter.unusedVariables false
set_option linter.unusedSimpArgs false
namespace Jvm.RoadKit
open Sem ClassFile Op Lib Jvm.Stand Jvm.Free Jvm.LawKit
section New
variable {p : Program} {l : Launch} {e : Env} {R : Room} {s : State} {m : MethodId} {args : Array Value} {below : List Frame} {meth : Method} {c : Code} {T : State} {locs : List Loc} {cells slots : Nat}
theorem retI (X : Stand p l e R s m args below meth c T locs cells slots) (hx : p.tables.exec = Jvm.exec) {pc : Nat} {Ls : Array Slot} {z : Int32} {rest : List Value} (hret : meth.sig.returnType = some .int) (hd : decode c.code pc = .ok (.ireturn, 1)) {fs : List Frame}
    (hl : ∀ (f : JFrame) (acts : List Action), f.method = m → f.locked = none → f.entered = [] → (doReturn e (T.setTop f) acts (some (.int z))).1 = T.setFrames fs) : Steps p.tables e below (T.setTop (mkF m pc Ls (.int z :: rest))) (T.setFrames fs) := by
  have hm' : T.vm.method? m = some meth := X.method'
  have hn : narrow .int (.int z) = .int z := rfl
  show Steps p.tables e below (T.setTop { method := m, pc := pc, locals := Ls, stack := _ :: rest, locked := none }) _
  jvm_step X.here [X.here.top, hx, hd, hm', hret, hn]
  first | (intro acts; rw [hl _ acts rfl rfl rfl]) | rw [hl _ _ rfl rfl rfl]
  exact Steps.refl _
theorem own_join {n0 : Nat} (X : Stand p l e R s m args below meth c T locs cells slots) (N : Fr n0 locs) {h : Heap} (g g' : JFrame)
    (H : ∃ (T' : State) (locs' : List Loc), Stand p l e R s m args below meth c T' locs' cells slots ∧ Fr n0 locs' ∧ T'.heap = h ∧ ∀ t, Steps p.tables e below (T'.setTop g') t → Steps p.tables e below (T.setTop g) t) :
    ∃ (T' : State) (locs' : List Loc), Stand p l e R s m args below meth c T' locs' cells slots ∧ Fr n0 locs' ∧ T'.heap = h ∧ ∀ t, Steps p.tables e below (T'.setTop g') t → Steps p.tables e below (T.setTop g) t := H
theorem own_mono (X : Stand p l e R s m args below meth c T locs cells slots) {c' s' : Nat} (h1 : cells ≤ c') (h2 : slots ≤ s') : Stand p l e R s m args below meth c T locs c' s' :=
  ⟨X.admits, X.cas, X.clock, X.frames, X.room, X.hears, X.method, X.code, X.here, X.tail, X.warmed, X.limits, X.bytes, X.same.mono h1 h2⟩
theorem own_lrem {g : JFrame} {target : State} (X : Stand p l e R s m args below meth c T locs cells slots) (hx : p.tables.exec = Jvm.exec) (hg : g.method = m) {x y : Int64} {rest : List Value} (hd : decode c.code g.pc = .ok (.lrem, 1)) (hs : g.stack = .long y :: .long x :: rest) (hy : y ≠ 0)
    (hr : Steps p.tables e below (T.setTop { g with pc := g.pc + 1, stack := .long (x % y) :: rest }) target) : Steps p.tables e below (T.setTop g) target :=
  Jvm.Free.XS.lrem X.here hx hg hd hs hy (by rw [lrem_mod x y]; exact hr)
def Bya (Z : State) (h : Heap) (a : Addr) (z : Int32) (f : Int32 → Int32) : Prop := ∃ c : Cell, Arr Z h a c .byte ∧ c.slots.size = z.toNatClampNeg ∧ ∀ j : Int32, ¬ j < 0 → j < z → c.slots[j.toNatClampNeg]? = some (.int (f j))
theorem Bya.lt {Z : State} {h : Heap} {a : Addr} {z : Int32} {f : Int32 → Int32} (F : Bya Z h a z f) : a < h.size := by obtain ⟨c, A, -⟩ := F; exact A.lt
theorem Bya.ext {Z : State} {h h' : Heap} {a : Addr} {z : Int32} {f : Int32 → Int32} (F : Bya Z h a z f) (E : Ext h h') : Bya Z h' a z f := by obtain ⟨c, A, r⟩ := F; exact ⟨c, A.ext E, r⟩
theorem Bya.other {Z : State} {h h' : Heap} {a b : Addr} {z : Int32} {f : Int32 → Int32} {sl : Nat} {v : Value} (F : Bya Z h b z f) (W : Wr h h' a sl v) (q : b ≠ a) : Bya Z h' b z f := by obtain ⟨c, A, r⟩ := F; exact ⟨c, A.other W q, r⟩
theorem Bya.keep {Z : State} {h h' : Heap} {a : Addr} {z : Int32} {f : Int32 → Int32} {ws : List Addr} (F : Bya Z h a z f) (K : Keep h h' ws) (q : a ∉ ws) : Bya Z h' a z f := by obtain ⟨c, A, r⟩ := F; exact ⟨c, ⟨K.2.1 a c A.1 q, A.2⟩, r⟩
theorem Bya.set {Z : State} {h h' : Heap} {a : Addr} {z j v : Int32} {f : Int32 → Int32} {c : Cell} (A : Arr Z h a c .byte) (S : c.slots.size = z.toNatClampNeg) (H : ∀ j : Int32, ¬ j < 0 → j < z → c.slots[j.toNatClampNeg]? = some (.int (f j))) (hj : ¬ j < 0 ∧ j < z) (W : Wr h h' a j.toNatClampNeg (.int v)) : Bya Z h' a z (fun i => if i = j then v else f i) := by
  refine ⟨_, A.same W, by rw [sz_set]; exact S, fun i h1 h2 => ?_⟩
  by_cases q : i = j
  · rw [get_hit (inb_of S hj) q]; simp [q]
  · rw [get_miss hj.1 h1 q, H i h1 h2]; simp [q]
theorem Bya.of_arv {Z : State} {h : Heap} {a : Addr} {k : ClassId} {z : Int32} {vs : List Value} {es : List Int32} (F : Arv Z h a k .byte z vs (.int (0 : Int32))) (e : vs = es.map Value.int) : Bya Z h a z (fun i => es.getD i.toNatClampNeg 0) := by
  obtain ⟨c, A, -, S, -, H, -⟩ := F
  refine ⟨c, A, S, fun j h1 h2 => ?_⟩
  refine H.at (inb_of S ⟨h1, h2⟩) ?_
  subst e
  simp only [List.getD_eq_getElem?_getD, List.getElem?_map]
  cases es[j.toNatClampNeg]? <;> rfl
theorem own_b1 {x : Int32} (h : x = 1) : ¬ x = 0 := by rw [h]; decide
theorem own_cons {α : Type} {a b : α} {l m : List α} (h1 : a = b) (h2 : l = m) : a :: l = b :: m := by rw [h1, h2]
theorem own_arv {Z : State} {h : Heap} {a : Addr} {k : ClassId} {ty : FieldType} {z : Int32} {vs ws : List Value} {d : Value} (A : Arv Z h a k ty z vs d) (q : ws = vs) : Arv Z h a k ty z ws d := q ▸ A
theorem own_fld {Z : State} {h : Heap} {a : Addr} {C n d : String} {v w : Value} (F : Fld Z h a C n d v) (q : w = v) : Fld Z h a C n d w := q ▸ F
end New
end Jvm.RoadKit
namespace Jvm.Pilot.@@N@@
open Jvm Jvm.ClassFile Sem Op Lib Jvm.Free Jvm.Stand Jvm.LawKit Jvm.RoadKit Bundle Jvm.Pilot.@@N@@.Jvm.D
theorem ow0 {Z : State} {a0 : Array Value} (hw : ∀ d ∈ tables_1, d.before a0 Z = true) : (Jvm.Cond.methodLink "com/example/throttlua/throttlua/failure/VerdictRefusingPinLaw" (7 : Nat) ({ cls := "com/example/throttlua/throttlua/failure/Verdict", name := "refusing", desc := "(JJJ)Lcom/example/throttlua/throttlua/failure/Verdict;" } : Jvm.MethodName)).before a0 Z = true := hw _ (List.mem_of_getElem? (i := 0) rfl)
theorem ow1 {Z : State} {a0 : Array Value} (hw : ∀ d ∈ tables_1, d.before a0 Z = true) : (Jvm.Cond.static ({ cls := "com/example/throttlua/throttlua/failure/Verdict", name := "refusing", desc := "(JJJ)Lcom/example/throttlua/throttlua/failure/Verdict;" } : Jvm.MethodName)).before a0 Z = true := hw _ (List.mem_of_getElem? (i := 1) rfl)
theorem ow2 {Z : State} {a0 : Array Value} (hw : ∀ d ∈ tables_1, d.before a0 Z = true) : (Jvm.Cond.initialized "com/example/throttlua/throttlua/failure/Verdict").before a0 Z = true := hw _ (List.mem_of_getElem? (i := 2) rfl)
theorem ow3 {Z : State} {a0 : Array Value} (hw : ∀ d ∈ tables_1, d.before a0 Z = true) : (Jvm.Cond.code ({ cls := "com/example/throttlua/throttlua/failure/Verdict", name := "refusing", desc := "(JJJ)Lcom/example/throttlua/throttlua/failure/Verdict;" } : Jvm.MethodName) prog_9_method_3_code (6 : Nat) (Option.some (Jvm.ClassFile.FieldType.object "com/example/throttlua/throttlua/failure/Verdict"))).before a0 Z = true := hw _ (List.mem_of_getElem? (i := 3) rfl)
theorem ow4 {Z : State} {a0 : Array Value} (hw : ∀ d ∈ tables_1, d.before a0 Z = true) : (Jvm.Cond.classLink "com/example/throttlua/throttlua/failure/Verdict" (8 : Nat) "com/example/throttlua/throttlua/failure/Verdict").before a0 Z = true := hw _ (List.mem_of_getElem? (i := 4) rfl)
theorem ow5 {Z : State} {a0 : Array Value} (hw : ∀ d ∈ tables_1, d.before a0 Z = true) : (Jvm.Cond.instantiable "com/example/throttlua/throttlua/failure/Verdict" (5 : Nat)).before a0 Z = true := hw _ (List.mem_of_getElem? (i := 5) rfl)
theorem ow6 {Z : State} {a0 : Array Value} (hw : ∀ d ∈ tables_1, d.before a0 Z = true) : (Jvm.Cond.methodLink "com/example/throttlua/throttlua/failure/Verdict" (26 : Nat) ({ cls := "com/example/throttlua/throttlua/failure/Verdict", name := "<init>", desc := "(JJJJLjava/lang/Runnable;)V" } : Jvm.MethodName)).before a0 Z = true := hw _ (List.mem_of_getElem? (i := 6) rfl)
theorem ow7 {Z : State} {a0 : Array Value} (hw : ∀ d ∈ tables_1, d.before a0 Z = true) : (Jvm.Cond.instanceMethod ({ cls := "com/example/throttlua/throttlua/failure/Verdict", name := "<init>", desc := "(JJJJLjava/lang/Runnable;)V" } : Jvm.MethodName)).before a0 Z = true := hw _ (List.mem_of_getElem? (i := 7) rfl)
theorem ow8 {Z : State} {a0 : Array Value} (hw : ∀ d ∈ tables_1, d.before a0 Z = true) : (Jvm.Cond.code ({ cls := "com/example/throttlua/throttlua/failure/Verdict", name := "<init>", desc := "(JJJJLjava/lang/Runnable;)V" } : Jvm.MethodName) prog_9_method_1_code (10 : Nat) (Option.none : Option Jvm.ClassFile.FieldType)).before a0 Z = true := hw _ (List.mem_of_getElem? (i := 8) rfl)
theorem ow9 {Z : State} {a0 : Array Value} (hw : ∀ d ∈ tables_1, d.before a0 Z = true) : (Jvm.Cond.methodLink "com/example/throttlua/throttlua/failure/Verdict" (1 : Nat) ({ cls := "java/lang/Record", name := "<init>", desc := "()V" } : Jvm.MethodName)).before a0 Z = true := hw _ (List.mem_of_getElem? (i := 9) rfl)
theorem ow10 {Z : State} {a0 : Array Value} (hw : ∀ d ∈ tables_1, d.before a0 Z = true) : (Jvm.Cond.instanceMethod ({ cls := "java/lang/Record", name := "<init>", desc := "()V" } : Jvm.MethodName)).before a0 Z = true := hw _ (List.mem_of_getElem? (i := 10) rfl)
theorem ow12 {Z : State} {a0 : Array Value} (hw : ∀ d ∈ tables_1, d.before a0 Z = true) : (Jvm.Cond.initialized "java/lang/Record").before a0 Z = true := hw _ (List.mem_of_getElem? (i := 12) rfl)
theorem ow13 {Z : State} {a0 : Array Value} (hw : ∀ d ∈ tables_1, d.before a0 Z = true) : (Jvm.Cond.code ({ cls := "java/lang/Record", name := "<init>", desc := "()V" } : Jvm.MethodName) jdk_30_method_1_code (1 : Nat) (Option.none : Option Jvm.ClassFile.FieldType)).before a0 Z = true := hw _ (List.mem_of_getElem? (i := 13) rfl)
theorem ow14 {Z : State} {a0 : Array Value} (hw : ∀ d ∈ tables_1, d.before a0 Z = true) : (Jvm.Cond.methodLink "java/lang/Record" (1 : Nat) ({ cls := "java/lang/Object", name := "<init>", desc := "()V" } : Jvm.MethodName)).before a0 Z = true := hw _ (List.mem_of_getElem? (i := 14) rfl)
theorem ow15 {Z : State} {a0 : Array Value} (hw : ∀ d ∈ tables_1, d.before a0 Z = true) : (Jvm.Cond.instanceMethod ({ cls := "java/lang/Object", name := "<init>", desc := "()V" } : Jvm.MethodName)).before a0 Z = true := hw _ (List.mem_of_getElem? (i := 15) rfl)
theorem ow16 {Z : State} {a0 : Array Value} (hw : ∀ d ∈ tables_1, d.before a0 Z = true) : (Jvm.Cond.code ({ cls := "java/lang/Object", name := "<init>", desc := "()V" } : Jvm.MethodName) object_method_1_code (1 : Nat) (Option.none : Option Jvm.ClassFile.FieldType)).before a0 Z = true := hw _ (List.mem_of_getElem? (i := 16) rfl)
theorem ow17 {Z : State} {a0 : Array Value} (hw : ∀ d ∈ tables_1, d.before a0 Z = true) : (Jvm.Cond.fieldLink "com/example/throttlua/throttlua/failure/Verdict" (7 : Nat) "com/example/throttlua/throttlua/failure/Verdict" "remaining" "J").before a0 Z = true := hw _ (List.mem_of_getElem? (i := 17) rfl)
theorem ow18 {Z : State} {a0 : Array Value} (hw : ∀ d ∈ tables_1, d.before a0 Z = true) : (Jvm.Cond.laysFinal "com/example/throttlua/throttlua/failure/Verdict" "com/example/throttlua/throttlua/failure/Verdict" "remaining" "J").before a0 Z = true := hw _ (List.mem_of_getElem? (i := 18) rfl)
theorem ow19 {Z : State} {a0 : Array Value} (hw : ∀ d ∈ tables_1, d.before a0 Z = true) : (Jvm.Cond.fieldLink "com/example/throttlua/throttlua/failure/Verdict" (13 : Nat) "com/example/throttlua/throttlua/failure/Verdict" "waitMillis" "J").before a0 Z = true := hw _ (List.mem_of_getElem? (i := 19) rfl)
theorem ow20 {Z : State} {a0 : Array Value} (hw : ∀ d ∈ tables_1, d.before a0 Z = true) : (Jvm.Cond.laysFinal "com/example/throttlua/throttlua/failure/Verdict" "com/example/throttlua/throttlua/failure/Verdict" "waitMillis" "J").before a0 Z = true := hw _ (List.mem_of_getElem? (i := 20) rfl)
theorem ow21 {Z : State} {a0 : Array Value} (hw : ∀ d ∈ tables_1, d.before a0 Z = true) : (Jvm.Cond.fieldLink "com/example/throttlua/throttlua/failure/Verdict" (16 : Nat) "com/example/throttlua/throttlua/failure/Verdict" "lagMillis" "J").before a0 Z = true := hw _ (List.mem_of_getElem? (i := 21) rfl)
theorem ow22 {Z : State} {a0 : Array Value} (hw : ∀ d ∈ tables_1, d.before a0 Z = true) : (Jvm.Cond.laysFinal "com/example/throttlua/throttlua/failure/Verdict" "com/example/throttlua/throttlua/failure/Verdict" "lagMillis" "J").before a0 Z = true := hw _ (List.mem_of_getElem? (i := 22) rfl)
theorem ow23 {Z : State} {a0 : Array Value} (hw : ∀ d ∈ tables_1, d.before a0 Z = true) : (Jvm.Cond.fieldLink "com/example/throttlua/throttlua/failure/Verdict" (19 : Nat) "com/example/throttlua/throttlua/failure/Verdict" "livesMillis" "J").before a0 Z = true := hw _ (List.mem_of_getElem? (i := 23) rfl)
theorem ow24 {Z : State} {a0 : Array Value} (hw : ∀ d ∈ tables_1, d.before a0 Z = true) : (Jvm.Cond.laysFinal "com/example/throttlua/throttlua/failure/Verdict" "com/example/throttlua/throttlua/failure/Verdict" "livesMillis" "J").before a0 Z = true := hw _ (List.mem_of_getElem? (i := 24) rfl)
theorem ow25 {Z : State} {a0 : Array Value} (hw : ∀ d ∈ tables_1, d.before a0 Z = true) : (Jvm.Cond.fieldLink "com/example/throttlua/throttlua/failure/Verdict" (22 : Nat) "com/example/throttlua/throttlua/failure/Verdict" "take" "Ljava/lang/Runnable;").before a0 Z = true := hw _ (List.mem_of_getElem? (i := 25) rfl)
theorem ow26 {Z : State} {a0 : Array Value} (hw : ∀ d ∈ tables_1, d.before a0 Z = true) : (Jvm.Cond.laysFinal "com/example/throttlua/throttlua/failure/Verdict" "com/example/throttlua/throttlua/failure/Verdict" "take" "Ljava/lang/Runnable;").before a0 Z = true := hw _ (List.mem_of_getElem? (i := 26) rfl)
theorem ow27 {Z : State} {a0 : Array Value} (hw : ∀ d ∈ tables_1, d.before a0 Z = true) : (Jvm.Cond.methodLink "com/example/throttlua/throttlua/failure/VerdictRefusingPinLaw" (13 : Nat) ({ cls := "com/example/throttlua/throttlua/failure/Verdict", name := "remaining", desc := "()J" } : Jvm.MethodName)).before a0 Z = true := hw _ (List.mem_of_getElem? (i := 27) rfl)
theorem ow28 {Z : State} {a0 : Array Value} (hw : ∀ d ∈ tables_1, d.before a0 Z = true) : (Jvm.Cond.declares ({ cls := "com/example/throttlua/throttlua/failure/Verdict", name := "remaining", desc := "()J" } : Jvm.MethodName)).before a0 Z = true := hw _ (List.mem_of_getElem? (i := 28) rfl)
theorem ow29 {Z : State} {a0 : Array Value} (hw : ∀ d ∈ tables_1, d.before a0 Z = true) : (Jvm.Cond.instanceMethod ({ cls := "com/example/throttlua/throttlua/failure/Verdict", name := "remaining", desc := "()J" } : Jvm.MethodName)).before a0 Z = true := hw _ (List.mem_of_getElem? (i := 29) rfl)
theorem ow30 {Z : State} {a0 : Array Value} (hw : ∀ d ∈ tables_1, d.before a0 Z = true) : (Jvm.Cond.selects "com/example/throttlua/throttlua/failure/Verdict" ({ cls := "com/example/throttlua/throttlua/failure/Verdict", name := "remaining", desc := "()J" } : Jvm.MethodName) ({ cls := "com/example/throttlua/throttlua/failure/Verdict", name := "remaining", desc := "()J" } : Jvm.MethodName)).before a0 Z = true := hw _ (List.mem_of_getElem? (i := 30) rfl)
theorem ow31 {Z : State} {a0 : Array Value} (hw : ∀ d ∈ tables_1, d.before a0 Z = true) : (Jvm.Cond.code ({ cls := "com/example/throttlua/throttlua/failure/Verdict", name := "remaining", desc := "()J" } : Jvm.MethodName) prog_9_method_8_code (1 : Nat) (Option.some Jvm.ClassFile.FieldType.long)).before a0 Z = true := hw _ (List.mem_of_getElem? (i := 31) rfl)
theorem ow32 {Z : State} {a0 : Array Value} (hw : ∀ d ∈ tables_1, d.before a0 Z = true) : (Jvm.Cond.methodLink "com/example/throttlua/throttlua/failure/VerdictRefusingPinLaw" (17 : Nat) ({ cls := "com/example/throttlua/throttlua/failure/Verdict", name := "waitMillis", desc := "()J" } : Jvm.MethodName)).before a0 Z = true := hw _ (List.mem_of_getElem? (i := 32) rfl)
theorem ow33 {Z : State} {a0 : Array Value} (hw : ∀ d ∈ tables_1, d.before a0 Z = true) : (Jvm.Cond.declares ({ cls := "com/example/throttlua/throttlua/failure/Verdict", name := "waitMillis", desc := "()J" } : Jvm.MethodName)).before a0 Z = true := hw _ (List.mem_of_getElem? (i := 33) rfl)
theorem ow34 {Z : State} {a0 : Array Value} (hw : ∀ d ∈ tables_1, d.before a0 Z = true) : (Jvm.Cond.instanceMethod ({ cls := "com/example/throttlua/throttlua/failure/Verdict", name := "waitMillis", desc := "()J" } : Jvm.MethodName)).before a0 Z = true := hw _ (List.mem_of_getElem? (i := 34) rfl)
theorem ow35 {Z : State} {a0 : Array Value} (hw : ∀ d ∈ tables_1, d.before a0 Z = true) : (Jvm.Cond.selects "com/example/throttlua/throttlua/failure/Verdict" ({ cls := "com/example/throttlua/throttlua/failure/Verdict", name := "waitMillis", desc := "()J" } : Jvm.MethodName) ({ cls := "com/example/throttlua/throttlua/failure/Verdict", name := "waitMillis", desc := "()J" } : Jvm.MethodName)).before a0 Z = true := hw _ (List.mem_of_getElem? (i := 35) rfl)
theorem ow36 {Z : State} {a0 : Array Value} (hw : ∀ d ∈ tables_1, d.before a0 Z = true) : (Jvm.Cond.code ({ cls := "com/example/throttlua/throttlua/failure/Verdict", name := "waitMillis", desc := "()J" } : Jvm.MethodName) prog_9_method_9_code (1 : Nat) (Option.some Jvm.ClassFile.FieldType.long)).before a0 Z = true := hw _ (List.mem_of_getElem? (i := 36) rfl)
theorem ow37 {Z : State} {a0 : Array Value} (hw : ∀ d ∈ tables_1, d.before a0 Z = true) : (Jvm.Cond.methodLink "com/example/throttlua/throttlua/failure/VerdictRefusingPinLaw" (20 : Nat) ({ cls := "com/example/throttlua/throttlua/failure/Verdict", name := "lagMillis", desc := "()J" } : Jvm.MethodName)).before a0 Z = true := hw _ (List.mem_of_getElem? (i := 37) rfl)
theorem ow38 {Z : State} {a0 : Array Value} (hw : ∀ d ∈ tables_1, d.before a0 Z = true) : (Jvm.Cond.declares ({ cls := "com/example/throttlua/throttlua/failure/Verdict", name := "lagMillis", desc := "()J" } : Jvm.MethodName)).before a0 Z = true := hw _ (List.mem_of_getElem? (i := 38) rfl)
theorem ow39 {Z : State} {a0 : Array Value} (hw : ∀ d ∈ tables_1, d.before a0 Z = true) : (Jvm.Cond.instanceMethod ({ cls := "com/example/throttlua/throttlua/failure/Verdict", name := "lagMillis", desc := "()J" } : Jvm.MethodName)).before a0 Z = true := hw _ (List.mem_of_getElem? (i := 39) rfl)
theorem ow40 {Z : State} {a0 : Array Value} (hw : ∀ d ∈ tables_1, d.before a0 Z = true) : (Jvm.Cond.selects "com/example/throttlua/throttlua/failure/Verdict" ({ cls := "com/example/throttlua/throttlua/failure/Verdict", name := "lagMillis", desc := "()J" } : Jvm.MethodName) ({ cls := "com/example/throttlua/throttlua/failure/Verdict", name := "lagMillis", desc := "()J" } : Jvm.MethodName)).before a0 Z = true := hw _ (List.mem_of_getElem? (i := 40) rfl)
theorem ow41 {Z : State} {a0 : Array Value} (hw : ∀ d ∈ tables_1, d.before a0 Z = true) : (Jvm.Cond.code ({ cls := "com/example/throttlua/throttlua/failure/Verdict", name := "lagMillis", desc := "()J" } : Jvm.MethodName) prog_9_method_10_code (1 : Nat) (Option.some Jvm.ClassFile.FieldType.long)).before a0 Z = true := hw _ (List.mem_of_getElem? (i := 41) rfl)
theorem ow42 {Z : State} {a0 : Array Value} (hw : ∀ d ∈ tables_1, d.before a0 Z = true) : (Jvm.Cond.methodLink "com/example/throttlua/throttlua/failure/VerdictRefusingPinLaw" (23 : Nat) ({ cls := "com/example/throttlua/throttlua/failure/Verdict", name := "livesMillis", desc := "()J" } : Jvm.MethodName)).before a0 Z = true := hw _ (List.mem_of_getElem? (i := 42) rfl)
theorem ow43 {Z : State} {a0 : Array Value} (hw : ∀ d ∈ tables_1, d.before a0 Z = true) : (Jvm.Cond.declares ({ cls := "com/example/throttlua/throttlua/failure/Verdict", name := "livesMillis", desc := "()J" } : Jvm.MethodName)).before a0 Z = true := hw _ (List.mem_of_getElem? (i := 43) rfl)
theorem ow44 {Z : State} {a0 : Array Value} (hw : ∀ d ∈ tables_1, d.before a0 Z = true) : (Jvm.Cond.instanceMethod ({ cls := "com/example/throttlua/throttlua/failure/Verdict", name := "livesMillis", desc := "()J" } : Jvm.MethodName)).before a0 Z = true := hw _ (List.mem_of_getElem? (i := 44) rfl)
theorem ow45 {Z : State} {a0 : Array Value} (hw : ∀ d ∈ tables_1, d.before a0 Z = true) : (Jvm.Cond.selects "com/example/throttlua/throttlua/failure/Verdict" ({ cls := "com/example/throttlua/throttlua/failure/Verdict", name := "livesMillis", desc := "()J" } : Jvm.MethodName) ({ cls := "com/example/throttlua/throttlua/failure/Verdict", name := "livesMillis", desc := "()J" } : Jvm.MethodName)).before a0 Z = true := hw _ (List.mem_of_getElem? (i := 45) rfl)
theorem ow46 {Z : State} {a0 : Array Value} (hw : ∀ d ∈ tables_1, d.before a0 Z = true) : (Jvm.Cond.code ({ cls := "com/example/throttlua/throttlua/failure/Verdict", name := "livesMillis", desc := "()J" } : Jvm.MethodName) prog_9_method_11_code (1 : Nat) (Option.some Jvm.ClassFile.FieldType.long)).before a0 Z = true := hw _ (List.mem_of_getElem? (i := 46) rfl)
theorem ow47 {Z : State} {a0 : Array Value} (hw : ∀ d ∈ tables_1, d.before a0 Z = true) : (Jvm.Cond.methodLink "com/example/throttlua/throttlua/failure/VerdictRefusingPinLaw" (26 : Nat) ({ cls := "com/example/throttlua/throttlua/failure/Verdict", name := "take", desc := "()Ljava/lang/Runnable;" } : Jvm.MethodName)).before a0 Z = true := hw _ (List.mem_of_getElem? (i := 47) rfl)
theorem ow48 {Z : State} {a0 : Array Value} (hw : ∀ d ∈ tables_1, d.before a0 Z = true) : (Jvm.Cond.declares ({ cls := "com/example/throttlua/throttlua/failure/Verdict", name := "take", desc := "()Ljava/lang/Runnable;" } : Jvm.MethodName)).before a0 Z = true := hw _ (List.mem_of_getElem? (i := 48) rfl)
theorem ow49 {Z : State} {a0 : Array Value} (hw : ∀ d ∈ tables_1, d.before a0 Z = true) : (Jvm.Cond.instanceMethod ({ cls := "com/example/throttlua/throttlua/failure/Verdict", name := "take", desc := "()Ljava/lang/Runnable;" } : Jvm.MethodName)).before a0 Z = true := hw _ (List.mem_of_getElem? (i := 49) rfl)
theorem ow50 {Z : State} {a0 : Array Value} (hw : ∀ d ∈ tables_1, d.before a0 Z = true) : (Jvm.Cond.selects "com/example/throttlua/throttlua/failure/Verdict" ({ cls := "com/example/throttlua/throttlua/failure/Verdict", name := "take", desc := "()Ljava/lang/Runnable;" } : Jvm.MethodName) ({ cls := "com/example/throttlua/throttlua/failure/Verdict", name := "take", desc := "()Ljava/lang/Runnable;" } : Jvm.MethodName)).before a0 Z = true := hw _ (List.mem_of_getElem? (i := 50) rfl)
theorem ow51 {Z : State} {a0 : Array Value} (hw : ∀ d ∈ tables_1, d.before a0 Z = true) : (Jvm.Cond.code ({ cls := "com/example/throttlua/throttlua/failure/Verdict", name := "take", desc := "()Ljava/lang/Runnable;" } : Jvm.MethodName) prog_9_method_12_code (1 : Nat) (Option.some (Jvm.ClassFile.FieldType.object "java/lang/Runnable"))).before a0 Z = true := hw _ (List.mem_of_getElem? (i := 51) rfl)
theorem ow52 {Z : State} {a0 : Array Value} (hw : ∀ d ∈ tables_1, d.before a0 Z = true) : (Jvm.Cond.methodLink "com/example/throttlua/throttlua/failure/VerdictRefusingPinLaw" (30 : Nat) ({ cls := "com/example/throttlua/throttlua/failure/Verdict", name := "grants", desc := "()Z" } : Jvm.MethodName)).before a0 Z = true := hw _ (List.mem_of_getElem? (i := 52) rfl)
theorem ow53 {Z : State} {a0 : Array Value} (hw : ∀ d ∈ tables_1, d.before a0 Z = true) : (Jvm.Cond.declares ({ cls := "com/example/throttlua/throttlua/failure/Verdict", name := "grants", desc := "()Z" } : Jvm.MethodName)).before a0 Z = true := hw _ (List.mem_of_getElem? (i := 53) rfl)
theorem ow54 {Z : State} {a0 : Array Value} (hw : ∀ d ∈ tables_1, d.before a0 Z = true) : (Jvm.Cond.instanceMethod ({ cls := "com/example/throttlua/throttlua/failure/Verdict", name := "grants", desc := "()Z" } : Jvm.MethodName)).before a0 Z = true := hw _ (List.mem_of_getElem? (i := 54) rfl)
theorem ow55 {Z : State} {a0 : Array Value} (hw : ∀ d ∈ tables_1, d.before a0 Z = true) : (Jvm.Cond.selects "com/example/throttlua/throttlua/failure/Verdict" ({ cls := "com/example/throttlua/throttlua/failure/Verdict", name := "grants", desc := "()Z" } : Jvm.MethodName) ({ cls := "com/example/throttlua/throttlua/failure/Verdict", name := "grants", desc := "()Z" } : Jvm.MethodName)).before a0 Z = true := hw _ (List.mem_of_getElem? (i := 55) rfl)
theorem ow56 {Z : State} {a0 : Array Value} (hw : ∀ d ∈ tables_1, d.before a0 Z = true) : (Jvm.Cond.code ({ cls := "com/example/throttlua/throttlua/failure/Verdict", name := "grants", desc := "()Z" } : Jvm.MethodName) prog_9_method_4_code (1 : Nat) (Option.some Jvm.ClassFile.FieldType.boolean)).before a0 Z = true := hw _ (List.mem_of_getElem? (i := 56) rfl)
theorem d3_0 : decode jdk_30_method_1_code 0 = .ok (.aload_n 0, 1) := by decide +kernel
theorem d3_1 : decode jdk_30_method_1_code 1 = .ok (.invokespecial 1, 3) := by decide +kernel
theorem d3_4 : decode jdk_30_method_1_code 4 = .ok (.return_, 1) := by decide +kernel
theorem pn_3 : plainName "java/lang/Record" = true := by first | (simp [plainName, overriddenIn]; done) | decide +kernel
theorem ef_rm3 (m : MethodId) (y0 : Addr) : entryFrame m #[(.ref y0)] 1 = mkF m 0 #[.val (.ref y0)] [] := by first | (simp [entryFrame, mkF, argsToLocals, Value.category]; done) | rfl
def Q_rm3 (Z : State) (a3_0 : Addr) (h0 : Heap) (n0 : Nat) (v : Option Value) (h : Heap) (L : List Loc) : Prop := v = none ∧ Fr n0 L ∧ h = h0
set_option maxRecDepth 65536 in
set_option maxHeartbeats 40000000 in
theorem rm3 (l : Launch) (Z : State) (a0 : Array Value) (hw : ∀ d ∈ tables_1, d.before a0 Z = true) (ws : List Jvm.Cond) (a3_0 : Addr) (h0 : Heap) (n0 : Nat) (Z0 : n0 ≤ h0.size) :
    MetFree l (⟨"java/lang/Record", "<init>", "()V"⟩ : MethodName) (head1 (Jvm.Cond.code (⟨"java/lang/Record", "<init>", "()V"⟩ : MethodName) jdk_30_method_1_code 1 none :: ws) ({ frames := 1, cells := 0, slots := 0, locals := 12 } : Room)) (fun a U => a = #[(.ref a3_0)] ∧ Z.Warmed39 U.vm ∧ U.heap = h0) (fun _ _ _ _ _ => True) (fun _ U o U' => ∃ v L, o = .returned v ∧ Q_rm3 Z a3_0 h0 n0 v U'.heap L ∧ FrameEnd U o U' L ({ frames := 1, cells := 0, slots := 0, locals := 12 } : Room).cells ({ frames := 1, cells := 0, slots := 0, locals := 12 } : Room).slots) := by
  refine MetFree.of_bodySF (plainFor_of_name pn_3) hisR ?_
  intro p e s m args below meth c s₁ Bd hml0 hP hK
  obtain ⟨rfl, hZ, hh⟩ := hP
  have hx := Bd.exec
  have hby := Bd.bytes
  have hml : c.maxLocals = 1 := hml0
  have hown : s.vm.findClass "java/lang/Record" = some m.cls := findClass_of_methodNamed Bd.named
  have hnm := (name_of_methodNamed Bd.named Bd.method).1
  have X0 : Stand p l e ({ frames := 1, cells := 0, slots := 0, locals := 12 } : Room) s m #[(.ref a3_0)] below meth c s₁ [] 0 0 := Stand.of_body Bd
  have e0 : s₁.heap = h0 := by rw [← hh, Bd.state]; rfl
  have N0 := Fr.nil n0
  have pre0 : ∀ t, Steps p.tables e below (s₁.setTop (mkF m 0 #[.val (.ref a3_0)] [])) t → Steps p.tables e below (s₁.setTop (entryFrame m #[(.ref a3_0)] 1)) t := fun t k => castTop (ef_rm3 m a3_0) k
  obtain ⟨T1, X1, e1, st1⟩ := initO X0 hx hZ hown (ow14 hw) (ow15 hw) (ow16 hw) e0 (g := (mkF m 1 #[.val (.ref a3_0)] [(.ref a3_0)])) rfl (by rw [hml]; rfl) rfl (hb hby d3_1) (by decide) (W := 0) (by show 2 * 0 + _ ≤ _; exact Nat.le_of_eq rfl) (by decide)
  obtain ⟨fs, hr, hrun, hended, hW, hsame⟩ := X1.leave (v := none) (fun _ => rfl)
  refine ⟨_, _, pre0 _ ?_, hrun, hended, _, _, rfl, ?_, ⟨_, rfl⟩, hW, hsame.mono (by decide) (by decide)⟩
  · show Steps p.tables e below (s₁.setTop (mkF m 0 #[.val (.ref a3_0)] [])) _
    refine XS.aloadN X0.here hx rfl (hb hby d3_0) rfl rfl ?_
    show Steps p.tables e below (s₁.setTop (mkF m 1 #[.val (.ref a3_0)] [(.ref a3_0)])) _
    refine st1 _ ?_
    show Steps p.tables e below (T1.setTop (mkF m 4 #[.val (.ref a3_0)] [])) _
    exact X1.returnOut hx Bd.returns (hb hby d3_4) hr
  · show Q_rm3 Z a3_0 h0 n0 _ T1.heap _
    rw [e1]
    exact ⟨rfl, N0, rfl⟩
theorem pd___V : parseMethodDescriptor "()V" = some ⟨[], none⟩ := by decide +kernel
theorem d2_0 : decode prog_9_method_1_code 0 = .ok (.aload_n 0, 1) := by decide +kernel
theorem d2_1 : decode prog_9_method_1_code 1 = .ok (.invokespecial 1, 3) := by decide +kernel
theorem d2_4 : decode prog_9_method_1_code 4 = .ok (.aload_n 0, 1) := by decide +kernel
theorem d2_5 : decode prog_9_method_1_code 5 = .ok (.lload_n 1, 1) := by decide +kernel
theorem d2_6 : decode prog_9_method_1_code 6 = .ok (.putfield 7, 3) := by decide +kernel
theorem d2_9 : decode prog_9_method_1_code 9 = .ok (.aload_n 0, 1) := by decide +kernel
theorem d2_10 : decode prog_9_method_1_code 10 = .ok (.lload_n 3, 1) := by decide +kernel
theorem d2_11 : decode prog_9_method_1_code 11 = .ok (.putfield 13, 3) := by decide +kernel
theorem d2_14 : decode prog_9_method_1_code 14 = .ok (.aload_n 0, 1) := by decide +kernel
theorem d2_15 : decode prog_9_method_1_code 15 = .ok (.lload 5, 2) := by decide +kernel
theorem d2_17 : decode prog_9_method_1_code 17 = .ok (.putfield 16, 3) := by decide +kernel
theorem d2_20 : decode prog_9_method_1_code 20 = .ok (.aload_n 0, 1) := by decide +kernel
theorem d2_21 : decode prog_9_method_1_code 21 = .ok (.lload 7, 2) := by decide +kernel
theorem d2_23 : decode prog_9_method_1_code 23 = .ok (.putfield 19, 3) := by decide +kernel
theorem d2_26 : decode prog_9_method_1_code 26 = .ok (.aload_n 0, 1) := by decide +kernel
theorem d2_27 : decode prog_9_method_1_code 27 = .ok (.aload 9, 2) := by decide +kernel
theorem d2_29 : decode prog_9_method_1_code 29 = .ok (.putfield 22, 3) := by decide +kernel
theorem d2_32 : decode prog_9_method_1_code 32 = .ok (.return_, 1) := by decide +kernel
theorem pn_2 : plainName "com/example/throttlua/throttlua/failure/Verdict" = true := by first | (simp [plainName, overriddenIn]; done) | decide +kernel
theorem ef_rm2 (m : MethodId) (y0 : Addr) (y1 : Int64) (y2 : Int64) (y3 : Int64) (y4 : Int64) : entryFrame m #[(.ref y0), (.long y1), (.long y2), (.long y3), (.long y4), .null] 10 = mkF m 0 #[.val (.ref y0), .val (.long y1), .second, .val (.long y2), .second, .val (.long y3), .second, .val (.long y4), .second, .val .null] [] := by first | (simp [entryFrame, mkF, argsToLocals, Value.category]; done) | rfl
def Q_rm2 (Z : State) (a2_0 : Addr) (q2_1 : Int64) (q2_2 : Int64) (q2_3 : Int64) (q2_4 : Int64) (w_remaining_a2_0 : Int64) (w_waitMillis_a2_0 : Int64) (w_lagMillis_a2_0 : Int64) (w_livesMillis_a2_0 : Int64) (h0 : Heap) (n0 : Nat) (v : Option Value) (h : Heap) (L : List Loc) : Prop := v = none ∧ Fr n0 L ∧ Keep h0 h [a2_0] ∧ Exa Z h a2_0 "com/example/throttlua/throttlua/failure/Verdict" ∧ Fld Z h a2_0 "com/example/throttlua/throttlua/failure/Verdict" "remaining" "J" (.long q2_1) ∧ Fld Z h a2_0 "com/example/throttlua/throttlua/failure/Verdict" "waitMillis" "J" (.long q2_2) ∧ Fld Z h a2_0 "com/example/throttlua/throttlua/failure/Verdict" "lagMillis" "J" (.long q2_3) ∧ Fld Z h a2_0 "com/example/throttlua/throttlua/failure/Verdict" "livesMillis" "J" (.long q2_4) ∧ Fld Z h a2_0 "com/example/throttlua/throttlua/failure/Verdict" "take" "Ljava/lang/Runnable;" .null
set_option maxRecDepth 65536 in
set_option maxHeartbeats 40000000 in
theorem rm2 (l : Launch) (Z : State) (a0 : Array Value) (hw : ∀ d ∈ tables_1, d.before a0 Z = true) (ws : List Jvm.Cond) (a2_0 : Addr) (q2_1 : Int64) (q2_2 : Int64) (q2_3 : Int64) (q2_4 : Int64) (w_remaining_a2_0 : Int64) (w_waitMillis_a2_0 : Int64) (w_lagMillis_a2_0 : Int64) (w_livesMillis_a2_0 : Int64) (h0 : Heap) (n0 : Nat) (Z0 : n0 ≤ h0.size) (E_a2_0 : Exa Z h0 a2_0 "com/example/throttlua/throttlua/failure/Verdict") (F_remaining_a2_0 : Fld Z h0 a2_0 "com/example/throttlua/throttlua/failure/Verdict" "remaining" "J" (.long w_remaining_a2_0)) (g_a2_0 : n0 ≤ a2_0) (F_waitMillis_a2_0 : Fld Z h0 a2_0 "com/example/throttlua/throttlua/failure/Verdict" "waitMillis" "J" (.long w_waitMillis_a2_0)) (F_lagMillis_a2_0 : Fld Z h0 a2_0 "com/example/throttlua/throttlua/failure/Verdict" "lagMillis" "J" (.long w_lagMillis_a2_0)) (F_livesMillis_a2_0 : Fld Z h0 a2_0 "com/example/throttlua/throttlua/failure/Verdict" "livesMillis" "J" (.long w_livesMillis_a2_0)) (F_take_a2_0 : Fld Z h0 a2_0 "com/example/throttlua/throttlua/failure/Verdict" "take" "Ljava/lang/Runnable;" .null) :
    MetFree l (⟨"com/example/throttlua/throttlua/failure/Verdict", "<init>", "(JJJJLjava/lang/Runnable;)V"⟩ : MethodName) (head1 (Jvm.Cond.code (⟨"com/example/throttlua/throttlua/failure/Verdict", "<init>", "(JJJJLjava/lang/Runnable;)V"⟩ : MethodName) prog_9_method_1_code 10 none :: ws) ({ frames := 2, cells := 0, slots := 0, locals := 24 } : Room)) (fun a U => a = #[(.ref a2_0), (.long q2_1), (.long q2_2), (.long q2_3), (.long q2_4), .null] ∧ Z.Warmed39 U.vm ∧ U.heap = h0) (fun _ _ _ _ _ => True) (fun _ U o U' => ∃ v L, o = .returned v ∧ Q_rm2 Z a2_0 q2_1 q2_2 q2_3 q2_4 w_remaining_a2_0 w_waitMillis_a2_0 w_lagMillis_a2_0 w_livesMillis_a2_0 h0 n0 v U'.heap L ∧ FrameEnd U o U' L ({ frames := 2, cells := 0, slots := 0, locals := 24 } : Room).cells ({ frames := 2, cells := 0, slots := 0, locals := 24 } : Room).slots) := by
  refine MetFree.of_bodySF (plainFor_of_name pn_2) hisR ?_
  intro p e s m args below meth c s₁ Bd hml0 hP hK
  obtain ⟨rfl, hZ, hh⟩ := hP
  have hx := Bd.exec
  have hby := Bd.bytes
  have hml : c.maxLocals = 10 := hml0
  have hown : s.vm.findClass "com/example/throttlua/throttlua/failure/Verdict" = some m.cls := findClass_of_methodNamed Bd.named
  have hnm := (name_of_methodNamed Bd.named Bd.method).1
  have X0 : Stand p l e ({ frames := 2, cells := 0, slots := 0, locals := 24 } : Room) s m #[(.ref a2_0), (.long q2_1), (.long q2_2), (.long q2_3), (.long q2_4), .null] below meth c s₁ [] 0 0 := Stand.of_body Bd
  have e0 : s₁.heap = h0 := by rw [← hh, Bd.state]; rfl
  have N0 := Fr.nil n0
  have pre0 : ∀ t, Steps p.tables e below (s₁.setTop (mkF m 0 #[.val (.ref a2_0), .val (.long q2_1), .second, .val (.long q2_2), .second, .val (.long q2_3), .second, .val (.long q2_4), .second, .val .null] [])) t → Steps p.tables e below (s₁.setTop (entryFrame m #[(.ref a2_0), (.long q2_1), (.long q2_2), (.long q2_3), (.long q2_4), .null] 10)) t := fun t k => castTop (ef_rm2 m a2_0 q2_1 q2_2 q2_3 q2_4) k
  obtain ⟨_, _, ⟨T1, L1, k1, n1⟩, -, X1, ⟨Lc1, hQ1, l1, y1, z1⟩, st1⟩ := X0.specialBack hx (y := (⟨"java/lang/Record", "<init>", "()V"⟩ : MethodName)) rfl hown (mvT hZ (ow9 hw)) (mvT hZ (ow10 hw)) (mvT hZ (ow13 hw)) (by decide) (backOf (W := 0) (rm3 l Z a0 hw [] a2_0 h0 n0 Z0 ) hZ (ow13 hw) (ow12 hw) (by decide) (by decide)) (g := (mkF m 1 #[.val (.ref a2_0), .val (.long q2_1), .second, .val (.long q2_2), .second, .val (.long q2_3), .second, .val (.long q2_4), .second, .val .null] [(.ref a2_0)])) rfl (by rw [hml]; rfl) (Steps.refl _) (a := a2_0) (argsL := []) (rest := []) (lenOf pd___V rfl) rfl (by show 2 * 0 + _ ≤ _; exact Nat.le_of_eq rfl) (hb hby d2_1) (fun _ _ => ⟨rfl, e0, (by decide : 0 + 0 ≤ _), (by decide : 0 + 0 ≤ _)⟩)
  dsimp only [Pt.U, Pt.locs, Pt.cells, Pt.slots] at X1 l1 y1 z1 st1 hQ1
  subst l1 y1 z1
  obtain ⟨rfl, Nq1, e1⟩ := hQ1
  have N1 := Fr.app N0 Nq1
  obtain ⟨T2, h2, X2, e2, W2, st2⟩ := putF X1 hx hZ hown (host := "") (Or.inl (ow17 hw)) Via.refl e1 F_remaining_a2_0 E_a2_0 (Or.inr ⟨(ow18 hw), rfl, hnm⟩) (ow5 hw) (ty := .long) (by decide) rfl rfl (g := (mkF m 6 #[.val (.ref a2_0), .val (.long q2_1), .second, .val (.long q2_2), .second, .val (.long q2_3), .second, .val (.long q2_4), .second, .val .null] [(.long q2_1), (.ref a2_0)])) rfl rfl (hb hby d2_6)
  have F2 := F_remaining_a2_0.same W2
  have K2 : Keep h0 h2 [a2_0] := (Keep.refl h0 [a2_0]).wr W2 (Or.inl (List.mem_of_getElem? (i := 0) rfl))
  have Z2 : n0 ≤ h2.size := Nat.le_trans Z0 K2.1
  have N2 := Fr.snoc X2 N1 g_a2_0
  have f3 := (E_a2_0.wr W2)
  have f4 := (F_waitMillis_a2_0.other W2 (Or.inr (slot_ne (Or.inr (ow20 hw)) (Or.inr (ow18 hw)) (by decide) (t := .long) (t' := .long) (by decide) (by decide))))
  obtain ⟨T5, h5, X5, e5, W5, st5⟩ := putF X2 hx hZ hown (host := "") (Or.inl (ow19 hw)) Via.refl e2 f4 f3 (Or.inr ⟨(ow20 hw), rfl, hnm⟩) (ow5 hw) (ty := .long) (by decide) rfl rfl (g := (mkF m 11 #[.val (.ref a2_0), .val (.long q2_1), .second, .val (.long q2_2), .second, .val (.long q2_3), .second, .val (.long q2_4), .second, .val .null] [(.long q2_2), (.ref a2_0)])) rfl rfl (hb hby d2_11)
  have F5 := f4.same W5
  have K5 : Keep h0 h5 [a2_0] := K2.wr W5 (Or.inl (List.mem_of_getElem? (i := 0) rfl))
  have Z5 : n0 ≤ h5.size := Nat.le_trans Z0 K5.1
  have N5 := Fr.snoc X5 N2 g_a2_0
  have f6 := (f3.wr W5)
  have f7 := ((F_lagMillis_a2_0.other W2 (Or.inr (slot_ne (Or.inr (ow22 hw)) (Or.inr (ow18 hw)) (by decide) (t := .long) (t' := .long) (by decide) (by decide)))).other W5 (Or.inr (slot_ne (Or.inr (ow22 hw)) (Or.inr (ow20 hw)) (by decide) (t := .long) (t' := .long) (by decide) (by decide))))
  obtain ⟨T8, h8, X8, e8, W8, st8⟩ := putF X5 hx hZ hown (host := "") (Or.inl (ow21 hw)) Via.refl e5 f7 f6 (Or.inr ⟨(ow22 hw), rfl, hnm⟩) (ow5 hw) (ty := .long) (by decide) rfl rfl (g := (mkF m 17 #[.val (.ref a2_0), .val (.long q2_1), .second, .val (.long q2_2), .second, .val (.long q2_3), .second, .val (.long q2_4), .second, .val .null] [(.long q2_3), (.ref a2_0)])) rfl rfl (hb hby d2_17)
  have F8 := f7.same W8
  have K8 : Keep h0 h8 [a2_0] := K5.wr W8 (Or.inl (List.mem_of_getElem? (i := 0) rfl))
  have Z8 : n0 ≤ h8.size := Nat.le_trans Z0 K8.1
  have N8 := Fr.snoc X8 N5 g_a2_0
  have f9 := (f6.wr W8)
  have f10 := (((F_livesMillis_a2_0.other W2 (Or.inr (slot_ne (Or.inr (ow24 hw)) (Or.inr (ow18 hw)) (by decide) (t := .long) (t' := .long) (by decide) (by decide)))).other W5 (Or.inr (slot_ne (Or.inr (ow24 hw)) (Or.inr (ow20 hw)) (by decide) (t := .long) (t' := .long) (by decide) (by decide)))).other W8 (Or.inr (slot_ne (Or.inr (ow24 hw)) (Or.inr (ow22 hw)) (by decide) (t := .long) (t' := .long) (by decide) (by decide))))
  obtain ⟨T11, h11, X11, e11, W11, st11⟩ := putF X8 hx hZ hown (host := "") (Or.inl (ow23 hw)) Via.refl e8 f10 f9 (Or.inr ⟨(ow24 hw), rfl, hnm⟩) (ow5 hw) (ty := .long) (by decide) rfl rfl (g := (mkF m 23 #[.val (.ref a2_0), .val (.long q2_1), .second, .val (.long q2_2), .second, .val (.long q2_3), .second, .val (.long q2_4), .second, .val .null] [(.long q2_4), (.ref a2_0)])) rfl rfl (hb hby d2_23)
  have F11 := f10.same W11
  have K11 : Keep h0 h11 [a2_0] := K8.wr W11 (Or.inl (List.mem_of_getElem? (i := 0) rfl))
  have Z11 : n0 ≤ h11.size := Nat.le_trans Z0 K11.1
  have N11 := Fr.snoc X11 N8 g_a2_0
  have f12 := (f9.wr W11)
  have f13 := ((((F_take_a2_0.other W2 (Or.inr (slot_ne (Or.inr (ow26 hw)) (Or.inr (ow18 hw)) (by decide) (t := (.object "java/lang/Runnable")) (t' := .long) (by decide) (by decide)))).other W5 (Or.inr (slot_ne (Or.inr (ow26 hw)) (Or.inr (ow20 hw)) (by decide) (t := (.object "java/lang/Runnable")) (t' := .long) (by decide) (by decide)))).other W8 (Or.inr (slot_ne (Or.inr (ow26 hw)) (Or.inr (ow22 hw)) (by decide) (t := (.object "java/lang/Runnable")) (t' := .long) (by decide) (by decide)))).other W11 (Or.inr (slot_ne (Or.inr (ow26 hw)) (Or.inr (ow24 hw)) (by decide) (t := (.object "java/lang/Runnable")) (t' := .long) (by decide) (by decide))))
  obtain ⟨T14, h14, X14, e14, W14, st14⟩ := putF X11 hx hZ hown (host := "") (Or.inl (ow25 hw)) Via.refl e11 f13 f12 (Or.inr ⟨(ow26 hw), rfl, hnm⟩) (ow5 hw) (ty := (.object "java/lang/Runnable")) (by decide) rfl rfl (g := (mkF m 29 #[.val (.ref a2_0), .val (.long q2_1), .second, .val (.long q2_2), .second, .val (.long q2_3), .second, .val (.long q2_4), .second, .val .null] [.null, (.ref a2_0)])) rfl rfl (hb hby d2_29)
  have F14 := f13.same W14
  have K14 : Keep h0 h14 [a2_0] := K11.wr W14 (Or.inl (List.mem_of_getElem? (i := 0) rfl))
  have Z14 : n0 ≤ h14.size := Nat.le_trans Z0 K14.1
  have N14 := Fr.snoc X14 N11 g_a2_0
  obtain ⟨fs, hr, hrun, hended, hW, hsame⟩ := X14.leave (v := none) (fun _ => rfl)
  refine ⟨_, _, pre0 _ ?_, hrun, hended, _, _, rfl, ?_, ⟨_, rfl⟩, hW, hsame.mono (by decide) (by decide)⟩
  · show Steps p.tables e below (s₁.setTop (mkF m 0 #[.val (.ref a2_0), .val (.long q2_1), .second, .val (.long q2_2), .second, .val (.long q2_3), .second, .val (.long q2_4), .second, .val .null] [])) _
    refine XS.aloadN X0.here hx rfl (hb hby d2_0) rfl rfl ?_
    show Steps p.tables e below (s₁.setTop (mkF m 1 #[.val (.ref a2_0), .val (.long q2_1), .second, .val (.long q2_2), .second, .val (.long q2_3), .second, .val (.long q2_4), .second, .val .null] [(.ref a2_0)])) _
    refine st1.trans ?_
    show Steps p.tables e below (T1.setTop (mkF m 4 #[.val (.ref a2_0), .val (.long q2_1), .second, .val (.long q2_2), .second, .val (.long q2_3), .second, .val (.long q2_4), .second, .val .null] [])) _
    refine XS.aloadN X1.here hx rfl (hb hby d2_4) rfl rfl ?_
    show Steps p.tables e below (T1.setTop (mkF m 5 #[.val (.ref a2_0), .val (.long q2_1), .second, .val (.long q2_2), .second, .val (.long q2_3), .second, .val (.long q2_4), .second, .val .null] [(.ref a2_0)])) _
    refine XS.lloadN X1.here hx rfl (hb hby d2_5) rfl ?_
    show Steps p.tables e below (T1.setTop (mkF m 6 #[.val (.ref a2_0), .val (.long q2_1), .second, .val (.long q2_2), .second, .val (.long q2_3), .second, .val (.long q2_4), .second, .val .null] [(.long q2_1), (.ref a2_0)])) _
    refine st2 _ ?_
    show Steps p.tables e below (T2.setTop (mkF m 9 #[.val (.ref a2_0), .val (.long q2_1), .second, .val (.long q2_2), .second, .val (.long q2_3), .second, .val (.long q2_4), .second, .val .null] [])) _
    refine XS.aloadN X2.here hx rfl (hb hby d2_9) rfl rfl ?_
    show Steps p.tables e below (T2.setTop (mkF m 10 #[.val (.ref a2_0), .val (.long q2_1), .second, .val (.long q2_2), .second, .val (.long q2_3), .second, .val (.long q2_4), .second, .val .null] [(.ref a2_0)])) _
    refine XS.lloadN X2.here hx rfl (hb hby d2_10) rfl ?_
    show Steps p.tables e below (T2.setTop (mkF m 11 #[.val (.ref a2_0), .val (.long q2_1), .second, .val (.long q2_2), .second, .val (.long q2_3), .second, .val (.long q2_4), .second, .val .null] [(.long q2_2), (.ref a2_0)])) _
    refine st5 _ ?_
    show Steps p.tables e below (T5.setTop (mkF m 14 #[.val (.ref a2_0), .val (.long q2_1), .second, .val (.long q2_2), .second, .val (.long q2_3), .second, .val (.long q2_4), .second, .val .null] [])) _
    refine XS.aloadN X5.here hx rfl (hb hby d2_14) rfl rfl ?_
    show Steps p.tables e below (T5.setTop (mkF m 15 #[.val (.ref a2_0), .val (.long q2_1), .second, .val (.long q2_2), .second, .val (.long q2_3), .second, .val (.long q2_4), .second, .val .null] [(.ref a2_0)])) _
    refine XS.lload X5.here hx rfl (hb hby d2_15) rfl ?_
    show Steps p.tables e below (T5.setTop (mkF m 17 #[.val (.ref a2_0), .val (.long q2_1), .second, .val (.long q2_2), .second, .val (.long q2_3), .second, .val (.long q2_4), .second, .val .null] [(.long q2_3), (.ref a2_0)])) _
    refine st8 _ ?_
    show Steps p.tables e below (T8.setTop (mkF m 20 #[.val (.ref a2_0), .val (.long q2_1), .second, .val (.long q2_2), .second, .val (.long q2_3), .second, .val (.long q2_4), .second, .val .null] [])) _
    refine XS.aloadN X8.here hx rfl (hb hby d2_20) rfl rfl ?_
    show Steps p.tables e below (T8.setTop (mkF m 21 #[.val (.ref a2_0), .val (.long q2_1), .second, .val (.long q2_2), .second, .val (.long q2_3), .second, .val (.long q2_4), .second, .val .null] [(.ref a2_0)])) _
    refine XS.lload X8.here hx rfl (hb hby d2_21) rfl ?_
    show Steps p.tables e below (T8.setTop (mkF m 23 #[.val (.ref a2_0), .val (.long q2_1), .second, .val (.long q2_2), .second, .val (.long q2_3), .second, .val (.long q2_4), .second, .val .null] [(.long q2_4), (.ref a2_0)])) _
    refine st11 _ ?_
    show Steps p.tables e below (T11.setTop (mkF m 26 #[.val (.ref a2_0), .val (.long q2_1), .second, .val (.long q2_2), .second, .val (.long q2_3), .second, .val (.long q2_4), .second, .val .null] [])) _
    refine XS.aloadN X11.here hx rfl (hb hby d2_26) rfl rfl ?_
    show Steps p.tables e below (T11.setTop (mkF m 27 #[.val (.ref a2_0), .val (.long q2_1), .second, .val (.long q2_2), .second, .val (.long q2_3), .second, .val (.long q2_4), .second, .val .null] [(.ref a2_0)])) _
    refine XS.aload X11.here hx rfl (hb hby d2_27) rfl rfl ?_
    show Steps p.tables e below (T11.setTop (mkF m 29 #[.val (.ref a2_0), .val (.long q2_1), .second, .val (.long q2_2), .second, .val (.long q2_3), .second, .val (.long q2_4), .second, .val .null] [.null, (.ref a2_0)])) _
    refine st14 _ ?_
    show Steps p.tables e below (T14.setTop (mkF m 32 #[.val (.ref a2_0), .val (.long q2_1), .second, .val (.long q2_2), .second, .val (.long q2_3), .second, .val (.long q2_4), .second, .val .null] [])) _
    exact X14.returnOut hx Bd.returns (hb hby d2_32) hr
  · have f15 := (f12.wr W14)
    have f16 := ((((F2.other W5 (Or.inr (slot_ne (Or.inr (ow18 hw)) (Or.inr (ow20 hw)) (by decide) (t := .long) (t' := .long) (by decide) (by decide)))).other W8 (Or.inr (slot_ne (Or.inr (ow18 hw)) (Or.inr (ow22 hw)) (by decide) (t := .long) (t' := .long) (by decide) (by decide)))).other W11 (Or.inr (slot_ne (Or.inr (ow18 hw)) (Or.inr (ow24 hw)) (by decide) (t := .long) (t' := .long) (by decide) (by decide)))).other W14 (Or.inr (slot_ne (Or.inr (ow18 hw)) (Or.inr (ow26 hw)) (by decide) (t := .long) (t' := (.object "java/lang/Runnable")) (by decide) (by decide))))
    have f17 := (((F5.other W8 (Or.inr (slot_ne (Or.inr (ow20 hw)) (Or.inr (ow22 hw)) (by decide) (t := .long) (t' := .long) (by decide) (by decide)))).other W11 (Or.inr (slot_ne (Or.inr (ow20 hw)) (Or.inr (ow24 hw)) (by decide) (t := .long) (t' := .long) (by decide) (by decide)))).other W14 (Or.inr (slot_ne (Or.inr (ow20 hw)) (Or.inr (ow26 hw)) (by decide) (t := .long) (t' := (.object "java/lang/Runnable")) (by decide) (by decide))))
    have f18 := ((F8.other W11 (Or.inr (slot_ne (Or.inr (ow22 hw)) (Or.inr (ow24 hw)) (by decide) (t := .long) (t' := .long) (by decide) (by decide)))).other W14 (Or.inr (slot_ne (Or.inr (ow22 hw)) (Or.inr (ow26 hw)) (by decide) (t := .long) (t' := (.object "java/lang/Runnable")) (by decide) (by decide))))
    have f19 := (F11.other W14 (Or.inr (slot_ne (Or.inr (ow24 hw)) (Or.inr (ow26 hw)) (by decide) (t := .long) (t' := (.object "java/lang/Runnable")) (by decide) (by decide))))
    show Q_rm2 Z a2_0 q2_1 q2_2 q2_3 q2_4 w_remaining_a2_0 w_waitMillis_a2_0 w_lagMillis_a2_0 w_livesMillis_a2_0 h0 n0 _ T14.heap _
    rw [e14]
    exact ⟨rfl, N14, K14, f15, f16, f17, f18, f19, F14⟩
theorem pd__JJJJLjava_lang_Runnable__V : parseMethodDescriptor "(JJJJLjava/lang/Runnable;)V" = some ⟨[.long, .long, .long, .long, (.object "java/lang/Runnable")], none⟩ := by decide +kernel
theorem d1_0 : decode prog_9_method_3_code 0 = .ok (.new 8, 3) := by decide +kernel
theorem d1_3 : decode prog_9_method_3_code 3 = .ok (.dup, 1) := by decide +kernel
theorem d1_4 : decode prog_9_method_3_code 4 = .ok (.lload_n 0, 1) := by decide +kernel
theorem d1_5 : decode prog_9_method_3_code 5 = .ok (.lload_n 2, 1) := by decide +kernel
theorem d1_6 : decode prog_9_method_3_code 6 = .ok (.lload 4, 2) := by decide +kernel
theorem d1_8 : decode prog_9_method_3_code 8 = .ok (.lconst 0, 1) := by decide +kernel
theorem d1_9 : decode prog_9_method_3_code 9 = .ok (.aconst_null, 1) := by decide +kernel
theorem d1_10 : decode prog_9_method_3_code 10 = .ok (.invokespecial 26, 3) := by decide +kernel
theorem d1_13 : decode prog_9_method_3_code 13 = .ok (.areturn, 1) := by decide +kernel
theorem pn_1 : plainName "com/example/throttlua/throttlua/failure/Verdict" = true := by first | (simp [plainName, overriddenIn]; done) | decide +kernel
theorem ef_rm1 (m : MethodId) (y0 : Int64) (y1 : Int64) (y2 : Int64) : entryFrame m #[(.long y0), (.long y1), (.long y2)] 6 = mkF m 0 #[.val (.long y0), .second, .val (.long y1), .second, .val (.long y2), .second] [] := by first | (simp [entryFrame, mkF, argsToLocals, Value.category]; done) | rfl
def Q_rm1 (Z : State) (q1_0 : Int64) (q1_1 : Int64) (q1_2 : Int64) (h0 : Heap) (n0 : Nat) (v : Option Value) (h : Heap) (L : List Loc) : Prop := ∃ bx1_0 : Addr, v = some (.ref bx1_0) ∧ Fr n0 L ∧ Keep h0 h [] ∧ h0.size ≤ bx1_0 ∧ Exa Z h bx1_0 "com/example/throttlua/throttlua/failure/Verdict" ∧ Fld Z h bx1_0 "com/example/throttlua/throttlua/failure/Verdict" "remaining" "J" (.long q1_0) ∧ Fld Z h bx1_0 "com/example/throttlua/throttlua/failure/Verdict" "waitMillis" "J" (.long q1_1) ∧ Fld Z h bx1_0 "com/example/throttlua/throttlua/failure/Verdict" "lagMillis" "J" (.long q1_2) ∧ Fld Z h bx1_0 "com/example/throttlua/throttlua/failure/Verdict" "livesMillis" "J" (.long (0 : Int64)) ∧ Fld Z h bx1_0 "com/example/throttlua/throttlua/failure/Verdict" "take" "Ljava/lang/Runnable;" .null
set_option maxRecDepth 65536 in
set_option maxHeartbeats 40000000 in
theorem rm1 (l : Launch) (Z : State) (a0 : Array Value) (hw : ∀ d ∈ tables_1, d.before a0 Z = true) (ws : List Jvm.Cond) (q1_0 : Int64) (q1_1 : Int64) (q1_2 : Int64) (h0 : Heap) (n0 : Nat) (Z0 : n0 ≤ h0.size) :
    MetFree l (⟨"com/example/throttlua/throttlua/failure/Verdict", "refusing", "(JJJ)Lcom/example/throttlua/throttlua/failure/Verdict;"⟩ : MethodName) (head1 (Jvm.Cond.code (⟨"com/example/throttlua/throttlua/failure/Verdict", "refusing", "(JJJ)Lcom/example/throttlua/throttlua/failure/Verdict;"⟩ : MethodName) prog_9_method_3_code 6 (some (.object "com/example/throttlua/throttlua/failure/Verdict")) :: ws) ({ frames := 3, cells := 1, slots := 5, locals := 46 } : Room)) (fun a U => a = #[(.long q1_0), (.long q1_1), (.long q1_2)] ∧ Z.Warmed39 U.vm ∧ U.heap = h0) (fun _ _ _ _ _ => True) (fun _ U o U' => ∃ v L, o = .returned v ∧ Q_rm1 Z q1_0 q1_1 q1_2 h0 n0 v U'.heap L ∧ FrameEnd U o U' L ({ frames := 3, cells := 1, slots := 5, locals := 46 } : Room).cells ({ frames := 3, cells := 1, slots := 5, locals := 46 } : Room).slots) := by
  refine MetFree.of_bodySF (plainFor_of_name pn_1) hisR ?_
  intro p e s m args below meth c s₁ Bd hml0 hP hK
  obtain ⟨rfl, hZ, hh⟩ := hP
  have hx := Bd.exec
  have hby := Bd.bytes
  have hml : c.maxLocals = 6 := hml0
  have hown : s.vm.findClass "com/example/throttlua/throttlua/failure/Verdict" = some m.cls := findClass_of_methodNamed Bd.named
  have hnm := (name_of_methodNamed Bd.named Bd.method).1
  have X0 : Stand p l e ({ frames := 3, cells := 1, slots := 5, locals := 46 } : Room) s m #[(.long q1_0), (.long q1_1), (.long q1_2)] below meth c s₁ [] 0 0 := Stand.of_body Bd
  have e0 : s₁.heap = h0 := by rw [← hh, Bd.state]; rfl
  have N0 := Fr.nil n0
  have pre0 : ∀ t, Steps p.tables e below (s₁.setTop (mkF m 0 #[.val (.long q1_0), .second, .val (.long q1_1), .second, .val (.long q1_2), .second] [])) t → Steps p.tables e below (s₁.setTop (entryFrame m #[(.long q1_0), (.long q1_1), (.long q1_2)] 6)) t := fun t k => castTop (ef_rm1 m q1_0 q1_1 q1_2) k
  obtain ⟨T1, h1, X1, e1, E1, A1, D1, -, st1⟩ := newO X0 hx hZ hown (ow4 hw) (ow5 hw) (ow2 hw) e0 (g := (mkF m 0 #[.val (.long q1_0), .second, .val (.long q1_1), .second, .val (.long q1_2), .second] [])) rfl (hb hby d1_0) (by decide) (by decide)
  obtain ⟨b1, g1⟩ : ∃ z, z = h0.size := ⟨_, rfl⟩
  rw [← g1] at A1 D1 st1
  have F_remaining_b1 : Fld Z h1 b1 "com/example/throttlua/throttlua/failure/Verdict" "remaining" "J" (.long (0 : Int64)) := D1 (Or.inr (ow18 hw)) (ty := .long) (by decide)
  have F_waitMillis_b1 : Fld Z h1 b1 "com/example/throttlua/throttlua/failure/Verdict" "waitMillis" "J" (.long (0 : Int64)) := D1 (Or.inr (ow20 hw)) (ty := .long) (by decide)
  have F_lagMillis_b1 : Fld Z h1 b1 "com/example/throttlua/throttlua/failure/Verdict" "lagMillis" "J" (.long (0 : Int64)) := D1 (Or.inr (ow22 hw)) (ty := .long) (by decide)
  have F_livesMillis_b1 : Fld Z h1 b1 "com/example/throttlua/throttlua/failure/Verdict" "livesMillis" "J" (.long (0 : Int64)) := D1 (Or.inr (ow24 hw)) (ty := .long) (by decide)
  have F_take_b1 : Fld Z h1 b1 "com/example/throttlua/throttlua/failure/Verdict" "take" "Ljava/lang/Runnable;" .null := D1 (Or.inr (ow26 hw)) (ty := (.object "java/lang/Runnable")) (by decide)
  have g_b1 : n0 ≤ b1 := Nat.le_trans Z0 (Nat.le_of_eq g1.symm)
  have sz_b1 : h0.size ≤ b1 := Nat.le_trans (Nat.le_refl _) (Nat.le_of_eq g1.symm)
  have K1 : Keep h0 h1 [] := (Keep.refl h0 []).ext E1
  have Z1 : n0 ≤ h1.size := Nat.le_trans Z0 K1.1
  obtain ⟨_, _, ⟨T2, L2, k2, n2⟩, -, X2, ⟨Lc2, hQ2, l2, y2, z2⟩, st2⟩ := X1.specialBack hx (y := (⟨"com/example/throttlua/throttlua/failure/Verdict", "<init>", "(JJJJLjava/lang/Runnable;)V"⟩ : MethodName)) rfl hown (mvT hZ (ow6 hw)) (mvT hZ (ow7 hw)) (mvT hZ (ow8 hw)) (by decide) (backOf (W := 1) (rm2 l Z a0 hw [] b1 q1_0 q1_1 q1_2 (0 : Int64) (0 : Int64) (0 : Int64) (0 : Int64) (0 : Int64) h1 n0 Z1 A1 F_remaining_b1 g_b1 F_waitMillis_b1 F_lagMillis_b1 F_livesMillis_b1 F_take_b1) hZ (ow8 hw) (ow2 hw) (by decide) (by decide)) (g := (mkF m 10 #[.val (.long q1_0), .second, .val (.long q1_1), .second, .val (.long q1_2), .second] [.null, (.long (0 : Int64)), (.long q1_2), (.long q1_1), (.long q1_0), (.ref b1), (.ref b1)])) rfl (by rw [hml]; rfl) (Steps.refl _) (a := b1) (argsL := [(.long q1_0), (.long q1_1), (.long q1_2), (.long (0 : Int64)), .null]) (rest := [(.ref b1)]) (lenOf pd__JJJJLjava_lang_Runnable__V rfl) rfl (by show 2 * 0 + _ ≤ _; exact Nat.le_of_eq rfl) (hb hby d1_10) (fun _ _ => ⟨rfl, e1, (by decide : 1 + 0 ≤ _), (by decide : 5 + 0 ≤ _)⟩)
  dsimp only [Pt.U, Pt.locs, Pt.cells, Pt.slots] at X2 l2 y2 z2 st2 hQ2
  subst l2 y2 z2
  obtain ⟨rfl, Nq2, Kc2, P2_0, P2_1, P2_2, P2_3, P2_4, P2_5⟩ := hQ2
  have K2 : Keep h0 T2.heap [] := Keep.trans K1 Kc2 (allS (P := fun x => x ∈ ([] : List Addr) ∨ h0.size ≤ x) (Or.inr sz_b1) all0)
  have Z2 : n0 ≤ T2.heap.size := Nat.le_trans Z0 K2.1
  have N2 := Fr.app N0 Nq2
  obtain ⟨fs, hr, hrun, hended, hW, hsame⟩ := X2.leave (v := some (.ref b1)) (fun h => by rw [Bd.returns] at h; cases h)
  refine ⟨_, _, pre0 _ ?_, hrun, hended, _, _, rfl, ?_, ⟨_, rfl⟩, hW, hsame.mono (by decide) (by decide)⟩
  · show Steps p.tables e below (s₁.setTop (mkF m 0 #[.val (.long q1_0), .second, .val (.long q1_1), .second, .val (.long q1_2), .second] [])) _
    refine st1 _ ?_
    show Steps p.tables e below (T1.setTop (mkF m 3 #[.val (.long q1_0), .second, .val (.long q1_1), .second, .val (.long q1_2), .second] [(.ref b1)])) _
    refine XS.dup X1.here hx rfl (hb hby d1_3) rfl rfl ?_
    show Steps p.tables e below (T1.setTop (mkF m 4 #[.val (.long q1_0), .second, .val (.long q1_1), .second, .val (.long q1_2), .second] [(.ref b1), (.ref b1)])) _
    refine XS.lloadN X1.here hx rfl (hb hby d1_4) rfl ?_
    show Steps p.tables e below (T1.setTop (mkF m 5 #[.val (.long q1_0), .second, .val (.long q1_1), .second, .val (.long q1_2), .second] [(.long q1_0), (.ref b1), (.ref b1)])) _
    refine XS.lloadN X1.here hx rfl (hb hby d1_5) rfl ?_
    show Steps p.tables e below (T1.setTop (mkF m 6 #[.val (.long q1_0), .second, .val (.long q1_1), .second, .val (.long q1_2), .second] [(.long q1_1), (.long q1_0), (.ref b1), (.ref b1)])) _
    refine XS.lload X1.here hx rfl (hb hby d1_6) rfl ?_
    show Steps p.tables e below (T1.setTop (mkF m 8 #[.val (.long q1_0), .second, .val (.long q1_1), .second, .val (.long q1_2), .second] [(.long q1_2), (.long q1_1), (.long q1_0), (.ref b1), (.ref b1)])) _
    refine XS.lconst X1.here hx rfl (hb hby d1_8) ?_
    show Steps p.tables e below (T1.setTop (mkF m 9 #[.val (.long q1_0), .second, .val (.long q1_1), .second, .val (.long q1_2), .second] [(.long (0 : Int64)), (.long q1_2), (.long q1_1), (.long q1_0), (.ref b1), (.ref b1)])) _
    refine XS.aconstNull X1.here hx rfl (hb hby d1_9) ?_
    show Steps p.tables e below (T1.setTop (mkF m 10 #[.val (.long q1_0), .second, .val (.long q1_1), .second, .val (.long q1_2), .second] [.null, (.long (0 : Int64)), (.long q1_2), (.long q1_1), (.long q1_0), (.ref b1), (.ref b1)])) _
    refine st2.trans ?_
    show Steps p.tables e below (T2.setTop (mkF m 13 #[.val (.long q1_0), .second, .val (.long q1_1), .second, .val (.long q1_2), .second] [(.ref b1)])) _
    jvm_step X2.here [X2.here.top, hx, (hb hby d1_13), X2.method', Bd.returns, Value.isRef, FieldType.isReference]
    first | (intro acts; rw [hr _ acts rfl rfl rfl]) | rw [hr _ _ rfl rfl rfl]
    exact Steps.refl _
  · show Q_rm1 Z q1_0 q1_1 q1_2 h0 n0 _ T2.heap _
    exact ⟨b1, rfl, N2, K2, sz_b1, P2_0, P2_1, P2_2, P2_3, P2_4, P2_5⟩
theorem d5_0 : decode prog_9_method_8_code 0 = .ok (.aload_n 0, 1) := by decide +kernel
theorem d5_1 : decode prog_9_method_8_code 1 = .ok (.getfield 7, 3) := by decide +kernel
theorem d5_4 : decode prog_9_method_8_code 4 = .ok (.lreturn, 1) := by decide +kernel
theorem pn_5 : plainName "com/example/throttlua/throttlua/failure/Verdict" = true := by first | (simp [plainName, overriddenIn]; done) | decide +kernel
theorem ef_rm5 (m : MethodId) (y0 : Addr) : entryFrame m #[(.ref y0)] 1 = mkF m 0 #[.val (.ref y0)] [] := by first | (simp [entryFrame, mkF, argsToLocals, Value.category]; done) | rfl
def Q_rm5 (Z : State) (a5_0 : Addr) (w_remaining_a5_0 : Int64) (h0 : Heap) (n0 : Nat) (v : Option Value) (h : Heap) (L : List Loc) : Prop := v = some (.long w_remaining_a5_0) ∧ Fr n0 L ∧ h = h0
set_option maxRecDepth 65536 in
set_option maxHeartbeats 40000000 in
theorem rm5 (l : Launch) (Z : State) (a0 : Array Value) (hw : ∀ d ∈ tables_1, d.before a0 Z = true) (ws : List Jvm.Cond) (a5_0 : Addr) (w_remaining_a5_0 : Int64) (h0 : Heap) (n0 : Nat) (Z0 : n0 ≤ h0.size) (F_remaining_a5_0 : Fld Z h0 a5_0 "com/example/throttlua/throttlua/failure/Verdict" "remaining" "J" (.long w_remaining_a5_0)) :
    MetFree l (⟨"com/example/throttlua/throttlua/failure/Verdict", "remaining", "()J"⟩ : MethodName) (head1 (Jvm.Cond.code (⟨"com/example/throttlua/throttlua/failure/Verdict", "remaining", "()J"⟩ : MethodName) prog_9_method_8_code 1 (some .long) :: ws) ({ frames := 0, cells := 0, slots := 0, locals := 0 } : Room)) (fun a U => a = #[(.ref a5_0)] ∧ Z.Warmed39 U.vm ∧ U.heap = h0) (fun _ _ _ _ _ => True) (fun _ U o U' => ∃ v L, o = .returned v ∧ Q_rm5 Z a5_0 w_remaining_a5_0 h0 n0 v U'.heap L ∧ FrameEnd U o U' L ({ frames := 0, cells := 0, slots := 0, locals := 0 } : Room).cells ({ frames := 0, cells := 0, slots := 0, locals := 0 } : Room).slots) := by
  refine MetFree.of_bodySF (plainFor_of_name pn_5) hisR ?_
  intro p e s m args below meth c s₁ Bd hml0 hP hK
  obtain ⟨rfl, hZ, hh⟩ := hP
  have hx := Bd.exec
  have hby := Bd.bytes
  have hml : c.maxLocals = 1 := hml0
  have hown : s.vm.findClass "com/example/throttlua/throttlua/failure/Verdict" = some m.cls := findClass_of_methodNamed Bd.named
  have hnm := (name_of_methodNamed Bd.named Bd.method).1
  have X0 : Stand p l e ({ frames := 0, cells := 0, slots := 0, locals := 0 } : Room) s m #[(.ref a5_0)] below meth c s₁ [] 0 0 := Stand.of_body Bd
  have e0 : s₁.heap = h0 := by rw [← hh, Bd.state]; rfl
  have N0 := Fr.nil n0
  have pre0 : ∀ t, Steps p.tables e below (s₁.setTop (mkF m 0 #[.val (.ref a5_0)] [])) t → Steps p.tables e below (s₁.setTop (entryFrame m #[(.ref a5_0)] 1)) t := fun t k => castTop (ef_rm5 m a5_0) k
  obtain ⟨T1, X1, e1, st1⟩ := getF X0 hx hZ hown (host := "") (Or.inl (ow17 hw)) Via.refl e0 F_remaining_a5_0 (g := (mkF m 1 #[.val (.ref a5_0)] [(.ref a5_0)])) rfl rfl (hb hby d5_1)
  obtain ⟨fs, hr, hrun, hended, hW, hsame⟩ := X1.leave (v := some (.long w_remaining_a5_0)) (fun h => by rw [Bd.returns] at h; cases h)
  refine ⟨_, _, pre0 _ ?_, hrun, hended, _, _, rfl, ?_, ⟨_, rfl⟩, hW, hsame.mono (by decide) (by decide)⟩
  · show Steps p.tables e below (s₁.setTop (mkF m 0 #[.val (.ref a5_0)] [])) _
    refine XS.aloadN X0.here hx rfl (hb hby d5_0) rfl rfl ?_
    show Steps p.tables e below (s₁.setTop (mkF m 1 #[.val (.ref a5_0)] [(.ref a5_0)])) _
    refine st1 _ ?_
    show Steps p.tables e below (T1.setTop (mkF m 4 #[.val (.ref a5_0)] [(.long w_remaining_a5_0)])) _
    jvm_step X1.here [X1.here.top, hx, (hb hby d5_4), X1.method', Bd.returns, narrow]
    first | (intro acts; rw [hr _ acts rfl rfl rfl]) | rw [hr _ _ rfl rfl rfl]
    exact Steps.refl _
  · show Q_rm5 Z a5_0 w_remaining_a5_0 h0 n0 _ T1.heap _
    rw [e1]
    exact ⟨rfl, N0, rfl⟩
theorem d6_0 : decode prog_9_method_9_code 0 = .ok (.aload_n 0, 1) := by decide +kernel
theorem d6_1 : decode prog_9_method_9_code 1 = .ok (.getfield 13, 3) := by decide +kernel
theorem d6_4 : decode prog_9_method_9_code 4 = .ok (.lreturn, 1) := by decide +kernel
theorem pn_6 : plainName "com/example/throttlua/throttlua/failure/Verdict" = true := by first | (simp [plainName, overriddenIn]; done) | decide +kernel
theorem ef_rm6 (m : MethodId) (y0 : Addr) : entryFrame m #[(.ref y0)] 1 = mkF m 0 #[.val (.ref y0)] [] := by first | (simp [entryFrame, mkF, argsToLocals, Value.category]; done) | rfl
def Q_rm6 (Z : State) (a6_0 : Addr) (w_waitMillis_a6_0 : Int64) (h0 : Heap) (n0 : Nat) (v : Option Value) (h : Heap) (L : List Loc) : Prop := v = some (.long w_waitMillis_a6_0) ∧ Fr n0 L ∧ h = h0
set_option maxRecDepth 65536 in
set_option maxHeartbeats 40000000 in
theorem rm6 (l : Launch) (Z : State) (a0 : Array Value) (hw : ∀ d ∈ tables_1, d.before a0 Z = true) (ws : List Jvm.Cond) (a6_0 : Addr) (w_waitMillis_a6_0 : Int64) (h0 : Heap) (n0 : Nat) (Z0 : n0 ≤ h0.size) (F_waitMillis_a6_0 : Fld Z h0 a6_0 "com/example/throttlua/throttlua/failure/Verdict" "waitMillis" "J" (.long w_waitMillis_a6_0)) :
    MetFree l (⟨"com/example/throttlua/throttlua/failure/Verdict", "waitMillis", "()J"⟩ : MethodName) (head1 (Jvm.Cond.code (⟨"com/example/throttlua/throttlua/failure/Verdict", "waitMillis", "()J"⟩ : MethodName) prog_9_method_9_code 1 (some .long) :: ws) ({ frames := 0, cells := 0, slots := 0, locals := 0 } : Room)) (fun a U => a = #[(.ref a6_0)] ∧ Z.Warmed39 U.vm ∧ U.heap = h0) (fun _ _ _ _ _ => True) (fun _ U o U' => ∃ v L, o = .returned v ∧ Q_rm6 Z a6_0 w_waitMillis_a6_0 h0 n0 v U'.heap L ∧ FrameEnd U o U' L ({ frames := 0, cells := 0, slots := 0, locals := 0 } : Room).cells ({ frames := 0, cells := 0, slots := 0, locals := 0 } : Room).slots) := by
  refine MetFree.of_bodySF (plainFor_of_name pn_6) hisR ?_
  intro p e s m args below meth c s₁ Bd hml0 hP hK
  obtain ⟨rfl, hZ, hh⟩ := hP
  have hx := Bd.exec
  have hby := Bd.bytes
  have hml : c.maxLocals = 1 := hml0
  have hown : s.vm.findClass "com/example/throttlua/throttlua/failure/Verdict" = some m.cls := findClass_of_methodNamed Bd.named
  have hnm := (name_of_methodNamed Bd.named Bd.method).1
  have X0 : Stand p l e ({ frames := 0, cells := 0, slots := 0, locals := 0 } : Room) s m #[(.ref a6_0)] below meth c s₁ [] 0 0 := Stand.of_body Bd
  have e0 : s₁.heap = h0 := by rw [← hh, Bd.state]; rfl
  have N0 := Fr.nil n0
  have pre0 : ∀ t, Steps p.tables e below (s₁.setTop (mkF m 0 #[.val (.ref a6_0)] [])) t → Steps p.tables e below (s₁.setTop (entryFrame m #[(.ref a6_0)] 1)) t := fun t k => castTop (ef_rm6 m a6_0) k
  obtain ⟨T1, X1, e1, st1⟩ := getF X0 hx hZ hown (host := "") (Or.inl (ow19 hw)) Via.refl e0 F_waitMillis_a6_0 (g := (mkF m 1 #[.val (.ref a6_0)] [(.ref a6_0)])) rfl rfl (hb hby d6_1)
  obtain ⟨fs, hr, hrun, hended, hW, hsame⟩ := X1.leave (v := some (.long w_waitMillis_a6_0)) (fun h => by rw [Bd.returns] at h; cases h)
  refine ⟨_, _, pre0 _ ?_, hrun, hended, _, _, rfl, ?_, ⟨_, rfl⟩, hW, hsame.mono (by decide) (by decide)⟩
  · show Steps p.tables e below (s₁.setTop (mkF m 0 #[.val (.ref a6_0)] [])) _
    refine XS.aloadN X0.here hx rfl (hb hby d6_0) rfl rfl ?_
    show Steps p.tables e below (s₁.setTop (mkF m 1 #[.val (.ref a6_0)] [(.ref a6_0)])) _
    refine st1 _ ?_
    show Steps p.tables e below (T1.setTop (mkF m 4 #[.val (.ref a6_0)] [(.long w_waitMillis_a6_0)])) _
    jvm_step X1.here [X1.here.top, hx, (hb hby d6_4), X1.method', Bd.returns, narrow]
    first | (intro acts; rw [hr _ acts rfl rfl rfl]) | rw [hr _ _ rfl rfl rfl]
    exact Steps.refl _
  · show Q_rm6 Z a6_0 w_waitMillis_a6_0 h0 n0 _ T1.heap _
    rw [e1]
    exact ⟨rfl, N0, rfl⟩
theorem d7_0 : decode prog_9_method_10_code 0 = .ok (.aload_n 0, 1) := by decide +kernel
theorem d7_1 : decode prog_9_method_10_code 1 = .ok (.getfield 16, 3) := by decide +kernel
theorem d7_4 : decode prog_9_method_10_code 4 = .ok (.lreturn, 1) := by decide +kernel
theorem pn_7 : plainName "com/example/throttlua/throttlua/failure/Verdict" = true := by first | (simp [plainName, overriddenIn]; done) | decide +kernel
theorem ef_rm7 (m : MethodId) (y0 : Addr) : entryFrame m #[(.ref y0)] 1 = mkF m 0 #[.val (.ref y0)] [] := by first | (simp [entryFrame, mkF, argsToLocals, Value.category]; done) | rfl
def Q_rm7 (Z : State) (a7_0 : Addr) (w_lagMillis_a7_0 : Int64) (h0 : Heap) (n0 : Nat) (v : Option Value) (h : Heap) (L : List Loc) : Prop := v = some (.long w_lagMillis_a7_0) ∧ Fr n0 L ∧ h = h0
set_option maxRecDepth 65536 in
set_option maxHeartbeats 40000000 in
theorem rm7 (l : Launch) (Z : State) (a0 : Array Value) (hw : ∀ d ∈ tables_1, d.before a0 Z = true) (ws : List Jvm.Cond) (a7_0 : Addr) (w_lagMillis_a7_0 : Int64) (h0 : Heap) (n0 : Nat) (Z0 : n0 ≤ h0.size) (F_lagMillis_a7_0 : Fld Z h0 a7_0 "com/example/throttlua/throttlua/failure/Verdict" "lagMillis" "J" (.long w_lagMillis_a7_0)) :
    MetFree l (⟨"com/example/throttlua/throttlua/failure/Verdict", "lagMillis", "()J"⟩ : MethodName) (head1 (Jvm.Cond.code (⟨"com/example/throttlua/throttlua/failure/Verdict", "lagMillis", "()J"⟩ : MethodName) prog_9_method_10_code 1 (some .long) :: ws) ({ frames := 0, cells := 0, slots := 0, locals := 0 } : Room)) (fun a U => a = #[(.ref a7_0)] ∧ Z.Warmed39 U.vm ∧ U.heap = h0) (fun _ _ _ _ _ => True) (fun _ U o U' => ∃ v L, o = .returned v ∧ Q_rm7 Z a7_0 w_lagMillis_a7_0 h0 n0 v U'.heap L ∧ FrameEnd U o U' L ({ frames := 0, cells := 0, slots := 0, locals := 0 } : Room).cells ({ frames := 0, cells := 0, slots := 0, locals := 0 } : Room).slots) := by
  refine MetFree.of_bodySF (plainFor_of_name pn_7) hisR ?_
  intro p e s m args below meth c s₁ Bd hml0 hP hK
  obtain ⟨rfl, hZ, hh⟩ := hP
  have hx := Bd.exec
  have hby := Bd.bytes
  have hml : c.maxLocals = 1 := hml0
  have hown : s.vm.findClass "com/example/throttlua/throttlua/failure/Verdict" = some m.cls := findClass_of_methodNamed Bd.named
  have hnm := (name_of_methodNamed Bd.named Bd.method).1
  have X0 : Stand p l e ({ frames := 0, cells := 0, slots := 0, locals := 0 } : Room) s m #[(.ref a7_0)] below meth c s₁ [] 0 0 := Stand.of_body Bd
  have e0 : s₁.heap = h0 := by rw [← hh, Bd.state]; rfl
  have N0 := Fr.nil n0
  have pre0 : ∀ t, Steps p.tables e below (s₁.setTop (mkF m 0 #[.val (.ref a7_0)] [])) t → Steps p.tables e below (s₁.setTop (entryFrame m #[(.ref a7_0)] 1)) t := fun t k => castTop (ef_rm7 m a7_0) k
  obtain ⟨T1, X1, e1, st1⟩ := getF X0 hx hZ hown (host := "") (Or.inl (ow21 hw)) Via.refl e0 F_lagMillis_a7_0 (g := (mkF m 1 #[.val (.ref a7_0)] [(.ref a7_0)])) rfl rfl (hb hby d7_1)
  obtain ⟨fs, hr, hrun, hended, hW, hsame⟩ := X1.leave (v := some (.long w_lagMillis_a7_0)) (fun h => by rw [Bd.returns] at h; cases h)
  refine ⟨_, _, pre0 _ ?_, hrun, hended, _, _, rfl, ?_, ⟨_, rfl⟩, hW, hsame.mono (by decide) (by decide)⟩
  · show Steps p.tables e below (s₁.setTop (mkF m 0 #[.val (.ref a7_0)] [])) _
    refine XS.aloadN X0.here hx rfl (hb hby d7_0) rfl rfl ?_
    show Steps p.tables e below (s₁.setTop (mkF m 1 #[.val (.ref a7_0)] [(.ref a7_0)])) _
    refine st1 _ ?_
    show Steps p.tables e below (T1.setTop (mkF m 4 #[.val (.ref a7_0)] [(.long w_lagMillis_a7_0)])) _
    jvm_step X1.here [X1.here.top, hx, (hb hby d7_4), X1.method', Bd.returns, narrow]
    first | (intro acts; rw [hr _ acts rfl rfl rfl]) | rw [hr _ _ rfl rfl rfl]
    exact Steps.refl _
  · show Q_rm7 Z a7_0 w_lagMillis_a7_0 h0 n0 _ T1.heap _
    rw [e1]
    exact ⟨rfl, N0, rfl⟩
theorem d8_0 : decode prog_9_method_11_code 0 = .ok (.aload_n 0, 1) := by decide +kernel
theorem d8_1 : decode prog_9_method_11_code 1 = .ok (.getfield 19, 3) := by decide +kernel
theorem d8_4 : decode prog_9_method_11_code 4 = .ok (.lreturn, 1) := by decide +kernel
theorem pn_8 : plainName "com/example/throttlua/throttlua/failure/Verdict" = true := by first | (simp [plainName, overriddenIn]; done) | decide +kernel
theorem ef_rm8 (m : MethodId) (y0 : Addr) : entryFrame m #[(.ref y0)] 1 = mkF m 0 #[.val (.ref y0)] [] := by first | (simp [entryFrame, mkF, argsToLocals, Value.category]; done) | rfl
def Q_rm8 (Z : State) (a8_0 : Addr) (w_livesMillis_a8_0 : Int64) (h0 : Heap) (n0 : Nat) (v : Option Value) (h : Heap) (L : List Loc) : Prop := v = some (.long w_livesMillis_a8_0) ∧ Fr n0 L ∧ h = h0
set_option maxRecDepth 65536 in
set_option maxHeartbeats 40000000 in
theorem rm8 (l : Launch) (Z : State) (a0 : Array Value) (hw : ∀ d ∈ tables_1, d.before a0 Z = true) (ws : List Jvm.Cond) (a8_0 : Addr) (w_livesMillis_a8_0 : Int64) (h0 : Heap) (n0 : Nat) (Z0 : n0 ≤ h0.size) (F_livesMillis_a8_0 : Fld Z h0 a8_0 "com/example/throttlua/throttlua/failure/Verdict" "livesMillis" "J" (.long w_livesMillis_a8_0)) :
    MetFree l (⟨"com/example/throttlua/throttlua/failure/Verdict", "livesMillis", "()J"⟩ : MethodName) (head1 (Jvm.Cond.code (⟨"com/example/throttlua/throttlua/failure/Verdict", "livesMillis", "()J"⟩ : MethodName) prog_9_method_11_code 1 (some .long) :: ws) ({ frames := 0, cells := 0, slots := 0, locals := 0 } : Room)) (fun a U => a = #[(.ref a8_0)] ∧ Z.Warmed39 U.vm ∧ U.heap = h0) (fun _ _ _ _ _ => True) (fun _ U o U' => ∃ v L, o = .returned v ∧ Q_rm8 Z a8_0 w_livesMillis_a8_0 h0 n0 v U'.heap L ∧ FrameEnd U o U' L ({ frames := 0, cells := 0, slots := 0, locals := 0 } : Room).cells ({ frames := 0, cells := 0, slots := 0, locals := 0 } : Room).slots) := by
  refine MetFree.of_bodySF (plainFor_of_name pn_8) hisR ?_
  intro p e s m args below meth c s₁ Bd hml0 hP hK
  obtain ⟨rfl, hZ, hh⟩ := hP
  have hx := Bd.exec
  have hby := Bd.bytes
  have hml : c.maxLocals = 1 := hml0
  have hown : s.vm.findClass "com/example/throttlua/throttlua/failure/Verdict" = some m.cls := findClass_of_methodNamed Bd.named
  have hnm := (name_of_methodNamed Bd.named Bd.method).1
  have X0 : Stand p l e ({ frames := 0, cells := 0, slots := 0, locals := 0 } : Room) s m #[(.ref a8_0)] below meth c s₁ [] 0 0 := Stand.of_body Bd
  have e0 : s₁.heap = h0 := by rw [← hh, Bd.state]; rfl
  have N0 := Fr.nil n0
  have pre0 : ∀ t, Steps p.tables e below (s₁.setTop (mkF m 0 #[.val (.ref a8_0)] [])) t → Steps p.tables e below (s₁.setTop (entryFrame m #[(.ref a8_0)] 1)) t := fun t k => castTop (ef_rm8 m a8_0) k
  obtain ⟨T1, X1, e1, st1⟩ := getF X0 hx hZ hown (host := "") (Or.inl (ow23 hw)) Via.refl e0 F_livesMillis_a8_0 (g := (mkF m 1 #[.val (.ref a8_0)] [(.ref a8_0)])) rfl rfl (hb hby d8_1)
  obtain ⟨fs, hr, hrun, hended, hW, hsame⟩ := X1.leave (v := some (.long w_livesMillis_a8_0)) (fun h => by rw [Bd.returns] at h; cases h)
  refine ⟨_, _, pre0 _ ?_, hrun, hended, _, _, rfl, ?_, ⟨_, rfl⟩, hW, hsame.mono (by decide) (by decide)⟩
  · show Steps p.tables e below (s₁.setTop (mkF m 0 #[.val (.ref a8_0)] [])) _
    refine XS.aloadN X0.here hx rfl (hb hby d8_0) rfl rfl ?_
    show Steps p.tables e below (s₁.setTop (mkF m 1 #[.val (.ref a8_0)] [(.ref a8_0)])) _
    refine st1 _ ?_
    show Steps p.tables e below (T1.setTop (mkF m 4 #[.val (.ref a8_0)] [(.long w_livesMillis_a8_0)])) _
    jvm_step X1.here [X1.here.top, hx, (hb hby d8_4), X1.method', Bd.returns, narrow]
    first | (intro acts; rw [hr _ acts rfl rfl rfl]) | rw [hr _ _ rfl rfl rfl]
    exact Steps.refl _
  · show Q_rm8 Z a8_0 w_livesMillis_a8_0 h0 n0 _ T1.heap _
    rw [e1]
    exact ⟨rfl, N0, rfl⟩
theorem d9_0 : decode prog_9_method_12_code 0 = .ok (.aload_n 0, 1) := by decide +kernel
theorem d9_1 : decode prog_9_method_12_code 1 = .ok (.getfield 22, 3) := by decide +kernel
theorem d9_4 : decode prog_9_method_12_code 4 = .ok (.areturn, 1) := by decide +kernel
theorem pn_9 : plainName "com/example/throttlua/throttlua/failure/Verdict" = true := by first | (simp [plainName, overriddenIn]; done) | decide +kernel
theorem ef_rm9 (m : MethodId) (y0 : Addr) : entryFrame m #[(.ref y0)] 1 = mkF m 0 #[.val (.ref y0)] [] := by first | (simp [entryFrame, mkF, argsToLocals, Value.category]; done) | rfl
def Q_rm9 (Z : State) (a9_0 : Addr) (h0 : Heap) (n0 : Nat) (v : Option Value) (h : Heap) (L : List Loc) : Prop := v = some .null ∧ Fr n0 L ∧ h = h0
set_option maxRecDepth 65536 in
set_option maxHeartbeats 40000000 in
theorem rm9 (l : Launch) (Z : State) (a0 : Array Value) (hw : ∀ d ∈ tables_1, d.before a0 Z = true) (ws : List Jvm.Cond) (a9_0 : Addr) (h0 : Heap) (n0 : Nat) (Z0 : n0 ≤ h0.size) (F_take_a9_0 : Fld Z h0 a9_0 "com/example/throttlua/throttlua/failure/Verdict" "take" "Ljava/lang/Runnable;" .null) :
    MetFree l (⟨"com/example/throttlua/throttlua/failure/Verdict", "take", "()Ljava/lang/Runnable;"⟩ : MethodName) (head1 (Jvm.Cond.code (⟨"com/example/throttlua/throttlua/failure/Verdict", "take", "()Ljava/lang/Runnable;"⟩ : MethodName) prog_9_method_12_code 1 (some (.object "java/lang/Runnable")) :: ws) ({ frames := 0, cells := 0, slots := 0, locals := 0 } : Room)) (fun a U => a = #[(.ref a9_0)] ∧ Z.Warmed39 U.vm ∧ U.heap = h0) (fun _ _ _ _ _ => True) (fun _ U o U' => ∃ v L, o = .returned v ∧ Q_rm9 Z a9_0 h0 n0 v U'.heap L ∧ FrameEnd U o U' L ({ frames := 0, cells := 0, slots := 0, locals := 0 } : Room).cells ({ frames := 0, cells := 0, slots := 0, locals := 0 } : Room).slots) := by
  refine MetFree.of_bodySF (plainFor_of_name pn_9) hisR ?_
  intro p e s m args below meth c s₁ Bd hml0 hP hK
  obtain ⟨rfl, hZ, hh⟩ := hP
  have hx := Bd.exec
  have hby := Bd.bytes
  have hml : c.maxLocals = 1 := hml0
  have hown : s.vm.findClass "com/example/throttlua/throttlua/failure/Verdict" = some m.cls := findClass_of_methodNamed Bd.named
  have hnm := (name_of_methodNamed Bd.named Bd.method).1
  have X0 : Stand p l e ({ frames := 0, cells := 0, slots := 0, locals := 0 } : Room) s m #[(.ref a9_0)] below meth c s₁ [] 0 0 := Stand.of_body Bd
  have e0 : s₁.heap = h0 := by rw [← hh, Bd.state]; rfl
  have N0 := Fr.nil n0
  have pre0 : ∀ t, Steps p.tables e below (s₁.setTop (mkF m 0 #[.val (.ref a9_0)] [])) t → Steps p.tables e below (s₁.setTop (entryFrame m #[(.ref a9_0)] 1)) t := fun t k => castTop (ef_rm9 m a9_0) k
  obtain ⟨T1, X1, e1, st1⟩ := getF X0 hx hZ hown (host := "") (Or.inl (ow25 hw)) Via.refl e0 F_take_a9_0 (g := (mkF m 1 #[.val (.ref a9_0)] [(.ref a9_0)])) rfl rfl (hb hby d9_1)
  obtain ⟨fs, hr, hrun, hended, hW, hsame⟩ := X1.leave (v := some .null) (fun h => by rw [Bd.returns] at h; cases h)
  refine ⟨_, _, pre0 _ ?_, hrun, hended, _, _, rfl, ?_, ⟨_, rfl⟩, hW, hsame.mono (by decide) (by decide)⟩
  · show Steps p.tables e below (s₁.setTop (mkF m 0 #[.val (.ref a9_0)] [])) _
    refine XS.aloadN X0.here hx rfl (hb hby d9_0) rfl rfl ?_
    show Steps p.tables e below (s₁.setTop (mkF m 1 #[.val (.ref a9_0)] [(.ref a9_0)])) _
    refine st1 _ ?_
    show Steps p.tables e below (T1.setTop (mkF m 4 #[.val (.ref a9_0)] [.null])) _
    jvm_step X1.here [X1.here.top, hx, (hb hby d9_4), X1.method', Bd.returns, Value.isRef, FieldType.isReference]
    first | (intro acts; rw [hr _ acts rfl rfl rfl]) | rw [hr _ _ rfl rfl rfl]
    exact Steps.refl _
  · show Q_rm9 Z a9_0 h0 n0 _ T1.heap _
    rw [e1]
    exact ⟨rfl, N0, rfl⟩
theorem d10_0 : decode prog_9_method_4_code 0 = .ok (.aload_n 0, 1) := by decide +kernel
theorem d10_1 : decode prog_9_method_4_code 1 = .ok (.getfield 22, 3) := by decide +kernel
theorem d10_4 : decode prog_9_method_4_code 4 = .ok (.ifnull 7, 3) := by decide +kernel
theorem d10_11 : decode prog_9_method_4_code 11 = .ok (.iconst 0, 1) := by decide +kernel
theorem d10_12 : decode prog_9_method_4_code 12 = .ok (.ireturn, 1) := by decide +kernel
theorem pn_10 : plainName "com/example/throttlua/throttlua/failure/Verdict" = true := by first | (simp [plainName, overriddenIn]; done) | decide +kernel
theorem ef_rm10 (m : MethodId) (y0 : Addr) : entryFrame m #[(.ref y0)] 1 = mkF m 0 #[.val (.ref y0)] [] := by first | (simp [entryFrame, mkF, argsToLocals, Value.category]; done) | rfl
def Q_rm10 (Z : State) (a10_0 : Addr) (h0 : Heap) (n0 : Nat) (v : Option Value) (h : Heap) (L : List Loc) : Prop := v = some (.int (0 : Int32)) ∧ Fr n0 L ∧ h = h0
set_option maxRecDepth 65536 in
set_option maxHeartbeats 40000000 in
theorem rm10 (l : Launch) (Z : State) (a0 : Array Value) (hw : ∀ d ∈ tables_1, d.before a0 Z = true) (ws : List Jvm.Cond) (a10_0 : Addr) (h0 : Heap) (n0 : Nat) (Z0 : n0 ≤ h0.size) (F_take_a10_0 : Fld Z h0 a10_0 "com/example/throttlua/throttlua/failure/Verdict" "take" "Ljava/lang/Runnable;" .null) :
    MetFree l (⟨"com/example/throttlua/throttlua/failure/Verdict", "grants", "()Z"⟩ : MethodName) (head1 (Jvm.Cond.code (⟨"com/example/throttlua/throttlua/failure/Verdict", "grants", "()Z"⟩ : MethodName) prog_9_method_4_code 1 (some .boolean) :: ws) ({ frames := 0, cells := 0, slots := 0, locals := 0 } : Room)) (fun a U => a = #[(.ref a10_0)] ∧ Z.Warmed39 U.vm ∧ U.heap = h0) (fun _ _ _ _ _ => True) (fun _ U o U' => ∃ v L, o = .returned v ∧ Q_rm10 Z a10_0 h0 n0 v U'.heap L ∧ FrameEnd U o U' L ({ frames := 0, cells := 0, slots := 0, locals := 0 } : Room).cells ({ frames := 0, cells := 0, slots := 0, locals := 0 } : Room).slots) := by
  refine MetFree.of_bodySF (plainFor_of_name pn_10) hisR ?_
  intro p e s m args below meth c s₁ Bd hml0 hP hK
  obtain ⟨rfl, hZ, hh⟩ := hP
  have hx := Bd.exec
  have hby := Bd.bytes
  have hml : c.maxLocals = 1 := hml0
  have hown : s.vm.findClass "com/example/throttlua/throttlua/failure/Verdict" = some m.cls := findClass_of_methodNamed Bd.named
  have hnm := (name_of_methodNamed Bd.named Bd.method).1
  have X0 : Stand p l e ({ frames := 0, cells := 0, slots := 0, locals := 0 } : Room) s m #[(.ref a10_0)] below meth c s₁ [] 0 0 := Stand.of_body Bd
  have e0 : s₁.heap = h0 := by rw [← hh, Bd.state]; rfl
  have N0 := Fr.nil n0
  have pre0 : ∀ t, Steps p.tables e below (s₁.setTop (mkF m 0 #[.val (.ref a10_0)] [])) t → Steps p.tables e below (s₁.setTop (entryFrame m #[(.ref a10_0)] 1)) t := fun t k => castTop (ef_rm10 m a10_0) k
  obtain ⟨T1, X1, e1, st1⟩ := getF X0 hx hZ hown (host := "") (Or.inl (ow25 hw)) Via.refl e0 F_take_a10_0 (g := (mkF m 1 #[.val (.ref a10_0)] [(.ref a10_0)])) rfl rfl (hb hby d10_1)
  obtain ⟨fs, hr, hrun, hended, hW, hsame⟩ := X1.leave (v := some (.int (0 : Int32))) (fun h => by rw [Bd.returns] at h; cases h)
  refine ⟨_, _, pre0 _ ?_, hrun, hended, _, _, rfl, ?_, ⟨_, rfl⟩, hW, hsame.mono (by decide) (by decide)⟩
  · show Steps p.tables e below (s₁.setTop (mkF m 0 #[.val (.ref a10_0)] [])) _
    refine XS.aloadN X0.here hx rfl (hb hby d10_0) rfl rfl ?_
    show Steps p.tables e below (s₁.setTop (mkF m 1 #[.val (.ref a10_0)] [(.ref a10_0)])) _
    refine st1 _ ?_
    show Steps p.tables e below (T1.setTop (mkF m 4 #[.val (.ref a10_0)] [.null])) _
    refine XS.ifnullYes X1.here hx rfl (pc0 := 4) (pc' := 11) rfl (hb hby d10_4) rfl (by decide) (by decide) ?_
    show Steps p.tables e below (T1.setTop (mkF m 11 #[.val (.ref a10_0)] [])) _
    refine XS.iconst X1.here hx rfl (hb hby d10_11) ?_
    show Steps p.tables e below (T1.setTop (mkF m 12 #[.val (.ref a10_0)] [(.int (0 : Int32))])) _
    exact retN X1 hx (t := .boolean) Bd.returns (by simp) (hb hby d10_12) hr
  · show Q_rm10 Z a10_0 h0 n0 _ T1.heap _
    rw [e1]
    exact ⟨rfl, N0, rfl⟩
theorem pd__JJJ_Lcom_example_throttlua_throttlua_failure_Verdict_ : parseMethodDescriptor "(JJJ)Lcom/example/throttlua/throttlua/failure/Verdict;" = some ⟨[.long, .long, .long], some (.object "com/example/throttlua/throttlua/failure/Verdict")⟩ := by decide +kernel
theorem pd___J : parseMethodDescriptor "()J" = some ⟨[], some .long⟩ := by decide +kernel
theorem pd___Ljava_lang_Runnable_ : parseMethodDescriptor "()Ljava/lang/Runnable;" = some ⟨[], some (.object "java/lang/Runnable")⟩ := by decide +kernel
theorem pd___Z : parseMethodDescriptor "()Z" = some ⟨[], some .boolean⟩ := by decide +kernel
theorem pn_0 : plainName "com/example/throttlua/throttlua/failure/VerdictRefusingPinLaw" = true := by first | (simp [plainName, overriddenIn]; done) | decide +kernel
theorem ef_rm0 (m : MethodId) (y0 : Int64) (y1 : Int64) (y2 : Int64) : entryFrame m #[(.long y0), (.long y1), (.long y2)] maxLocals = mkF m 0 #[.val (.long y0), .second, .val (.long y1), .second, .val (.long y2), .second, .unset, .unset, .unset] [] := by first | (simp [entryFrame, mkF, argsToLocals, Value.category, maxLocals]; done) | rfl
def Q_rm0 (Z : State) (q0_0 : Int64) (q0_1 : Int64) (q0_2 : Int64) (h0 : Heap) (n0 : Nat) (v : Option Value) (h : Heap) (L : List Loc) : Prop := v = some (.int (1 : Int32)) ∧ Fr n0 L
set_option maxRecDepth 65536 in
set_option maxHeartbeats 40000000 in
theorem rm0 (l : Launch) (Z : State) (a0 : Array Value) (hw : ∀ d ∈ tables_1, d.before a0 Z = true) (ws : List Jvm.Cond) (q0_0 : Int64) (q0_1 : Int64) (q0_2 : Int64) (h0 : Heap) (n0 : Nat) (Z0 : n0 ≤ h0.size) :
    MetFree l x (head1 (Jvm.Cond.code x code maxLocals ret :: ws) room_1) (fun a U => a = #[(.long q0_0), (.long q0_1), (.long q0_2)] ∧ Z.Warmed39 U.vm ∧ U.heap = h0) (fun _ _ _ _ _ => True) (fun _ U o U' => ∃ v L, o = .returned v ∧ Q_rm0 Z q0_0 q0_1 q0_2 h0 n0 v U'.heap L ∧ FrameEnd U o U' L 16 128) := by
  refine MetFree.of_bodySF (plainFor_of_name pn_0) hisR ?_
  intro p e s m args below meth c s₁ Bd hml0 hP hK
  obtain ⟨rfl, hZ, hh⟩ := hP
  have hx := Bd.exec
  have hby := Bd.bytes
  have hml : c.maxLocals = 9 := hml0
  have hown : s.vm.findClass "com/example/throttlua/throttlua/failure/VerdictRefusingPinLaw" = some m.cls := findClass_of_methodNamed Bd.named
  have hnm := (name_of_methodNamed Bd.named Bd.method).1
  have X0 : Stand p l e room_1 s m #[(.long q0_0), (.long q0_1), (.long q0_2)] below meth c s₁ [] 0 0 := Stand.of_body Bd
  have e0 : s₁.heap = h0 := by rw [← hh, Bd.state]; rfl
  have N0 := Fr.nil n0
  have pre0 : ∀ t, Steps p.tables e below (s₁.setTop (mkF m 0 #[.val (.long q0_0), .second, .val (.long q0_1), .second, .val (.long q0_2), .second, .unset, .unset, .unset] [])) t → Steps p.tables e below (s₁.setTop (entryFrame m #[(.long q0_0), (.long q0_1), (.long q0_2)] maxLocals)) t := fun t k => castTop (ef_rm0 m q0_0 q0_1 q0_2) k
  let A1 : Array Slot := #[.val (.long q0_0), .second, .val (.long q0_1), .second, .val (.long q0_2), .second, .unset, .unset, .unset]
  obtain ⟨_, _, ⟨T2, L2, k2, n2⟩, -, X2, ⟨Lc2, hQ2, l2, y2, z2⟩, st2⟩ := Jvm.LawKit.callS X0 hx (y := (⟨"com/example/throttlua/throttlua/failure/Verdict", "refusing", "(JJJ)Lcom/example/throttlua/throttlua/failure/Verdict;"⟩ : MethodName)) hown (mvT hZ (ow0 hw)) (mvT hZ (ow1 hw)) (mvT hZ (ow2 hw)) (mvT hZ (ow3 hw)) (by decide) (backOf (W := 0) (rm1 l Z a0 hw [] q0_0 q0_1 q0_2 h0 n0 Z0 ) hZ (ow3 hw) (ow2 hw) (by decide) (by decide)) (g := (mkF m 4 A1 [(.long q0_2), (.long q0_1), (.long q0_0)])) rfl (by rw [hml]; rfl) (argsL := [(.long q0_0), (.long q0_1), (.long q0_2)]) (rest := []) (lenOf pd__JJJ_Lcom_example_throttlua_throttlua_failure_Verdict_ rfl) rfl (by show 2 * 0 + _ ≤ _; exact Nat.le_of_eq rfl) (hb hby at_4) (fun _ _ => ⟨rfl, e0, (by decide : 0 + 1 ≤ _), (by decide : 0 + 5 ≤ _)⟩)
  dsimp only [Pt.U, Pt.locs, Pt.cells, Pt.slots] at X2 l2 y2 z2 st2 hQ2
  subst l2 y2 z2
  obtain ⟨bx1_0_2, rfl, Nq2, Kc2, P2_0, P2_1, P2_2, P2_3, P2_4, P2_5, P2_6⟩ := hQ2
  have K2 : Keep h0 T2.heap [] := Keep.trans (Keep.refl h0 []) Kc2 all0
  have Z2 : n0 ≤ T2.heap.size := Nat.le_trans Z0 K2.1
  have g_bx1_0_2 : n0 ≤ bx1_0_2 := Nat.le_trans Z0 P2_0
  have sz_bx1_0_2 : h0.size ≤ bx1_0_2 := Nat.le_trans (Nat.le_refl _) P2_0
  have N2 := Fr.app N0 Nq2
  let A3 : Array Slot := #[.val (.long q0_0), .second, .val (.long q0_1), .second, .val (.long q0_2), .second, .val (.ref bx1_0_2), .unset, .unset]
  obtain ⟨cq4, kq4, q4a, q4b, q4c⟩ := isOf hZ rfl P2_1
  obtain ⟨_, _, ⟨T4, L4, k4, n4⟩, -, X4, ⟨Lc4, hQ4, l4, y4, z4⟩, st4⟩ := X2.virtualBack hx (y := (⟨"com/example/throttlua/throttlua/failure/Verdict", "remaining", "()J"⟩ : MethodName)) (z := (⟨"com/example/throttlua/throttlua/failure/Verdict", "remaining", "()J"⟩ : MethodName)) hown (mvT hZ (ow27 hw)) (mvT hZ (ow28 hw)) (notFace_of_selects (args := #[]) (mvT hZ (ow30 hw))) (mvT hZ (ow30 hw)) (mvT hZ (ow29 hw)) (by decide) (backOf (W := 0) (rm5 l Z a0 hw [] bx1_0_2 q0_0 T2.heap n0 Z2 P2_2) hZ (ow31 hw) (ow2 hw) (by decide) (by decide)) q4a q4c (g := (mkF m 11 A3 [(.ref bx1_0_2)])) rfl (by rw [hml]; rfl) (Steps.refl _) (argsL := []) (rest := []) (lenOf pd___J rfl) rfl (by show 2 * 0 + _ ≤ _; exact Nat.le_of_eq rfl) (hb hby at_11) (fun _ _ => ⟨rfl, rfl, (by decide : 1 + 0 ≤ _), (by decide : 5 + 0 ≤ _)⟩)
  dsimp only [Pt.U, Pt.locs, Pt.cells, Pt.slots] at X4 l4 y4 z4 st4 hQ4
  subst l4 y4 z4
  obtain ⟨rfl, Nq4, e4⟩ := hQ4
  have N4 := Fr.app N2 Nq4
  obtain ⟨cq5, kq5, q5a, q5b, q5c⟩ := isOf hZ e4 P2_1
  obtain ⟨_, _, ⟨T5, L5, k5, n5⟩, -, X5, ⟨Lc5, hQ5, l5, y5, z5⟩, st5⟩ := X4.virtualBack hx (y := (⟨"com/example/throttlua/throttlua/failure/Verdict", "waitMillis", "()J"⟩ : MethodName)) (z := (⟨"com/example/throttlua/throttlua/failure/Verdict", "waitMillis", "()J"⟩ : MethodName)) hown (mvT hZ (ow32 hw)) (mvT hZ (ow33 hw)) (notFace_of_selects (args := #[]) (mvT hZ (ow35 hw))) (mvT hZ (ow35 hw)) (mvT hZ (ow34 hw)) (by decide) (backOf (W := 0) (rm6 l Z a0 hw [] bx1_0_2 q0_1 T2.heap n0 Z2 P2_3) hZ (ow36 hw) (ow2 hw) (by decide) (by decide)) q5a q5c (g := (mkF m 21 A3 [(.ref bx1_0_2)])) rfl (by rw [hml]; rfl) (Steps.refl _) (argsL := []) (rest := []) (lenOf pd___J rfl) rfl (by show 2 * 0 + _ ≤ _; exact Nat.le_of_eq rfl) (hb hby at_21) (fun _ _ => ⟨rfl, e4, (by decide : 1 + 0 ≤ _), (by decide : 5 + 0 ≤ _)⟩)
  dsimp only [Pt.U, Pt.locs, Pt.cells, Pt.slots] at X5 l5 y5 z5 st5 hQ5
  subst l5 y5 z5
  obtain ⟨rfl, Nq5, e5⟩ := hQ5
  have N5 := Fr.app N4 Nq5
  obtain ⟨cq6, kq6, q6a, q6b, q6c⟩ := isOf hZ e5 P2_1
  obtain ⟨_, _, ⟨T6, L6, k6, n6⟩, -, X6, ⟨Lc6, hQ6, l6, y6, z6⟩, st6⟩ := X5.virtualBack hx (y := (⟨"com/example/throttlua/throttlua/failure/Verdict", "lagMillis", "()J"⟩ : MethodName)) (z := (⟨"com/example/throttlua/throttlua/failure/Verdict", "lagMillis", "()J"⟩ : MethodName)) hown (mvT hZ (ow37 hw)) (mvT hZ (ow38 hw)) (notFace_of_selects (args := #[]) (mvT hZ (ow40 hw))) (mvT hZ (ow40 hw)) (mvT hZ (ow39 hw)) (by decide) (backOf (W := 0) (rm7 l Z a0 hw [] bx1_0_2 q0_2 T2.heap n0 Z2 P2_4) hZ (ow41 hw) (ow2 hw) (by decide) (by decide)) q6a q6c (g := (mkF m 31 A3 [(.ref bx1_0_2)])) rfl (by rw [hml]; rfl) (Steps.refl _) (argsL := []) (rest := []) (lenOf pd___J rfl) rfl (by show 2 * 0 + _ ≤ _; exact Nat.le_of_eq rfl) (hb hby at_31) (fun _ _ => ⟨rfl, e5, (by decide : 1 + 0 ≤ _), (by decide : 5 + 0 ≤ _)⟩)
  dsimp only [Pt.U, Pt.locs, Pt.cells, Pt.slots] at X6 l6 y6 z6 st6 hQ6
  subst l6 y6 z6
  obtain ⟨rfl, Nq6, e6⟩ := hQ6
  have N6 := Fr.app N5 Nq6
  let A7 : Array Slot := #[.val (.long q0_0), .second, .val (.long q0_1), .second, .val (.long q0_2), .second, .val (.ref bx1_0_2), .val (.int (1 : Int32)), .unset]
  obtain ⟨cq8, kq8, q8a, q8b, q8c⟩ := isOf hZ e6 P2_1
  obtain ⟨_, _, ⟨T8, L8, k8, n8⟩, -, X8, ⟨Lc8, hQ8, l8, y8, z8⟩, st8⟩ := X6.virtualBack hx (y := (⟨"com/example/throttlua/throttlua/failure/Verdict", "livesMillis", "()J"⟩ : MethodName)) (z := (⟨"com/example/throttlua/throttlua/failure/Verdict", "livesMillis", "()J"⟩ : MethodName)) hown (mvT hZ (ow42 hw)) (mvT hZ (ow43 hw)) (notFace_of_selects (args := #[]) (mvT hZ (ow45 hw))) (mvT hZ (ow45 hw)) (mvT hZ (ow44 hw)) (by decide) (backOf (W := 0) (rm8 l Z a0 hw [] bx1_0_2 (0 : Int64) T2.heap n0 Z2 P2_5) hZ (ow46 hw) (ow2 hw) (by decide) (by decide)) q8a q8c (g := (mkF m 49 A7 [(.ref bx1_0_2)])) rfl (by rw [hml]; rfl) (Steps.refl _) (argsL := []) (rest := []) (lenOf pd___J rfl) rfl (by show 2 * 0 + _ ≤ _; exact Nat.le_of_eq rfl) (hb hby at_49) (fun _ _ => ⟨rfl, e6, (by decide : 1 + 0 ≤ _), (by decide : 5 + 0 ≤ _)⟩)
  dsimp only [Pt.U, Pt.locs, Pt.cells, Pt.slots] at X8 l8 y8 z8 st8 hQ8
  subst l8 y8 z8
  obtain ⟨rfl, Nq8, e8⟩ := hQ8
  have N8 := Fr.app N6 Nq8
  obtain ⟨cq9, kq9, q9a, q9b, q9c⟩ := isOf hZ e8 P2_1
  obtain ⟨_, _, ⟨T9, L9, k9, n9⟩, -, X9, ⟨Lc9, hQ9, l9, y9, z9⟩, st9⟩ := X8.virtualBack hx (y := (⟨"com/example/throttlua/throttlua/failure/Verdict", "take", "()Ljava/lang/Runnable;"⟩ : MethodName)) (z := (⟨"com/example/throttlua/throttlua/failure/Verdict", "take", "()Ljava/lang/Runnable;"⟩ : MethodName)) hown (mvT hZ (ow47 hw)) (mvT hZ (ow48 hw)) (notFace_of_selects (args := #[]) (mvT hZ (ow50 hw))) (mvT hZ (ow50 hw)) (mvT hZ (ow49 hw)) (by decide) (backOf (W := 0) (rm9 l Z a0 hw [] bx1_0_2 T2.heap n0 Z2 P2_6) hZ (ow51 hw) (ow2 hw) (by decide) (by decide)) q9a q9c (g := (mkF m 59 A7 [(.ref bx1_0_2)])) rfl (by rw [hml]; rfl) (Steps.refl _) (argsL := []) (rest := []) (lenOf pd___Ljava_lang_Runnable_ rfl) rfl (by show 2 * 0 + _ ≤ _; exact Nat.le_of_eq rfl) (hb hby at_59) (fun _ _ => ⟨rfl, e8, (by decide : 1 + 0 ≤ _), (by decide : 5 + 0 ≤ _)⟩)
  dsimp only [Pt.U, Pt.locs, Pt.cells, Pt.slots] at X9 l9 y9 z9 st9 hQ9
  subst l9 y9 z9
  obtain ⟨rfl, Nq9, e9⟩ := hQ9
  have N9 := Fr.app N8 Nq9
  obtain ⟨cq10, kq10, q10a, q10b, q10c⟩ := isOf hZ e9 P2_1
  obtain ⟨_, _, ⟨T10, L10, k10, n10⟩, -, X10, ⟨Lc10, hQ10, l10, y10, z10⟩, st10⟩ := X9.virtualBack hx (y := (⟨"com/example/throttlua/throttlua/failure/Verdict", "grants", "()Z"⟩ : MethodName)) (z := (⟨"com/example/throttlua/throttlua/failure/Verdict", "grants", "()Z"⟩ : MethodName)) hown (mvT hZ (ow52 hw)) (mvT hZ (ow53 hw)) (notFace_of_selects (args := #[]) (mvT hZ (ow55 hw))) (mvT hZ (ow55 hw)) (mvT hZ (ow54 hw)) (by decide) (backOf (W := 0) (rm10 l Z a0 hw [] bx1_0_2 T2.heap n0 Z2 P2_6) hZ (ow56 hw) (ow2 hw) (by decide) (by decide)) q10a q10c (g := (mkF m 67 A7 [(.ref bx1_0_2)])) rfl (by rw [hml]; rfl) (Steps.refl _) (argsL := []) (rest := []) (lenOf pd___Z rfl) rfl (by show 2 * 0 + _ ≤ _; exact Nat.le_of_eq rfl) (hb hby at_67) (fun _ _ => ⟨rfl, e9, (by decide : 1 + 0 ≤ _), (by decide : 5 + 0 ≤ _)⟩)
  dsimp only [Pt.U, Pt.locs, Pt.cells, Pt.slots] at X10 l10 y10 z10 st10 hQ10
  subst l10 y10 z10
  obtain ⟨rfl, Nq10, e10⟩ := hQ10
  have N10 := Fr.app N9 Nq10
  let A11 : Array Slot := #[.val (.long q0_0), .second, .val (.long q0_1), .second, .val (.long q0_2), .second, .val (.ref bx1_0_2), .val (.int (1 : Int32)), .val (.int (1 : Int32))]
  obtain ⟨fs, hr, hrun, hended, hW, hsame⟩ := X10.leave (v := some (.int (1 : Int32))) (fun h => by rw [Bd.returns] at h; cases h)
  refine ⟨_, _, pre0 _ ?_, hrun, hended, _, _, rfl, ?_, ⟨_, rfl⟩, hW, hsame.mono (by decide) (by decide)⟩
  · show Steps p.tables e below (s₁.setTop (mkF m 0 A1 [])) _
    refine XS.lloadN X0.here hx rfl (hb hby at_0) rfl ?_
    show Steps p.tables e below (s₁.setTop (mkF m 1 A1 [(.long q0_0)])) _
    refine XS.lloadN X0.here hx rfl (hb hby at_1) rfl ?_
    show Steps p.tables e below (s₁.setTop (mkF m 2 A1 [(.long q0_1), (.long q0_0)])) _
    refine XS.lload X0.here hx rfl (hb hby at_2) rfl ?_
    show Steps p.tables e below (s₁.setTop (mkF m 4 A1 [(.long q0_2), (.long q0_1), (.long q0_0)])) _
    refine st2 _ ?_
    show Steps p.tables e below (T2.setTop (mkF m 7 A1 [(.ref bx1_0_2)])) _
    refine XS.astore X2.here hx rfl (hb hby at_7) rfl rfl (l' := A3) rfl ?_
    show Steps p.tables e below (T2.setTop (mkF m 9 A3 [])) _
    refine XS.aload X2.here hx rfl (hb hby at_9) rfl rfl ?_
    show Steps p.tables e below (T2.setTop (mkF m 11 A3 [(.ref bx1_0_2)])) _
    refine st4.trans ?_
    show Steps p.tables e below (T4.setTop (mkF m 14 A3 [(.long q0_0)])) _
    refine XS.lloadN X4.here hx rfl (hb hby at_14) rfl ?_
    show Steps p.tables e below (T4.setTop (mkF m 15 A3 [(.long q0_0), (.long q0_0)])) _
    refine XS.lcmp X4.here hx rfl (hb hby at_15) rfl ?_
    show Steps p.tables e below (T4.setTop (mkF m 16 A3 [(.int (lcmpW q0_0 q0_0))])) _
    refine XS.ifNo X4.here hx rfl (hb hby at_16) rfl ((if0 _ _).trans (teq ((lw_eq _ _).mpr rfl)).2) ?_
    show Steps p.tables e below (T4.setTop (mkF m 19 A3 [])) _
    refine XS.aload X4.here hx rfl (hb hby at_19) rfl rfl ?_
    show Steps p.tables e below (T4.setTop (mkF m 21 A3 [(.ref bx1_0_2)])) _
    refine st5.trans ?_
    show Steps p.tables e below (T5.setTop (mkF m 24 A3 [(.long q0_1)])) _
    refine XS.lloadN X5.here hx rfl (hb hby at_24) rfl ?_
    show Steps p.tables e below (T5.setTop (mkF m 25 A3 [(.long q0_1), (.long q0_1)])) _
    refine XS.lcmp X5.here hx rfl (hb hby at_25) rfl ?_
    show Steps p.tables e below (T5.setTop (mkF m 26 A3 [(.int (lcmpW q0_1 q0_1))])) _
    refine XS.ifNo X5.here hx rfl (hb hby at_26) rfl ((if0 _ _).trans (teq ((lw_eq _ _).mpr rfl)).2) ?_
    show Steps p.tables e below (T5.setTop (mkF m 29 A3 [])) _
    refine XS.aload X5.here hx rfl (hb hby at_29) rfl rfl ?_
    show Steps p.tables e below (T5.setTop (mkF m 31 A3 [(.ref bx1_0_2)])) _
    refine st6.trans ?_
    show Steps p.tables e below (T6.setTop (mkF m 34 A3 [(.long q0_2)])) _
    refine XS.lload X6.here hx rfl (hb hby at_34) rfl ?_
    show Steps p.tables e below (T6.setTop (mkF m 36 A3 [(.long q0_2), (.long q0_2)])) _
    refine XS.lcmp X6.here hx rfl (hb hby at_36) rfl ?_
    show Steps p.tables e below (T6.setTop (mkF m 37 A3 [(.int (lcmpW q0_2 q0_2))])) _
    refine XS.ifNo X6.here hx rfl (hb hby at_37) rfl ((if0 _ _).trans (teq ((lw_eq _ _).mpr rfl)).2) ?_
    show Steps p.tables e below (T6.setTop (mkF m 40 A3 [])) _
    refine XS.iconst X6.here hx rfl (hb hby at_40) ?_
    show Steps p.tables e below (T6.setTop (mkF m 41 A3 [(.int (1 : Int32))])) _
    refine XS.goto X6.here hx rfl (pc0 := 41) (pc' := 45) rfl (hb hby at_41) (by decide) (by decide) ?_
    show Steps p.tables e below (T6.setTop (mkF m 45 A3 [(.int (1 : Int32))])) _
    refine XS.istore X6.here hx rfl (hb hby at_45) rfl (l' := A7) rfl ?_
    show Steps p.tables e below (T6.setTop (mkF m 47 A7 [])) _
    refine XS.aload X6.here hx rfl (hb hby at_47) rfl rfl ?_
    show Steps p.tables e below (T6.setTop (mkF m 49 A7 [(.ref bx1_0_2)])) _
    refine st8.trans ?_
    show Steps p.tables e below (T8.setTop (mkF m 52 A7 [(.long (0 : Int64))])) _
    refine XS.lconst X8.here hx rfl (hb hby at_52) ?_
    show Steps p.tables e below (T8.setTop (mkF m 53 A7 [(.long (0 : Int64)), (.long (0 : Int64))])) _
    refine XS.lcmp X8.here hx rfl (hb hby at_53) rfl ?_
    show Steps p.tables e below (T8.setTop (mkF m 54 A7 [(.int (lcmpW (0 : Int64) (0 : Int64)))])) _
    refine XS.ifNo X8.here hx rfl (hb hby at_54) rfl ((if0 _ _).trans (teq ((lw_eq _ _).mpr (by decide : (0 : Int64) = (0 : Int64)))).2) ?_
    show Steps p.tables e below (T8.setTop (mkF m 57 A7 [])) _
    refine XS.aload X8.here hx rfl (hb hby at_57) rfl rfl ?_
    show Steps p.tables e below (T8.setTop (mkF m 59 A7 [(.ref bx1_0_2)])) _
    refine st9.trans ?_
    show Steps p.tables e below (T9.setTop (mkF m 62 A7 [.null])) _
    refine XS.ifnonnullNo X9.here hx rfl (hb hby at_62) rfl ?_
    show Steps p.tables e below (T9.setTop (mkF m 65 A7 [])) _
    refine XS.aload X9.here hx rfl (hb hby at_65) rfl rfl ?_
    show Steps p.tables e below (T9.setTop (mkF m 67 A7 [(.ref bx1_0_2)])) _
    refine st10.trans ?_
    show Steps p.tables e below (T10.setTop (mkF m 70 A7 [(.int (0 : Int32))])) _
    refine XS.ifNo X10.here hx rfl (hb hby at_70) rfl ((if0 _ _).trans (teq (by decide : (0 : Int32) = (0 : Int32))).2) ?_
    show Steps p.tables e below (T10.setTop (mkF m 73 A7 [])) _
    refine XS.iconst X10.here hx rfl (hb hby at_73) ?_
    show Steps p.tables e below (T10.setTop (mkF m 74 A7 [(.int (1 : Int32))])) _
    refine XS.goto X10.here hx rfl (pc0 := 74) (pc' := 78) rfl (hb hby at_74) (by decide) (by decide) ?_
    show Steps p.tables e below (T10.setTop (mkF m 78 A7 [(.int (1 : Int32))])) _
    refine XS.istore X10.here hx rfl (hb hby at_78) rfl (l' := A11) rfl ?_
    show Steps p.tables e below (T10.setTop (mkF m 80 A11 [])) _
    refine XS.iload X10.here hx rfl (hb hby at_80) rfl ?_
    show Steps p.tables e below (T10.setTop (mkF m 82 A11 [(.int (1 : Int32))])) _
    refine XS.ifNo X10.here hx rfl (hb hby at_82) rfl ((if0 _ _).trans (feq (by decide : ¬ ((1 : Int32) = (0 : Int32)))).1) ?_
    show Steps p.tables e below (T10.setTop (mkF m 85 A11 [])) _
    refine XS.iload X10.here hx rfl (hb hby at_85) rfl ?_
    show Steps p.tables e below (T10.setTop (mkF m 87 A11 [(.int (1 : Int32))])) _
    refine XS.ifNo X10.here hx rfl (hb hby at_87) rfl ((if0 _ _).trans (feq (by decide : ¬ ((1 : Int32) = (0 : Int32)))).1) ?_
    show Steps p.tables e below (T10.setTop (mkF m 90 A11 [])) _
    refine XS.iconst X10.here hx rfl (hb hby at_90) ?_
    show Steps p.tables e below (T10.setTop (mkF m 91 A11 [(.int (1 : Int32))])) _
    refine XS.goto X10.here hx rfl (pc0 := 91) (pc' := 95) rfl (hb hby at_91) (by decide) (by decide) ?_
    show Steps p.tables e below (T10.setTop (mkF m 95 A11 [(.int (1 : Int32))])) _
    exact retN X10 hx (t := .boolean) Bd.returns (by simp) (hb hby at_95) hr
  · exact ⟨rfl, N10⟩
set_option maxRecDepth 65536 in
set_option maxHeartbeats 40000000 in
theorem comes_1 {Post : Tables → Env → Array Value → State → Outcome → State → Prop} (hpost : ∀ tb e args s v u, (limb_1_1.after args s (.returned v) u = true ∧ limb_1_2.after args s (.returned v) u = true ∧ True) → FrameEnd s (.returned v) u (Jvm.fieldLocs frame_1_writes args s ++ Jvm.arrayLocs frame_1_arrays args s ++ Jvm.staticLocs frame_1_statics s) 16 128 → Post tb e args s (.returned v) u) :
    ArmFor flags0 classFile x code maxLocals ret World_1 tables_1 room_1 Calls_1 rest_1 Pre_1 Post := by
  intro l hfl _ _ p e ha hc hk s m args below hf hA hF happ hP
  obtain ⟨hcalls, hrest, hpre⟩ := hP
  obtain ⟨-, -, -, hnamed, -, -, -, hat⟩ := (Spec.applies_iff hf).mp happ
  obtain ⟨hg, hn⟩ := and_e (Cond.before_iff.mp (show (Jvm.Cond.and given_1 narrow_1).before args s = true from hpre))
  obtain ⟨g1, g2⟩ := and_e hg
  obtain ⟨g3, g4⟩ := and_e g2
  obtain ⟨g5, g6⟩ := and_e g4
  obtain ⟨w0, w1, w2, rfl⟩ : ∃ w0 w1 w2 : Value, args = #[w0, w1, w2] := by
    have hs : args.size = 3 := by simpa [Cond.value, given_1] using g1
    obtain ⟨L⟩ := args
    match L, hs with
    | [w0, w1, w2], _ => exact ⟨w0, w1, w2, rfl⟩
  have hw := fun d (hd : d ∈ tables_1) => atoms_spec (ws := Jvm.Cond.code x code maxLocals ret :: tables_1) hat d (List.mem_cons_of_mem _ hd)
  have hfit : Fit s := fun {y c} hc i hi => by
    obtain ⟨ha, rfl⟩ := Array.getElem?_eq_some_iff.mp hc
    have q := List.all_eq_true.mp ((Array.all_eq_true_iff_forall_mem.mp hF) _ (Array.getElem_mem ha)) i (List.mem_range.mpr hi)
    simpa [Array.getElem?_eq_getElem hi] using q
  obtain ⟨i0, ei0⟩ := isL_v g3
  obtain rfl : w0 = (.long i0) := Option.some.inj ei0
  obtain ⟨i1, ei1⟩ := isL_v g5
  obtain rfl : w1 = (.long i1) := Option.some.inj ei1
  obtain ⟨i2, ei2⟩ := isL_v g6
  obtain rfl : w2 = (.long i2) := Option.some.inj ei2
  obtain ⟨n, o, h1, h2, h3, _, L, rfl, ⟨rfl, N⟩, hq⟩ := rm0 l s _ hw tables_1 i0 i1 i2 s.heap s.heap.size (Nat.le_refl _) p e ha hc hk s m _ below hf ((Spec.applies_iff_loose hf).mp happ).1 ⟨rfl, State.Warmed39.refl s, rfl⟩ trivial
  refine ⟨n, _, h1, h2, h3, hpost _ _ _ _ _ _ ⟨Cond.after_iff.mpr rfl, Cond.after_iff.mpr (eq_i res_at (Term.int_eval (1)) rfl), trivial⟩ ⟨hq.1, hq.2.1, (hq.2.2.sift fun y hy => Or.inr (N y hy)).mono (by decide) (by decide)⟩⟩
theorem main_1_1 : Claimed_1_1 := comes_1 fun _ _ _ _ _ _ h hF => ⟨h.1, hF⟩
theorem main_1_2 : Claimed_1_2 := comes_1 fun _ _ _ _ _ _ h hF => ⟨h.2.1, hF⟩
end Jvm.Pilot.@@N@@
namespace Jvm.Pilot.@@N@@
open Jvm Jvm.ClassFile Sem Op Lib Jvm.Free Jvm.Stand Jvm.Pilot.@@N@@.Jvm.D
/-! MADE BY PROGRAM (witnessworld.py) out of the Statement's table words and the real class files: 10 classes; the members and pool entries that the words name. The judged class is class 1, her method 1. -/
namespace start1
open Jvm.ClassFile
def u (s : String) : CpInfo := .utf8 (stringToUtf16 s)
/-- a pool by its gaps: so many unusable entries, then the entry; so many at the end -/
def gap : Nat → List CpInfo → List CpInfo
  | 0, r => r
  | n + 1, r => .unusable :: gap n r
def poolList (es : List (Nat × CpInfo)) (last : Nat) : List CpInfo := es.foldr (fun e r => gap e.1 (e.2 :: r)) (gap last [])
def pool (es : List (Nat × CpInfo)) (last : Nat) : Array CpInfo := ⟨poolList es last⟩
def fileOf (pool : Array CpInfo) (this : Nat) (attrs : Array Attribute := #[]) (ms : Array MethodInfo := #[]) (fl : Nat := 33) (sup : Nat := 0) (ifs : Array Nat := #[]) (fds : Array FieldInfo := #[]) : ClassFile where
  minorVersion := 0
  majorVersion := 65
  constantPool := pool
  accessFlags := fl
  thisClass := this
  superClass := sup
  interfaces := ifs
  fields := fds
  methods := ms
  attributes := attrs
def plain (name : String) (sup : Option ClassId) : Class where
  name := name
  kind := .ordinary
  loader := none
  accessFlags := 33
  super := sup
  interfaces := #[]
  cf := none
  fields := #[]
  methods := #[]
  instanceTypes := #[]
  staticTypes := #[]
  resolved := #[]
  callSites := []
  init := .initialized
  statics := none
  mirror := none

def pool0 : Array CpInfo := pool [(5, u "<init>"), (0, u "()V"), (1, .class_ 10), (1, u "java/lang/Object")] 113

def k0c0 : Code := { maxStack := 0, maxLocals := 1, code := object_method_1_code, exceptionTable := #[], attributes := #[] }
def k0m0 : Method := { name := "<init>", desc := "()V", sig := { parameters := [], returnType := none }, accessFlags := 1, code := some k0c0 }
/-- java/lang/Object -/
def k0 : Class := { plain "java/lang/Object" none with
  accessFlags := 33
  interfaces := #[]
  cf := some (fileOf pool0 8 #[] #[{ accessFlags := 1, nameIndex := 5, descriptorIndex := 6, attributes := #[] }] 33 0 #[] #[])
  fields := #[]
  methods := #[k0m0]
  instanceTypes := #[]
  staticTypes := #[]
  resolved := Array.replicate 124 none
  statics := none }

def pool1 : Array CpInfo := pool [(2, .class_ 4), (1, u "java/lang/Object"), (0, u "<init>"), (0, u "()V"), (0, .methodref 8 9), (0, .class_ 10), (0, .nameAndType 11 12), (0, u "com/example/throttlua/throttlua/failure/Verdict"), (0, u "refusing"), (0, u "(JJJ)Lcom/example/throttlua/throttlua/failure/Verdict;"), (0, .methodref 8 14), (0, .nameAndType 15 16), (0, u "remaining"), (0, u "()J"), (0, .methodref 8 18), (0, .nameAndType 19 16), (0, u "waitMillis"), (0, .methodref 8 21), (0, .nameAndType 22 16), (0, u "lagMillis"), (0, .methodref 8 24), (0, .nameAndType 25 16), (0, u "livesMillis"), (0, .methodref 8 27), (0, .nameAndType 28 29), (0, u "take"), (0, u "()Ljava/lang/Runnable;"), (0, .methodref 8 31), (0, .nameAndType 32 33), (0, u "grants"), (0, u "()Z"), (0, .class_ 35), (0, u "com/example/throttlua/throttlua/failure/VerdictRefusingPinLaw"), (2, u "law"), (0, u "(JJJ)Z")] 3

def k1m0 : Method := { name := "<init>", desc := "()V", sig := { parameters := [], returnType := none }, accessFlags := 2, code := none }
def k1c1 : Code := { maxStack := 6, maxLocals := 9, code := code, exceptionTable := #[], attributes := #[] }
def k1m1 : Method := { name := "law", desc := "(JJJ)Z", sig := { parameters := [.long, .long, .long], returnType := some .boolean }, accessFlags := 9, code := some k1c1 }
/-- com/example/throttlua/throttlua/failure/VerdictRefusingPinLaw -/
def k1 : Class := { plain "com/example/throttlua/throttlua/failure/VerdictRefusingPinLaw" (some 0) with
  accessFlags := 49
  interfaces := #[]
  cf := some (fileOf pool1 34 #[] #[{ accessFlags := 2, nameIndex := 5, descriptorIndex := 6, attributes := #[] }, { accessFlags := 9, nameIndex := 38, descriptorIndex := 39, attributes := #[] }] 49 2 #[] #[])
  fields := #[]
  methods := #[k1m0, k1m1]
  instanceTypes := #[]
  staticTypes := #[]
  resolved := Array.replicate 43 none
  statics := none }

def pool2 : Array CpInfo := pool [(1, .methodref 2 3), (0, .class_ 4), (0, .nameAndType 5 6), (0, u "java/lang/Object"), (0, u "<init>"), (0, u "()V"), (0, .class_ 8), (0, u "java/lang/Record")] 13

def k2c0 : Code := { maxStack := 1, maxLocals := 1, code := jdk_30_method_1_code, exceptionTable := #[], attributes := #[] }
def k2m0 : Method := { name := "<init>", desc := "()V", sig := { parameters := [], returnType := none }, accessFlags := 4, code := some k2c0 }
/-- java/lang/Record -/
def k2 : Class := { plain "java/lang/Record" (some 0) with
  accessFlags := 1057
  interfaces := #[]
  cf := some (fileOf pool2 7 #[] #[{ accessFlags := 4, nameIndex := 5, descriptorIndex := 6, attributes := #[] }] 1057 2 #[] #[])
  fields := #[]
  methods := #[k2m0]
  instanceTypes := #[]
  staticTypes := #[]
  resolved := Array.replicate 22 none
  statics := none }

def pool3 : Array CpInfo := pool [(1, .methodref 2 3), (0, .class_ 4), (0, .nameAndType 5 6), (0, u "java/lang/Record"), (0, u "<init>"), (0, u "()V"), (0, .fieldref 8 9), (0, .class_ 10), (0, .nameAndType 11 12), (0, u "com/example/throttlua/throttlua/failure/Verdict"), (0, u "remaining"), (0, u "J"), (0, .fieldref 8 14), (0, .nameAndType 15 12), (0, u "waitMillis"), (0, .fieldref 8 17), (0, .nameAndType 18 12), (0, u "lagMillis"), (0, .fieldref 8 20), (0, .nameAndType 21 12), (0, u "livesMillis"), (0, .fieldref 8 23), (0, .nameAndType 24 25), (0, u "take"), (0, u "Ljava/lang/Runnable;"), (0, .methodref 8 27), (0, .nameAndType 5 28), (0, u "(JJJJLjava/lang/Runnable;)V"), (17, u "refusing"), (0, u "(JJJ)Lcom/example/throttlua/throttlua/failure/Verdict;"), (0, u "grants"), (0, u "()Z"), (4, u "()J"), (0, u "()Ljava/lang/Runnable;")] 24

def k3c0 : Code := { maxStack := 3, maxLocals := 10, code := prog_9_method_1_code, exceptionTable := #[], attributes := #[] }
def k3m0 : Method := { name := "<init>", desc := "(JJJJLjava/lang/Runnable;)V", sig := { parameters := [.long, .long, .long, .long, (.object "java/lang/Runnable")], returnType := none }, accessFlags := 1, code := some k3c0 }
def k3c1 : Code := { maxStack := 11, maxLocals := 6, code := prog_9_method_3_code, exceptionTable := #[], attributes := #[] }
def k3m1 : Method := { name := "refusing", desc := "(JJJ)Lcom/example/throttlua/throttlua/failure/Verdict;", sig := { parameters := [.long, .long, .long], returnType := some (.object "com/example/throttlua/throttlua/failure/Verdict") }, accessFlags := 9, code := some k3c1 }
def k3c2 : Code := { maxStack := 1, maxLocals := 1, code := prog_9_method_4_code, exceptionTable := #[], attributes := #[] }
def k3m2 : Method := { name := "grants", desc := "()Z", sig := { parameters := [], returnType := some .boolean }, accessFlags := 1, code := some k3c2 }
def k3c3 : Code := { maxStack := 2, maxLocals := 1, code := prog_9_method_8_code, exceptionTable := #[], attributes := #[] }
def k3m3 : Method := { name := "remaining", desc := "()J", sig := { parameters := [], returnType := some .long }, accessFlags := 1, code := some k3c3 }
def k3c4 : Code := { maxStack := 2, maxLocals := 1, code := prog_9_method_9_code, exceptionTable := #[], attributes := #[] }
def k3m4 : Method := { name := "waitMillis", desc := "()J", sig := { parameters := [], returnType := some .long }, accessFlags := 1, code := some k3c4 }
def k3c5 : Code := { maxStack := 2, maxLocals := 1, code := prog_9_method_10_code, exceptionTable := #[], attributes := #[] }
def k3m5 : Method := { name := "lagMillis", desc := "()J", sig := { parameters := [], returnType := some .long }, accessFlags := 1, code := some k3c5 }
def k3c6 : Code := { maxStack := 2, maxLocals := 1, code := prog_9_method_11_code, exceptionTable := #[], attributes := #[] }
def k3m6 : Method := { name := "livesMillis", desc := "()J", sig := { parameters := [], returnType := some .long }, accessFlags := 1, code := some k3c6 }
def k3c7 : Code := { maxStack := 1, maxLocals := 1, code := prog_9_method_12_code, exceptionTable := #[], attributes := #[] }
def k3m7 : Method := { name := "take", desc := "()Ljava/lang/Runnable;", sig := { parameters := [], returnType := some (.object "java/lang/Runnable") }, accessFlags := 1, code := some k3c7 }
/-- com/example/throttlua/throttlua/failure/Verdict -/
def k3 : Class := { plain "com/example/throttlua/throttlua/failure/Verdict" (some 2) with
  accessFlags := 49
  interfaces := #[]
  cf := some (fileOf pool3 8 #[] #[{ accessFlags := 1, nameIndex := 5, descriptorIndex := 28, attributes := #[] }, { accessFlags := 9, nameIndex := 46, descriptorIndex := 47, attributes := #[] }, { accessFlags := 1, nameIndex := 48, descriptorIndex := 49, attributes := #[] }, { accessFlags := 1, nameIndex := 11, descriptorIndex := 54, attributes := #[] }, { accessFlags := 1, nameIndex := 15, descriptorIndex := 54, attributes := #[] }, { accessFlags := 1, nameIndex := 18, descriptorIndex := 54, attributes := #[] }, { accessFlags := 1, nameIndex := 21, descriptorIndex := 54, attributes := #[] }, { accessFlags := 1, nameIndex := 24, descriptorIndex := 55, attributes := #[] }] 49 2 #[] #[{ accessFlags := 18, nameIndex := 11, descriptorIndex := 12, attributes := #[] }, { accessFlags := 18, nameIndex := 15, descriptorIndex := 12, attributes := #[] }, { accessFlags := 18, nameIndex := 18, descriptorIndex := 12, attributes := #[] }, { accessFlags := 18, nameIndex := 21, descriptorIndex := 12, attributes := #[] }, { accessFlags := 18, nameIndex := 24, descriptorIndex := 25, attributes := #[] }])
  fields := #[{ name := "remaining", type := .long, accessFlags := 18, slot := 0, constantValue := 0 }, { name := "waitMillis", type := .long, accessFlags := 18, slot := 1, constantValue := 0 }, { name := "lagMillis", type := .long, accessFlags := 18, slot := 2, constantValue := 0 }, { name := "livesMillis", type := .long, accessFlags := 18, slot := 3, constantValue := 0 }, { name := "take", type := (.object "java/lang/Runnable"), accessFlags := 18, slot := 4, constantValue := 0 }]
  methods := #[k3m0, k3m1, k3m2, k3m3, k3m4, k3m5, k3m6, k3m7]
  instanceTypes := #[.long, .long, .long, .long, (.object "java/lang/Runnable")]
  staticTypes := #[]
  resolved := Array.replicate 80 none
  statics := none }

def pool4 : Array CpInfo := pool [(1, u "java/lang/Cloneable"), (0, .class_ 1), (0, u "java/lang/Object"), (0, .class_ 3)] 3

/-- java/lang/Cloneable -/
def k4 : Class := { plain "java/lang/Cloneable" (some 0) with
  accessFlags := 1537
  interfaces := #[]
  cf := some (fileOf pool4 2 #[] #[] 1537 4 #[] #[])
  fields := #[]
  methods := #[]
  instanceTypes := #[]
  staticTypes := #[]
  resolved := Array.replicate 8 none
  statics := none }

def pool5 : Array CpInfo := pool [(1, u "java/io/Serializable"), (0, .class_ 1), (0, u "java/lang/Object"), (0, .class_ 3)] 3

/-- java/io/Serializable -/
def k5 : Class := { plain "java/io/Serializable" (some 0) with
  accessFlags := 1537
  interfaces := #[]
  cf := some (fileOf pool5 2 #[] #[] 1537 4 #[] #[])
  fields := #[]
  methods := #[]
  instanceTypes := #[]
  staticTypes := #[]
  resolved := Array.replicate 8 none
  statics := none }

/-- the primitive byte -/
def k6 : Class := { plain "byte" none with kind := .primitive 'B', accessFlags := 0x411 }
/-- [B -/
def k7 : Class := { plain "[B" (some 0) with kind := .array 6 .byte, interfaces := #[4, 5], accessFlags := 1041 }

/-- the primitive int -/
def k8 : Class := { plain "int" none with kind := .primitive 'I', accessFlags := 0x411 }
/-- [I -/
def k9 : Class := { plain "[I" (some 0) with kind := .array 8 .int, interfaces := #[4, 5], accessFlags := 1041 }

def heap : Heap := #[]
def classes : Array Class := #[k0, k1, k2, k3, k4, k5, k6, k7, k8, k9]
def interned : List (Array UInt16 × Addr) := []
def slotsUsed : Nat := 0
def theMethod : MethodId := ⟨1, 1⟩
def args0 : Array Value := #[.long 5, .long 5, .long 5]
def aboutOver (below : List Frame) : State where
  vm := { classes := classes, interned := interned.toArray }
  heap := heap
  slotsUsed := slotsUsed
  threads := #[{ frames := .invoking theMethod args0 :: below }]
def below0 : List Frame := [.native { method := ⟨0, 0⟩, args := #[] }]
def about1 : State := aboutOver below0
def p0 : Program := .bare "" "" ""
def e0 : Env := launch0.env 0 0 0
theorem w_frames : about1.frames = Frame.invoking theMethod args0 :: below0 := rfl
set_option maxRecDepth 65536 in
theorem w_args : argsFit about1.vm theMethod args0 = true := by decide +kernel
set_option maxRecDepth 65536 in
theorem w_heap : heapFits about1 = true := by decide +kernel
set_option maxRecDepth 65536 in
theorem w_runnable : about1.curStatus? = some .runnable := by decide +kernel
set_option maxRecDepth 65536 in
theorem w_alone : about1.alone = true := by decide +kernel
set_option maxRecDepth 65536 in
theorem w_named : about1.methodNamed? x = some theMethod := by decide +kernel
set_option maxRecDepth 65536 in
theorem w_hears : about1.hears theMethod below0 = true := by decide +kernel
set_option maxRecDepth 65536 in
theorem w_ripe : about1.ripe theMethod args0 below0 = true := by decide +kernel
theorem w_running : about1.status = .running := rfl
set_option maxRecDepth 65536 in
theorem w_room : about1.hasRoom e0.platform room_1 = true :=
  launch0.hasRoom_least _ room_1 (by decide +kernel) (by decide +kernel) (by decide +kernel) (by decide +kernel) (by decide +kernel) (by decide +kernel)
theorem allAtoms_all (ts : List Jvm.Cond) (a : Array Jvm.Value) (st : Jvm.State) : (allAtoms ts).before a st = ts.all (fun c => c.before a st) := by
  induction ts with
  | nil => rfl
  | cons c t ih =>
    show (Jvm.Cond.and c (allAtoms t)).before a st = _
    rw [Jvm.Cond.before_and, ih, List.all_cons]
def words1 : List Jvm.Cond := Jvm.Cond.code x code maxLocals ret :: tables_1
/-- a 'code' word, met by the world's own term for the bytes: nothing is compared byte by byte -/
theorem code_word {y : MethodName} {bytes : ByteArray} {mx : Nat} {rt : Option FieldType} {a : Array Value} {s : State} {m : MethodId} {meth : Method} {c : Code} (h1 : s.methodNamed? y = some m) (h2 : s.vm.method? m = some meth) (h3 : meth.code = some c) (h4 : c.code = bytes)
    (h5 : (c.maxLocals == mx && c.exceptionTable.isEmpty && decide (c.maxStack ≤ mostOperands) && decide (meth.sig.returnType = rt) && !meth.locks && decide (parseMethodDescriptor y.desc = some meth.sig)) = true) : (Jvm.Cond.code y bytes mx rt).before a s = true := by
  simp only [Bool.and_eq_true, beq_iff_eq, Bool.not_eq_true', decide_eq_true_eq] at h5
  obtain ⟨⟨⟨⟨⟨g1, g2⟩, g3⟩, g4⟩, g5⟩, g6⟩ := h5
  simp [Cond.before, Cond.holds, Cond.value, h1, h2, h3, h4, g1, g2, g3, g4, g5, g6]
def isCode : Jvm.Cond → Bool
  | .code _ _ _ _ => true
  | _ => false
theorem all_split {L : List Jvm.Cond} {P : Jvm.Cond → Bool} (h1 : L.all (fun c => isCode c || P c) = true) (h2 : ∀ c ∈ L.filter isCode, P c = true) : L.all P = true := by
  refine List.all_eq_true.mpr fun c hc => ?_
  have h := List.all_eq_true.mp h1 c hc
  rcases Bool.eq_false_or_eq_true (isCode c) with hi | hi
  · exact h2 c (List.mem_filter.mpr ⟨hc, hi⟩)
  · simpa [hi] using h
set_option maxRecDepth 65536 in
theorem w_c0 : (Jvm.Cond.code x code maxLocals ret).before args0 about1 = true := code_word (m := ⟨1, 1⟩) (meth := k1m1) (c := k1c1) (by decide +kernel) rfl rfl rfl (by decide +kernel)
set_option maxRecDepth 65536 in
theorem w_c1 : (Jvm.Cond.code ({ cls := "com/example/throttlua/throttlua/failure/Verdict", name := "refusing", desc := "(JJJ)Lcom/example/throttlua/throttlua/failure/Verdict;" } : Jvm.MethodName) prog_9_method_3_code (6 : Nat) (Option.some (Jvm.ClassFile.FieldType.object "com/example/throttlua/throttlua/failure/Verdict"))).before args0 about1 = true := code_word (m := ⟨3, 1⟩) (meth := k3m1) (c := k3c1) (by decide +kernel) rfl rfl rfl (by decide +kernel)
set_option maxRecDepth 65536 in
theorem w_c2 : (Jvm.Cond.code ({ cls := "com/example/throttlua/throttlua/failure/Verdict", name := "<init>", desc := "(JJJJLjava/lang/Runnable;)V" } : Jvm.MethodName) prog_9_method_1_code (10 : Nat) (Option.none : Option Jvm.ClassFile.FieldType)).before args0 about1 = true := code_word (m := ⟨3, 0⟩) (meth := k3m0) (c := k3c0) (by decide +kernel) rfl rfl rfl (by decide +kernel)
set_option maxRecDepth 65536 in
theorem w_c3 : (Jvm.Cond.code ({ cls := "java/lang/Record", name := "<init>", desc := "()V" } : Jvm.MethodName) jdk_30_method_1_code (1 : Nat) (Option.none : Option Jvm.ClassFile.FieldType)).before args0 about1 = true := code_word (m := ⟨2, 0⟩) (meth := k2m0) (c := k2c0) (by decide +kernel) rfl rfl rfl (by decide +kernel)
set_option maxRecDepth 65536 in
theorem w_c4 : (Jvm.Cond.code ({ cls := "java/lang/Object", name := "<init>", desc := "()V" } : Jvm.MethodName) object_method_1_code (1 : Nat) (Option.none : Option Jvm.ClassFile.FieldType)).before args0 about1 = true := code_word (m := ⟨0, 0⟩) (meth := k0m0) (c := k0c0) (by decide +kernel) rfl rfl rfl (by decide +kernel)
set_option maxRecDepth 65536 in
theorem w_c5 : (Jvm.Cond.code ({ cls := "com/example/throttlua/throttlua/failure/Verdict", name := "remaining", desc := "()J" } : Jvm.MethodName) prog_9_method_8_code (1 : Nat) (Option.some Jvm.ClassFile.FieldType.long)).before args0 about1 = true := code_word (m := ⟨3, 3⟩) (meth := k3m3) (c := k3c3) (by decide +kernel) rfl rfl rfl (by decide +kernel)
set_option maxRecDepth 65536 in
theorem w_c6 : (Jvm.Cond.code ({ cls := "com/example/throttlua/throttlua/failure/Verdict", name := "waitMillis", desc := "()J" } : Jvm.MethodName) prog_9_method_9_code (1 : Nat) (Option.some Jvm.ClassFile.FieldType.long)).before args0 about1 = true := code_word (m := ⟨3, 4⟩) (meth := k3m4) (c := k3c4) (by decide +kernel) rfl rfl rfl (by decide +kernel)
set_option maxRecDepth 65536 in
theorem w_c7 : (Jvm.Cond.code ({ cls := "com/example/throttlua/throttlua/failure/Verdict", name := "lagMillis", desc := "()J" } : Jvm.MethodName) prog_9_method_10_code (1 : Nat) (Option.some Jvm.ClassFile.FieldType.long)).before args0 about1 = true := code_word (m := ⟨3, 5⟩) (meth := k3m5) (c := k3c5) (by decide +kernel) rfl rfl rfl (by decide +kernel)
set_option maxRecDepth 65536 in
theorem w_c8 : (Jvm.Cond.code ({ cls := "com/example/throttlua/throttlua/failure/Verdict", name := "livesMillis", desc := "()J" } : Jvm.MethodName) prog_9_method_11_code (1 : Nat) (Option.some Jvm.ClassFile.FieldType.long)).before args0 about1 = true := code_word (m := ⟨3, 6⟩) (meth := k3m6) (c := k3c6) (by decide +kernel) rfl rfl rfl (by decide +kernel)
set_option maxRecDepth 65536 in
theorem w_c9 : (Jvm.Cond.code ({ cls := "com/example/throttlua/throttlua/failure/Verdict", name := "take", desc := "()Ljava/lang/Runnable;" } : Jvm.MethodName) prog_9_method_12_code (1 : Nat) (Option.some (Jvm.ClassFile.FieldType.object "java/lang/Runnable"))).before args0 about1 = true := code_word (m := ⟨3, 7⟩) (meth := k3m7) (c := k3c7) (by decide +kernel) rfl rfl rfl (by decide +kernel)
set_option maxRecDepth 65536 in
theorem w_c10 : (Jvm.Cond.code ({ cls := "com/example/throttlua/throttlua/failure/Verdict", name := "grants", desc := "()Z" } : Jvm.MethodName) prog_9_method_4_code (1 : Nat) (Option.some Jvm.ClassFile.FieldType.boolean)).before args0 about1 = true := code_word (m := ⟨3, 2⟩) (meth := k3m2) (c := k3c2) (by decide +kernel) rfl rfl rfl (by decide +kernel)
def codes1 : List Jvm.Cond := [Jvm.Cond.code x code maxLocals ret, Jvm.Cond.code ({ cls := "com/example/throttlua/throttlua/failure/Verdict", name := "refusing", desc := "(JJJ)Lcom/example/throttlua/throttlua/failure/Verdict;" } : Jvm.MethodName) prog_9_method_3_code (6 : Nat) (Option.some (Jvm.ClassFile.FieldType.object "com/example/throttlua/throttlua/failure/Verdict")), Jvm.Cond.code ({ cls := "com/example/throttlua/throttlua/failure/Verdict", name := "<init>", desc := "(JJJJLjava/lang/Runnable;)V" } : Jvm.MethodName) prog_9_method_1_code (10 : Nat) (Option.none : Option Jvm.ClassFile.FieldType), Jvm.Cond.code ({ cls := "java/lang/Record", name := "<init>", desc := "()V" } : Jvm.MethodName) jdk_30_method_1_code (1 : Nat) (Option.none : Option Jvm.ClassFile.FieldType), Jvm.Cond.code ({ cls := "java/lang/Object", name := "<init>", desc := "()V" } : Jvm.MethodName) object_method_1_code (1 : Nat) (Option.none : Option Jvm.ClassFile.FieldType), Jvm.Cond.code ({ cls := "com/example/throttlua/throttlua/failure/Verdict", name := "remaining", desc := "()J" } : Jvm.MethodName) prog_9_method_8_code (1 : Nat) (Option.some Jvm.ClassFile.FieldType.long), Jvm.Cond.code ({ cls := "com/example/throttlua/throttlua/failure/Verdict", name := "waitMillis", desc := "()J" } : Jvm.MethodName) prog_9_method_9_code (1 : Nat) (Option.some Jvm.ClassFile.FieldType.long), Jvm.Cond.code ({ cls := "com/example/throttlua/throttlua/failure/Verdict", name := "lagMillis", desc := "()J" } : Jvm.MethodName) prog_9_method_10_code (1 : Nat) (Option.some Jvm.ClassFile.FieldType.long), Jvm.Cond.code ({ cls := "com/example/throttlua/throttlua/failure/Verdict", name := "livesMillis", desc := "()J" } : Jvm.MethodName) prog_9_method_11_code (1 : Nat) (Option.some Jvm.ClassFile.FieldType.long), Jvm.Cond.code ({ cls := "com/example/throttlua/throttlua/failure/Verdict", name := "take", desc := "()Ljava/lang/Runnable;" } : Jvm.MethodName) prog_9_method_12_code (1 : Nat) (Option.some (Jvm.ClassFile.FieldType.object "java/lang/Runnable")), Jvm.Cond.code ({ cls := "com/example/throttlua/throttlua/failure/Verdict", name := "grants", desc := "()Z" } : Jvm.MethodName) prog_9_method_4_code (1 : Nat) (Option.some Jvm.ClassFile.FieldType.boolean)]
set_option maxRecDepth 65536 in
theorem codes_eq : words1.filter isCode = codes1 := rfl
theorem w_codes : ∀ c ∈ words1.filter isCode, c.before args0 about1 = true := by
  rw [codes_eq]
  intro c hc
  simp only [codes1, List.mem_cons, List.not_mem_nil, or_false] at hc
  rcases hc with rfl | rfl | rfl | rfl | rfl | rfl | rfl | rfl | rfl | rfl | rfl
  · exact w_c0
  · exact w_c1
  · exact w_c2
  · exact w_c3
  · exact w_c4
  · exact w_c5
  · exact w_c6
  · exact w_c7
  · exact w_c8
  · exact w_c9
  · exact w_c10
set_option maxRecDepth 65536 in
theorem w_t1 : (words1.take 24).all (fun c => isCode c || c.before args0 about1) = true := by decide +kernel
set_option maxRecDepth 65536 in
theorem w_t2 : ((words1.drop 24).take 24).all (fun c => isCode c || c.before args0 about1) = true := by decide +kernel
set_option maxRecDepth 65536 in
theorem w_t3 : ((words1.drop 24).drop 24).all (fun c => isCode c || c.before args0 about1) = true := by decide +kernel
theorem w_tables : (allAtoms (Jvm.Cond.code x code maxLocals ret :: tables_1)).before args0 about1 = true := by
  rw [allAtoms_all]
  show words1.all (fun c => c.before args0 about1) = true
  refine all_split ?_ w_codes
  rw [← List.take_append_drop 24 words1, List.all_append, w_t1, ← List.take_append_drop 24 (words1.drop 24), List.all_append, w_t2, w_t3]
  rfl
set_option maxRecDepth 65536 in
theorem w_case : (Jvm.Cond.and given_1 narrow_1).before args0 about1 = true := by decide +kernel
theorem w_applies : (headSpec (Jvm.Cond.code x code maxLocals ret :: tables_1) room_1).applies x e0.platform about1 = true :=
  (Spec.applies_iff w_frames).mpr ⟨w_running, w_runnable, w_alone, w_named, w_hears, w_ripe, w_room, w_tables⟩
theorem atStart : AtStart classFile x code maxLocals ret World_1 tables_1 room_1 Calls_1 rest_1 Pre_1 launch0 p0 e0 about1 theMethod args0 below0 :=
  ⟨lists_1, trivial, launch0.admits_env _ _ _, launch0.least_env, fairChoices_fair.cas, fairChoices_fair.clock, w_frames, w_args, w_heap, w_applies, trivial, trivial, w_case⟩
end start1
theorem witness_1 : WitnessClaimed_1 := ⟨start1.p0, start1.e0, start1.about1, start1.theMethod, start1.args0, start1.below0, start1.atStart⟩
end Jvm.Pilot.@@N@@
