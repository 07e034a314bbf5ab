import JvmDerived
import JvmDerived.Pilot.@@N@@Statement
import JvmDerived.Pilot.@@N@@Code
set_option linter.unusedVariables false
set_option linter.unusedSimpArgs false
namespace Jvm.RoadKit
open Sem ClassFile Op Lib Jvm.Stand Jvm.Free Jvm.LawKit
section New
variable {p : Program} {l : Launch} {e : Env} {R : Room} {s : State} {m : MethodId} {args : Array Value} {below : List Frame} {meth : Method} {c : Code} {T : State} {locs : List Loc} {cells slots : Nat}
theorem retI (X : Stand p l e R s m args below meth c T locs cells slots) (hx : p.tables.exec = Jvm.exec) {pc : Nat} {Ls : Array Slot} {z : Int32} {rest : List Value} (hret : meth.sig.returnType = some .int) (hd : decode c.code pc = .ok (.ireturn, 1)) {fs : List Frame}
    (hl : ∀ (f : JFrame) (acts : List Action), f.method = m → f.locked = none → f.entered = [] → (doReturn e (T.setTop f) acts (some (.int z))).1 = T.setFrames fs) : Steps p.tables e below (T.setTop (mkF m pc Ls (.int z :: rest))) (T.setFrames fs) := by
  have hm' : T.vm.method? m = some meth := X.method'
  have hn : narrow .int (.int z) = .int z := rfl
  show Steps p.tables e below (T.setTop { method := m, pc := pc, locals := Ls, stack := _ :: rest, locked := none }) _
  jvm_step X.here [X.here.top, hx, hd, hm', hret, hn]
  first | (intro acts; rw [hl _ acts rfl rfl rfl]) | rw [hl _ _ rfl rfl rfl]
  exact Steps.refl _
theorem own_join {n0 : Nat} (X : Stand p l e R s m args below meth c T locs cells slots) (N : Fr n0 locs) {h : Heap} (g g' : JFrame)
    (H : ∃ (T' : State) (locs' : List Loc), Stand p l e R s m args below meth c T' locs' cells slots ∧ Fr n0 locs' ∧ T'.heap = h ∧ ∀ t, Steps p.tables e below (T'.setTop g') t → Steps p.tables e below (T.setTop g) t) :
    ∃ (T' : State) (locs' : List Loc), Stand p l e R s m args below meth c T' locs' cells slots ∧ Fr n0 locs' ∧ T'.heap = h ∧ ∀ t, Steps p.tables e below (T'.setTop g') t → Steps p.tables e below (T.setTop g) t := H
theorem own_mono (X : Stand p l e R s m args below meth c T locs cells slots) {c' s' : Nat} (h1 : cells ≤ c') (h2 : slots ≤ s') : Stand p l e R s m args below meth c T locs c' s' :=
  ⟨X.admits, X.cas, X.clock, X.frames, X.room, X.hears, X.method, X.code, X.here, X.tail, X.warmed, X.limits, X.bytes, X.same.mono h1 h2⟩
theorem own_lrem {g : JFrame} {target : State} (X : Stand p l e R s m args below meth c T locs cells slots) (hx : p.tables.exec = Jvm.exec) (hg : g.method = m) {x y : Int64} {rest : List Value} (hd : decode c.code g.pc = .ok (.lrem, 1)) (hs : g.stack = .long y :: .long x :: rest) (hy : y ≠ 0)
    (hr : Steps p.tables e below (T.setTop { g with pc := g.pc + 1, stack := .long (x % y) :: rest }) target) : Steps p.tables e below (T.setTop g) target :=
  Jvm.Free.XS.lrem X.here hx hg hd hs hy (by rw [lrem_mod x y]; exact hr)
def Bya (Z : State) (h : Heap) (a : Addr) (z : Int32) (f : Int32 → Int32) : Prop := ∃ c : Cell, Arr Z h a c .byte ∧ c.slots.size = z.toNatClampNeg ∧ ∀ j : Int32, ¬ j < 0 → j < z → c.slots[j.toNatClampNeg]? = some (.int (f j))
theorem Bya.lt {Z : State} {h : Heap} {a : Addr} {z : Int32} {f : Int32 → Int32} (F : Bya Z h a z f) : a < h.size := by obtain ⟨c, A, -⟩ := F; exact A.lt
theorem Bya.ext {Z : State} {h h' : Heap} {a : Addr} {z : Int32} {f : Int32 → Int32} (F : Bya Z h a z f) (E : Ext h h') : Bya Z h' a z f := by obtain ⟨c, A, r⟩ := F; exact ⟨c, A.ext E, r⟩
theorem Bya.other {Z : State} {h h' : Heap} {a b : Addr} {z : Int32} {f : Int32 → Int32} {sl : Nat} {v : Value} (F : Bya Z h b z f) (W : Wr h h' a sl v) (q : b ≠ a) : Bya Z h' b z f := by obtain ⟨c, A, r⟩ := F; exact ⟨c, A.other W q, r⟩
theorem Bya.keep {Z : State} {h h' : Heap} {a : Addr} {z : Int32} {f : Int32 → Int32} {ws : List Addr} (F : Bya Z h a z f) (K : Keep h h' ws) (q : a ∉ ws) : Bya Z h' a z f := by obtain ⟨c, A, r⟩ := F; exact ⟨c, ⟨K.2.1 a c A.1 q, A.2⟩, r⟩
theorem Bya.set {Z : State} {h h' : Heap} {a : Addr} {z j v : Int32} {f : Int32 → Int32} {c : Cell} (A : Arr Z h a c .byte) (S : c.slots.size = z.toNatClampNeg) (H : ∀ j : Int32, ¬ j < 0 → j < z → c.slots[j.toNatClampNeg]? = some (.int (f j))) (hj : ¬ j < 0 ∧ j < z) (W : Wr h h' a j.toNatClampNeg (.int v)) : Bya Z h' a z (fun i => if i = j then v else f i) := by
  refine ⟨_, A.same W, by rw [sz_set]; exact S, fun i h1 h2 => ?_⟩
  by_cases q : i = j
  · rw [get_hit (inb_of S hj) q]; simp [q]
  · rw [get_miss hj.1 h1 q, H i h1 h2]; simp [q]
theorem Bya.of_arv {Z : State} {h : Heap} {a : Addr} {k : ClassId} {z : Int32} {vs : List Value} {es : List Int32} (F : Arv Z h a k .byte z vs (.int (0 : Int32))) (e : vs = es.map Value.int) : Bya Z h a z (fun i => es.getD i.toNatClampNeg 0) := by
  obtain ⟨c, A, -, S, -, H, -⟩ := F
  refine ⟨c, A, S, fun j h1 h2 => ?_⟩
  refine H.at (inb_of S ⟨h1, h2⟩) ?_
  subst e
  simp only [List.getD_eq_getElem?_getD, List.getElem?_map]
  cases es[j.toNatClampNeg]? <;> rfl
theorem own_b1 {x : Int32} (h : x = 1) : ¬ x = 0 := by rw [h]; decide
theorem own_cons {α : Type} {a b : α} {l m : List α} (h1 : a = b) (h2 : l = m) : a :: l = b :: m := by rw [h1, h2]
theorem own_arv {Z : State} {h : Heap} {a : Addr} {k : ClassId} {ty : FieldType} {z : Int32} {vs ws : List Value} {d : Value} (A : Arv Z h a k ty z vs d) (q : ws = vs) : Arv Z h a k ty z ws d := q ▸ A
theorem own_fld {Z : State} {h : Heap} {a : Addr} {C n d : String} {v w : Value} (F : Fld Z h a C n d v) (q : w = v) : Fld Z h a C n d w := q ▸ F
end New
end Jvm.RoadKit
namespace Jvm.Pilot.@@N@@
open Jvm Jvm.ClassFile Sem Op Lib Jvm.Free Jvm.Stand Jvm.LawKit Jvm.RoadKit Bundle Jvm.Pilot.@@N@@.Jvm.D
theorem ow0 {Z : State} {a0 : Array Value} (hw : ∀ d ∈ tables_1, d.before a0 Z = true) : (Jvm.Cond.classLink "com/example/halozat/halozat/node/LeaderHearPinLaw" (7 : Nat) "com/example/halozat/halozat/node/Leader").before a0 Z = true := hw _ (List.mem_of_getElem? (i := 0) rfl)
theorem ow1 {Z : State} {a0 : Array Value} (hw : ∀ d ∈ tables_1, d.before a0 Z = true) : (Jvm.Cond.instantiable "com/example/halozat/halozat/node/Leader" (8 : Nat)).before a0 Z = true := hw _ (List.mem_of_getElem? (i := 1) rfl)
theorem ow2 {Z : State} {a0 : Array Value} (hw : ∀ d ∈ tables_1, d.before a0 Z = true) : (Jvm.Cond.initialized "com/example/halozat/halozat/node/Leader").before a0 Z = true := hw _ (List.mem_of_getElem? (i := 2) rfl)
theorem ow3 {Z : State} {a0 : Array Value} (hw : ∀ d ∈ tables_1, d.before a0 Z = true) : (Jvm.Cond.methodLink "com/example/halozat/halozat/node/LeaderHearPinLaw" (9 : Nat) ({ cls := "com/example/halozat/halozat/node/Leader", name := "<init>", desc := "(IJ)V" } : Jvm.MethodName)).before a0 Z = true := hw _ (List.mem_of_getElem? (i := 3) rfl)
theorem ow4 {Z : State} {a0 : Array Value} (hw : ∀ d ∈ tables_1, d.before a0 Z = true) : (Jvm.Cond.instanceMethod ({ cls := "com/example/halozat/halozat/node/Leader", name := "<init>", desc := "(IJ)V" } : Jvm.MethodName)).before a0 Z = true := hw _ (List.mem_of_getElem? (i := 4) rfl)
theorem ow5 {Z : State} {a0 : Array Value} (hw : ∀ d ∈ tables_1, d.before a0 Z = true) : (Jvm.Cond.code ({ cls := "com/example/halozat/halozat/node/Leader", name := "<init>", desc := "(IJ)V" } : Jvm.MethodName) prog_81_method_1_code (4 : Nat) (Option.none : Option Jvm.ClassFile.FieldType)).before a0 Z = true := hw _ (List.mem_of_getElem? (i := 5) rfl)
theorem ow6 {Z : State} {a0 : Array Value} (hw : ∀ d ∈ tables_1, d.before a0 Z = true) : (Jvm.Cond.methodLink "com/example/halozat/halozat/node/Leader" (3 : Nat) ({ cls := "java/lang/Object", name := "<init>", desc := "()V" } : Jvm.MethodName)).before a0 Z = true := hw _ (List.mem_of_getElem? (i := 6) rfl)
theorem ow7 {Z : State} {a0 : Array Value} (hw : ∀ d ∈ tables_1, d.before a0 Z = true) : (Jvm.Cond.instanceMethod ({ cls := "java/lang/Object", name := "<init>", desc := "()V" } : Jvm.MethodName)).before a0 Z = true := hw _ (List.mem_of_getElem? (i := 7) rfl)
theorem ow8 {Z : State} {a0 : Array Value} (hw : ∀ d ∈ tables_1, d.before a0 Z = true) : (Jvm.Cond.code ({ cls := "java/lang/Object", name := "<init>", desc := "()V" } : Jvm.MethodName) object_method_1_code (1 : Nat) (Option.none : Option Jvm.ClassFile.FieldType)).before a0 Z = true := hw _ (List.mem_of_getElem? (i := 8) rfl)
theorem ow9 {Z : State} {a0 : Array Value} (hw : ∀ d ∈ tables_1, d.before a0 Z = true) : (Jvm.Cond.fieldLink "com/example/halozat/halozat/node/Leader" (9 : Nat) "com/example/halozat/halozat/node/Leader" "dropped" "I").before a0 Z = true := hw _ (List.mem_of_getElem? (i := 9) rfl)
theorem ow10 {Z : State} {a0 : Array Value} (hw : ∀ d ∈ tables_1, d.before a0 Z = true) : (Jvm.Cond.lays "com/example/halozat/halozat/node/Leader" "com/example/halozat/halozat/node/Leader" "dropped" "I").before a0 Z = true := hw _ (List.mem_of_getElem? (i := 10) rfl)
theorem ow11 {Z : State} {a0 : Array Value} (hw : ∀ d ∈ tables_1, d.before a0 Z = true) : (Jvm.Cond.constantLong "com/example/halozat/halozat/node/Leader" (15 : Nat) (9223372036854775807 : Int64)).before a0 Z = true := hw _ (List.mem_of_getElem? (i := 11) rfl)
theorem ow12 {Z : State} {a0 : Array Value} (hw : ∀ d ∈ tables_1, d.before a0 Z = true) : (Jvm.Cond.fieldLink "com/example/halozat/halozat/node/Leader" (17 : Nat) "com/example/halozat/halozat/node/Leader" "checkAt" "J").before a0 Z = true := hw _ (List.mem_of_getElem? (i := 12) rfl)
theorem ow13 {Z : State} {a0 : Array Value} (hw : ∀ d ∈ tables_1, d.before a0 Z = true) : (Jvm.Cond.lays "com/example/halozat/halozat/node/Leader" "com/example/halozat/halozat/node/Leader" "checkAt" "J").before a0 Z = true := hw _ (List.mem_of_getElem? (i := 13) rfl)
theorem ow14 {Z : State} {a0 : Array Value} (hw : ∀ d ∈ tables_1, d.before a0 Z = true) : (Jvm.Cond.fieldLink "com/example/halozat/halozat/node/Leader" (21 : Nat) "com/example/halozat/halozat/node/Leader" "node" "I").before a0 Z = true := hw _ (List.mem_of_getElem? (i := 14) rfl)
theorem ow15 {Z : State} {a0 : Array Value} (hw : ∀ d ∈ tables_1, d.before a0 Z = true) : (Jvm.Cond.lays "com/example/halozat/halozat/node/Leader" "com/example/halozat/halozat/node/Leader" "node" "I").before a0 Z = true := hw _ (List.mem_of_getElem? (i := 15) rfl)
theorem ow16 {Z : State} {a0 : Array Value} (hw : ∀ d ∈ tables_1, d.before a0 Z = true) : (Jvm.Cond.fieldLink "com/example/halozat/halozat/node/Leader" (24 : Nat) "com/example/halozat/halozat/node/Leader" "raisedAt" "J").before a0 Z = true := hw _ (List.mem_of_getElem? (i := 16) rfl)
theorem ow17 {Z : State} {a0 : Array Value} (hw : ∀ d ∈ tables_1, d.before a0 Z = true) : (Jvm.Cond.lays "com/example/halozat/halozat/node/Leader" "com/example/halozat/halozat/node/Leader" "raisedAt" "J").before a0 Z = true := hw _ (List.mem_of_getElem? (i := 17) rfl)
theorem ow18 {Z : State} {a0 : Array Value} (hw : ∀ d ∈ tables_1, d.before a0 Z = true) : (Jvm.Cond.fieldLink "com/example/halozat/halozat/node/Leader" (27 : Nat) "com/example/halozat/halozat/node/Leader" "since" "J").before a0 Z = true := hw _ (List.mem_of_getElem? (i := 18) rfl)
theorem ow19 {Z : State} {a0 : Array Value} (hw : ∀ d ∈ tables_1, d.before a0 Z = true) : (Jvm.Cond.lays "com/example/halozat/halozat/node/Leader" "com/example/halozat/halozat/node/Leader" "since" "J").before a0 Z = true := hw _ (List.mem_of_getElem? (i := 19) rfl)
theorem ow20 {Z : State} {a0 : Array Value} (hw : ∀ d ∈ tables_1, d.before a0 Z = true) : (Jvm.Cond.methodLink "com/example/halozat/halozat/node/LeaderHearPinLaw" (12 : Nat) ({ cls := "com/example/halozat/halozat/node/Leader", name := "hear", desc := "(IIJJ)Z" } : Jvm.MethodName)).before a0 Z = true := hw _ (List.mem_of_getElem? (i := 20) rfl)
theorem ow21 {Z : State} {a0 : Array Value} (hw : ∀ d ∈ tables_1, d.before a0 Z = true) : (Jvm.Cond.declares ({ cls := "com/example/halozat/halozat/node/Leader", name := "hear", desc := "(IIJJ)Z" } : Jvm.MethodName)).before a0 Z = true := hw _ (List.mem_of_getElem? (i := 21) rfl)
theorem ow22 {Z : State} {a0 : Array Value} (hw : ∀ d ∈ tables_1, d.before a0 Z = true) : (Jvm.Cond.instanceMethod ({ cls := "com/example/halozat/halozat/node/Leader", name := "hear", desc := "(IIJJ)Z" } : Jvm.MethodName)).before a0 Z = true := hw _ (List.mem_of_getElem? (i := 22) rfl)
theorem ow23 {Z : State} {a0 : Array Value} (hw : ∀ d ∈ tables_1, d.before a0 Z = true) : (Jvm.Cond.selects "com/example/halozat/halozat/node/Leader" ({ cls := "com/example/halozat/halozat/node/Leader", name := "hear", desc := "(IIJJ)Z" } : Jvm.MethodName) ({ cls := "com/example/halozat/halozat/node/Leader", name := "hear", desc := "(IIJJ)Z" } : Jvm.MethodName)).before a0 Z = true := hw _ (List.mem_of_getElem? (i := 23) rfl)
theorem ow24 {Z : State} {a0 : Array Value} (hw : ∀ d ∈ tables_1, d.before a0 Z = true) : (Jvm.Cond.code ({ cls := "com/example/halozat/halozat/node/Leader", name := "hear", desc := "(IIJJ)Z" } : Jvm.MethodName) prog_81_method_8_code (10 : Nat) (Option.some Jvm.ClassFile.FieldType.boolean)).before a0 Z = true := hw _ (List.mem_of_getElem? (i := 24) rfl)
theorem ow25 {Z : State} {a0 : Array Value} (hw : ∀ d ∈ tables_1, d.before a0 Z = true) : (Jvm.Cond.constantLong "com/example/halozat/halozat/node/Leader" (42 : Nat) (5000 : Int64)).before a0 Z = true := hw _ (List.mem_of_getElem? (i := 25) rfl)
theorem ow26 {Z : State} {a0 : Array Value} (hw : ∀ d ∈ tables_1, d.before a0 Z = true) : (Jvm.Cond.fieldLink "com/example/halozat/halozat/node/Leader" (30 : Nat) "com/example/halozat/halozat/node/Leader" "beat" "I").before a0 Z = true := hw _ (List.mem_of_getElem? (i := 26) rfl)
theorem ow27 {Z : State} {a0 : Array Value} (hw : ∀ d ∈ tables_1, d.before a0 Z = true) : (Jvm.Cond.lays "com/example/halozat/halozat/node/Leader" "com/example/halozat/halozat/node/Leader" "beat" "I").before a0 Z = true := hw _ (List.mem_of_getElem? (i := 27) rfl)
theorem ow28 {Z : State} {a0 : Array Value} (hw : ∀ d ∈ tables_1, d.before a0 Z = true) : (Jvm.Cond.constantLong "com/example/halozat/halozat/node/LeaderHearPinLaw" (16 : Nat) (5000 : Int64)).before a0 Z = true := hw _ (List.mem_of_getElem? (i := 28) rfl)
theorem ow29 {Z : State} {a0 : Array Value} (hw : ∀ d ∈ tables_1, d.before a0 Z = true) : (Jvm.Cond.methodLink "com/example/halozat/halozat/node/LeaderHearPinLaw" (18 : Nat) ({ cls := "com/example/halozat/halozat/node/Leader", name := "heartbeat", desc := "(IIJ)Z" } : Jvm.MethodName)).before a0 Z = true := hw _ (List.mem_of_getElem? (i := 29) rfl)
theorem ow30 {Z : State} {a0 : Array Value} (hw : ∀ d ∈ tables_1, d.before a0 Z = true) : (Jvm.Cond.declares ({ cls := "com/example/halozat/halozat/node/Leader", name := "heartbeat", desc := "(IIJ)Z" } : Jvm.MethodName)).before a0 Z = true := hw _ (List.mem_of_getElem? (i := 30) rfl)
theorem ow31 {Z : State} {a0 : Array Value} (hw : ∀ d ∈ tables_1, d.before a0 Z = true) : (Jvm.Cond.instanceMethod ({ cls := "com/example/halozat/halozat/node/Leader", name := "heartbeat", desc := "(IIJ)Z" } : Jvm.MethodName)).before a0 Z = true := hw _ (List.mem_of_getElem? (i := 31) rfl)
theorem ow32 {Z : State} {a0 : Array Value} (hw : ∀ d ∈ tables_1, d.before a0 Z = true) : (Jvm.Cond.selects "com/example/halozat/halozat/node/Leader" ({ cls := "com/example/halozat/halozat/node/Leader", name := "heartbeat", desc := "(IIJ)Z" } : Jvm.MethodName) ({ cls := "com/example/halozat/halozat/node/Leader", name := "heartbeat", desc := "(IIJ)Z" } : Jvm.MethodName)).before a0 Z = true := hw _ (List.mem_of_getElem? (i := 32) rfl)
theorem ow33 {Z : State} {a0 : Array Value} (hw : ∀ d ∈ tables_1, d.before a0 Z = true) : (Jvm.Cond.code ({ cls := "com/example/halozat/halozat/node/Leader", name := "heartbeat", desc := "(IIJ)Z" } : Jvm.MethodName) prog_81_method_9_code (6 : Nat) (Option.some Jvm.ClassFile.FieldType.boolean)).before a0 Z = true := hw _ (List.mem_of_getElem? (i := 33) rfl)
theorem ow34 {Z : State} {a0 : Array Value} (hw : ∀ d ∈ tables_1, d.before a0 Z = true) : (Jvm.Cond.fieldLink "com/example/halozat/halozat/node/Leader" (39 : Nat) "com/example/halozat/halozat/node/Leader" "droppedBeat" "I").before a0 Z = true := hw _ (List.mem_of_getElem? (i := 34) rfl)
theorem ow35 {Z : State} {a0 : Array Value} (hw : ∀ d ∈ tables_1, d.before a0 Z = true) : (Jvm.Cond.lays "com/example/halozat/halozat/node/Leader" "com/example/halozat/halozat/node/Leader" "droppedBeat" "I").before a0 Z = true := hw _ (List.mem_of_getElem? (i := 35) rfl)
theorem ow36 {Z : State} {a0 : Array Value} (hw : ∀ d ∈ tables_1, d.before a0 Z = true) : (Jvm.Cond.methodLink "com/example/halozat/halozat/node/LeaderHearPinLaw" (22 : Nat) ({ cls := "com/example/halozat/halozat/node/Leader", name := "node", desc := "()I" } : Jvm.MethodName)).before a0 Z = true := hw _ (List.mem_of_getElem? (i := 36) rfl)
theorem ow37 {Z : State} {a0 : Array Value} (hw : ∀ d ∈ tables_1, d.before a0 Z = true) : (Jvm.Cond.declares ({ cls := "com/example/halozat/halozat/node/Leader", name := "node", desc := "()I" } : Jvm.MethodName)).before a0 Z = true := hw _ (List.mem_of_getElem? (i := 37) rfl)
theorem ow38 {Z : State} {a0 : Array Value} (hw : ∀ d ∈ tables_1, d.before a0 Z = true) : (Jvm.Cond.instanceMethod ({ cls := "com/example/halozat/halozat/node/Leader", name := "node", desc := "()I" } : Jvm.MethodName)).before a0 Z = true := hw _ (List.mem_of_getElem? (i := 38) rfl)
theorem ow39 {Z : State} {a0 : Array Value} (hw : ∀ d ∈ tables_1, d.before a0 Z = true) : (Jvm.Cond.selects "com/example/halozat/halozat/node/Leader" ({ cls := "com/example/halozat/halozat/node/Leader", name := "node", desc := "()I" } : Jvm.MethodName) ({ cls := "com/example/halozat/halozat/node/Leader", name := "node", desc := "()I" } : Jvm.MethodName)).before a0 Z = true := hw _ (List.mem_of_getElem? (i := 39) rfl)
theorem ow40 {Z : State} {a0 : Array Value} (hw : ∀ d ∈ tables_1, d.before a0 Z = true) : (Jvm.Cond.code ({ cls := "com/example/halozat/halozat/node/Leader", name := "node", desc := "()I" } : Jvm.MethodName) prog_81_method_2_code (1 : Nat) (Option.some Jvm.ClassFile.FieldType.int)).before a0 Z = true := hw _ (List.mem_of_getElem? (i := 40) rfl)
theorem ow41 {Z : State} {a0 : Array Value} (hw : ∀ d ∈ tables_1, d.before a0 Z = true) : (Jvm.Cond.methodLink "com/example/halozat/halozat/node/LeaderHearPinLaw" (26 : Nat) ({ cls := "com/example/halozat/halozat/node/Leader", name := "beat", desc := "()I" } : Jvm.MethodName)).before a0 Z = true := hw _ (List.mem_of_getElem? (i := 41) rfl)
theorem ow42 {Z : State} {a0 : Array Value} (hw : ∀ d ∈ tables_1, d.before a0 Z = true) : (Jvm.Cond.declares ({ cls := "com/example/halozat/halozat/node/Leader", name := "beat", desc := "()I" } : Jvm.MethodName)).before a0 Z = true := hw _ (List.mem_of_getElem? (i := 42) rfl)
theorem ow43 {Z : State} {a0 : Array Value} (hw : ∀ d ∈ tables_1, d.before a0 Z = true) : (Jvm.Cond.instanceMethod ({ cls := "com/example/halozat/halozat/node/Leader", name := "beat", desc := "()I" } : Jvm.MethodName)).before a0 Z = true := hw _ (List.mem_of_getElem? (i := 43) rfl)
theorem ow44 {Z : State} {a0 : Array Value} (hw : ∀ d ∈ tables_1, d.before a0 Z = true) : (Jvm.Cond.selects "com/example/halozat/halozat/node/Leader" ({ cls := "com/example/halozat/halozat/node/Leader", name := "beat", desc := "()I" } : Jvm.MethodName) ({ cls := "com/example/halozat/halozat/node/Leader", name := "beat", desc := "()I" } : Jvm.MethodName)).before a0 Z = true := hw _ (List.mem_of_getElem? (i := 44) rfl)
theorem ow45 {Z : State} {a0 : Array Value} (hw : ∀ d ∈ tables_1, d.before a0 Z = true) : (Jvm.Cond.code ({ cls := "com/example/halozat/halozat/node/Leader", name := "beat", desc := "()I" } : Jvm.MethodName) prog_81_method_3_code (1 : Nat) (Option.some Jvm.ClassFile.FieldType.int)).before a0 Z = true := hw _ (List.mem_of_getElem? (i := 45) rfl)
theorem ow46 {Z : State} {a0 : Array Value} (hw : ∀ d ∈ tables_1, d.before a0 Z = true) : (Jvm.Cond.methodLink "com/example/halozat/halozat/node/LeaderHearPinLaw" (29 : Nat) ({ cls := "com/example/halozat/halozat/node/Leader", name := "age", desc := "(J)J" } : Jvm.MethodName)).before a0 Z = true := hw _ (List.mem_of_getElem? (i := 46) rfl)
theorem ow47 {Z : State} {a0 : Array Value} (hw : ∀ d ∈ tables_1, d.before a0 Z = true) : (Jvm.Cond.declares ({ cls := "com/example/halozat/halozat/node/Leader", name := "age", desc := "(J)J" } : Jvm.MethodName)).before a0 Z = true := hw _ (List.mem_of_getElem? (i := 47) rfl)
theorem ow48 {Z : State} {a0 : Array Value} (hw : ∀ d ∈ tables_1, d.before a0 Z = true) : (Jvm.Cond.instanceMethod ({ cls := "com/example/halozat/halozat/node/Leader", name := "age", desc := "(J)J" } : Jvm.MethodName)).before a0 Z = true := hw _ (List.mem_of_getElem? (i := 48) rfl)
theorem ow49 {Z : State} {a0 : Array Value} (hw : ∀ d ∈ tables_1, d.before a0 Z = true) : (Jvm.Cond.selects "com/example/halozat/halozat/node/Leader" ({ cls := "com/example/halozat/halozat/node/Leader", name := "age", desc := "(J)J" } : Jvm.MethodName) ({ cls := "com/example/halozat/halozat/node/Leader", name := "age", desc := "(J)J" } : Jvm.MethodName)).before a0 Z = true := hw _ (List.mem_of_getElem? (i := 49) rfl)
theorem ow50 {Z : State} {a0 : Array Value} (hw : ∀ d ∈ tables_1, d.before a0 Z = true) : (Jvm.Cond.code ({ cls := "com/example/halozat/halozat/node/Leader", name := "age", desc := "(J)J" } : Jvm.MethodName) prog_81_method_4_code (3 : Nat) (Option.some Jvm.ClassFile.FieldType.long)).before a0 Z = true := hw _ (List.mem_of_getElem? (i := 50) rfl)
theorem ow51 {Z : State} {a0 : Array Value} (hw : ∀ d ∈ tables_1, d.before a0 Z = true) : (Jvm.Cond.methodLink "com/example/halozat/halozat/node/LeaderHearPinLaw" (33 : Nat) ({ cls := "com/example/halozat/halozat/node/Leader", name := "since", desc := "()J" } : Jvm.MethodName)).before a0 Z = true := hw _ (List.mem_of_getElem? (i := 51) rfl)
theorem ow52 {Z : State} {a0 : Array Value} (hw : ∀ d ∈ tables_1, d.before a0 Z = true) : (Jvm.Cond.declares ({ cls := "com/example/halozat/halozat/node/Leader", name := "since", desc := "()J" } : Jvm.MethodName)).before a0 Z = true := hw _ (List.mem_of_getElem? (i := 52) rfl)
theorem ow53 {Z : State} {a0 : Array Value} (hw : ∀ d ∈ tables_1, d.before a0 Z = true) : (Jvm.Cond.instanceMethod ({ cls := "com/example/halozat/halozat/node/Leader", name := "since", desc := "()J" } : Jvm.MethodName)).before a0 Z = true := hw _ (List.mem_of_getElem? (i := 53) rfl)
theorem ow54 {Z : State} {a0 : Array Value} (hw : ∀ d ∈ tables_1, d.before a0 Z = true) : (Jvm.Cond.selects "com/example/halozat/halozat/node/Leader" ({ cls := "com/example/halozat/halozat/node/Leader", name := "since", desc := "()J" } : Jvm.MethodName) ({ cls := "com/example/halozat/halozat/node/Leader", name := "since", desc := "()J" } : Jvm.MethodName)).before a0 Z = true := hw _ (List.mem_of_getElem? (i := 54) rfl)
theorem ow55 {Z : State} {a0 : Array Value} (hw : ∀ d ∈ tables_1, d.before a0 Z = true) : (Jvm.Cond.code ({ cls := "com/example/halozat/halozat/node/Leader", name := "since", desc := "()J" } : Jvm.MethodName) prog_81_method_5_code (1 : Nat) (Option.some Jvm.ClassFile.FieldType.long)).before a0 Z = true := hw _ (List.mem_of_getElem? (i := 55) rfl)
theorem ow56 {Z : State} {a0 : Array Value} (hw : ∀ d ∈ tables_1, d.before a0 Z = true) : (Jvm.Cond.constantLong "com/example/halozat/halozat/node/LeaderHearPinLaw" (37 : Nat) (1000 : Int64)).before a0 Z = true := hw _ (List.mem_of_getElem? (i := 56) rfl)
theorem ow57 {Z : State} {a0 : Array Value} (hw : ∀ d ∈ tables_1, d.before a0 Z = true) : (Jvm.Cond.constantLong "com/example/halozat/halozat/node/LeaderHearPinLaw" (41 : Nat) (9223372036854775807 : Int64)).before a0 Z = true := hw _ (List.mem_of_getElem? (i := 57) rfl)
theorem ow58 {Z : State} {a0 : Array Value} (hw : ∀ d ∈ tables_1, d.before a0 Z = true) : (Jvm.Cond.methodLink "com/example/halozat/halozat/node/LeaderHearPinLaw" (45 : Nat) ({ cls := "com/example/halozat/halozat/node/Leader", name := "far", desc := "()Z" } : Jvm.MethodName)).before a0 Z = true := hw _ (List.mem_of_getElem? (i := 58) rfl)
theorem ow59 {Z : State} {a0 : Array Value} (hw : ∀ d ∈ tables_1, d.before a0 Z = true) : (Jvm.Cond.declares ({ cls := "com/example/halozat/halozat/node/Leader", name := "far", desc := "()Z" } : Jvm.MethodName)).before a0 Z = true := hw _ (List.mem_of_getElem? (i := 59) rfl)
theorem ow60 {Z : State} {a0 : Array Value} (hw : ∀ d ∈ tables_1, d.before a0 Z = true) : (Jvm.Cond.instanceMethod ({ cls := "com/example/halozat/halozat/node/Leader", name := "far", desc := "()Z" } : Jvm.MethodName)).before a0 Z = true := hw _ (List.mem_of_getElem? (i := 60) rfl)
theorem ow61 {Z : State} {a0 : Array Value} (hw : ∀ d ∈ tables_1, d.before a0 Z = true) : (Jvm.Cond.selects "com/example/halozat/halozat/node/Leader" ({ cls := "com/example/halozat/halozat/node/Leader", name := "far", desc := "()Z" } : Jvm.MethodName) ({ cls := "com/example/halozat/halozat/node/Leader", name := "far", desc := "()Z" } : Jvm.MethodName)).before a0 Z = true := hw _ (List.mem_of_getElem? (i := 61) rfl)
theorem ow62 {Z : State} {a0 : Array Value} (hw : ∀ d ∈ tables_1, d.before a0 Z = true) : (Jvm.Cond.code ({ cls := "com/example/halozat/halozat/node/Leader", name := "far", desc := "()Z" } : Jvm.MethodName) prog_81_method_6_code (1 : Nat) (Option.some Jvm.ClassFile.FieldType.boolean)).before a0 Z = true := hw _ (List.mem_of_getElem? (i := 62) rfl)
theorem ow63 {Z : State} {a0 : Array Value} (hw : ∀ d ∈ tables_1, d.before a0 Z = true) : (Jvm.Cond.fieldLink "com/example/halozat/halozat/node/Leader" (33 : Nat) "com/example/halozat/halozat/node/Leader" "far" "Z").before a0 Z = true := hw _ (List.mem_of_getElem? (i := 63) rfl)
theorem ow64 {Z : State} {a0 : Array Value} (hw : ∀ d ∈ tables_1, d.before a0 Z = true) : (Jvm.Cond.lays "com/example/halozat/halozat/node/Leader" "com/example/halozat/halozat/node/Leader" "far" "Z").before a0 Z = true := hw _ (List.mem_of_getElem? (i := 64) rfl)
theorem ow65 {Z : State} {a0 : Array Value} (hw : ∀ d ∈ tables_1, d.before a0 Z = true) : (Jvm.Cond.constantLong "com/example/halozat/halozat/node/Leader" (37 : Nat) (1000 : Int64)).before a0 Z = true := hw _ (List.mem_of_getElem? (i := 65) rfl)
theorem ow66 {Z : State} {a0 : Array Value} (hw : ∀ d ∈ tables_1, d.before a0 Z = true) : (Jvm.Cond.constantLong "com/example/halozat/halozat/node/LeaderHearPinLaw" (43 : Nat) (2500 : Int64)).before a0 Z = true := hw _ (List.mem_of_getElem? (i := 66) rfl)
theorem ow67 {Z : State} {a0 : Array Value} (hw : ∀ d ∈ tables_1, d.before a0 Z = true) : (Jvm.Cond.constantLong "com/example/halozat/halozat/node/Leader" (44 : Nat) (2500 : Int64)).before a0 Z = true := hw _ (List.mem_of_getElem? (i := 67) rfl)
theorem own_ifc {α : Type} {c d : Prop} {ic : Decidable c} {jd : Decidable d} {x y u v : α} (h : c ↔ d) (h1 : x = u) (h2 : y = v) : (if c then x else y) = (if d then u else v) := by
  subst h1; subst h2
  by_cases q : c
  · rw [if_pos q, if_pos (h.mp q)]
  · rw [if_neg q, if_neg (fun r => q (h.mpr r))]
theorem d1_0 : decode prog_81_method_1_code 0 = .ok (.aload_n 0, 1) := by decide +kernel
theorem d1_1 : decode prog_81_method_1_code 1 = .ok (.invokespecial 3, 3) := by decide +kernel
theorem d1_4 : decode prog_81_method_1_code 4 = .ok (.aload_n 0, 1) := by decide +kernel
theorem d1_5 : decode prog_81_method_1_code 5 = .ok (.iconst (-1), 1) := by decide +kernel
theorem d1_6 : decode prog_81_method_1_code 6 = .ok (.putfield 9, 3) := by decide +kernel
theorem d1_9 : decode prog_81_method_1_code 9 = .ok (.aload_n 0, 1) := by decide +kernel
theorem d1_10 : decode prog_81_method_1_code 10 = .ok (.ldc2_w 15, 3) := by decide +kernel
theorem d1_13 : decode prog_81_method_1_code 13 = .ok (.putfield 17, 3) := by decide +kernel
theorem d1_16 : decode prog_81_method_1_code 16 = .ok (.aload_n 0, 1) := by decide +kernel
theorem d1_17 : decode prog_81_method_1_code 17 = .ok (.iload_n 1, 1) := by decide +kernel
theorem d1_18 : decode prog_81_method_1_code 18 = .ok (.putfield 21, 3) := by decide +kernel
theorem d1_21 : decode prog_81_method_1_code 21 = .ok (.aload_n 0, 1) := by decide +kernel
theorem d1_22 : decode prog_81_method_1_code 22 = .ok (.lload_n 2, 1) := by decide +kernel
theorem d1_23 : decode prog_81_method_1_code 23 = .ok (.putfield 24, 3) := by decide +kernel
theorem d1_26 : decode prog_81_method_1_code 26 = .ok (.aload_n 0, 1) := by decide +kernel
theorem d1_27 : decode prog_81_method_1_code 27 = .ok (.lload_n 2, 1) := by decide +kernel
theorem d1_28 : decode prog_81_method_1_code 28 = .ok (.putfield 27, 3) := by decide +kernel
theorem d1_31 : decode prog_81_method_1_code 31 = .ok (.return_, 1) := by decide +kernel
theorem pn_1 : plainName "com/example/halozat/halozat/node/Leader" = true := by first | (simp [plainName, overriddenIn]; done) | decide +kernel
theorem ef_rm1 (m : MethodId) (y0 : Addr) (y1 : Int32) (y2 : Int64) : entryFrame m #[(.ref y0), (.int y1), (.long y2)] 4 = mkF m 0 #[.val (.ref y0), .val (.int y1), .val (.long y2), .second] [] := by first | (simp [entryFrame, mkF, argsToLocals, Value.category]; done) | rfl
def Q_rm1 (Z : State) (a1_0 : Addr) (p1_1 : Int32) (q1_2 : Int64) (w_dropped_a1_0 : Int32) (w_checkAt_a1_0 : Int64) (w_node_a1_0 : Int32) (w_raisedAt_a1_0 : Int64) (w_since_a1_0 : Int64) (w_beat_a1_0 : Int32) (w_droppedBeat_a1_0 : Int32) (w_far_a1_0 : Int32) (h0 : Heap) (n0 : Nat) (v : Option Value) (h : Heap) (L : List Loc) : Prop := v = none ∧ Fr n0 L ∧ Keep h0 h [a1_0] ∧ Exa Z h a1_0 "com/example/halozat/halozat/node/Leader" ∧ Fld Z h a1_0 "com/example/halozat/halozat/node/Leader" "dropped" "I" (.int (-1 : Int32)) ∧ Fld Z h a1_0 "com/example/halozat/halozat/node/Leader" "checkAt" "J" (.long (9223372036854775807 : Int64)) ∧ Fld Z h a1_0 "com/example/halozat/halozat/node/Leader" "node" "I" (.int p1_1) ∧ Fld Z h a1_0 "com/example/halozat/halozat/node/Leader" "raisedAt" "J" (.long q1_2) ∧ Fld Z h a1_0 "com/example/halozat/halozat/node/Leader" "since" "J" (.long q1_2) ∧ Fld Z h a1_0 "com/example/halozat/halozat/node/Leader" "beat" "I" (.int w_beat_a1_0) ∧ Fld Z h a1_0 "com/example/halozat/halozat/node/Leader" "droppedBeat" "I" (.int w_droppedBeat_a1_0) ∧ Fld Z h a1_0 "com/example/halozat/halozat/node/Leader" "far" "Z" (.int w_far_a1_0)
set_option maxRecDepth 65536 in
set_option maxHeartbeats 40000000 in
theorem rm1 (l : Launch) (Z : State) (a0 : Array Value) (hw : ∀ d ∈ tables_1, d.before a0 Z = true) (ws : List Jvm.Cond) (a1_0 : Addr) (p1_1 : Int32) (q1_2 : Int64) (w_dropped_a1_0 : Int32) (w_checkAt_a1_0 : Int64) (w_node_a1_0 : Int32) (w_raisedAt_a1_0 : Int64) (w_since_a1_0 : Int64) (w_beat_a1_0 : Int32) (w_droppedBeat_a1_0 : Int32) (w_far_a1_0 : Int32) (h0 : Heap) (n0 : Nat) (Z0 : n0 ≤ h0.size) (E_a1_0 : Exa Z h0 a1_0 "com/example/halozat/halozat/node/Leader") (F_dropped_a1_0 : Fld Z h0 a1_0 "com/example/halozat/halozat/node/Leader" "dropped" "I" (.int w_dropped_a1_0)) (g_a1_0 : n0 ≤ a1_0) (F_checkAt_a1_0 : Fld Z h0 a1_0 "com/example/halozat/halozat/node/Leader" "checkAt" "J" (.long w_checkAt_a1_0)) (F_node_a1_0 : Fld Z h0 a1_0 "com/example/halozat/halozat/node/Leader" "node" "I" (.int w_node_a1_0)) (F_raisedAt_a1_0 : Fld Z h0 a1_0 "com/example/halozat/halozat/node/Leader" "raisedAt" "J" (.long w_raisedAt_a1_0)) (F_since_a1_0 : Fld Z h0 a1_0 "com/example/halozat/halozat/node/Leader" "since" "J" (.long w_since_a1_0)) (F_beat_a1_0 : Fld Z h0 a1_0 "com/example/halozat/halozat/node/Leader" "beat" "I" (.int w_beat_a1_0)) (F_droppedBeat_a1_0 : Fld Z h0 a1_0 "com/example/halozat/halozat/node/Leader" "droppedBeat" "I" (.int w_droppedBeat_a1_0)) (F_far_a1_0 : Fld Z h0 a1_0 "com/example/halozat/halozat/node/Leader" "far" "Z" (.int w_far_a1_0)) :
    MetFree l (⟨"com/example/halozat/halozat/node/Leader", "<init>", "(IJ)V"⟩ : MethodName) (head1 (Jvm.Cond.code (⟨"com/example/halozat/halozat/node/Leader", "<init>", "(IJ)V"⟩ : MethodName) prog_81_method_1_code 4 none :: ws) ({ frames := 1, cells := 0, slots := 0, locals := 12 } : Room)) (fun a U => a = #[(.ref a1_0), (.int p1_1), (.long q1_2)] ∧ Z.Warmed39 U.vm ∧ U.heap = h0) (fun _ _ _ _ _ => True) (fun _ U o U' => ∃ v L, o = .returned v ∧ Q_rm1 Z a1_0 p1_1 q1_2 w_dropped_a1_0 w_checkAt_a1_0 w_node_a1_0 w_raisedAt_a1_0 w_since_a1_0 w_beat_a1_0 w_droppedBeat_a1_0 w_far_a1_0 h0 n0 v U'.heap L ∧ FrameEnd U o U' L ({ frames := 1, cells := 0, slots := 0, locals := 12 } : Room).cells ({ frames := 1, cells := 0, slots := 0, locals := 12 } : Room).slots) := by
  refine MetFree.of_bodySF (plainFor_of_name pn_1) hisR ?_
  intro p e s m args below meth c s₁ Bd hml0 hP hK
  obtain ⟨rfl, hZ, hh⟩ := hP
  have hx := Bd.exec
  have hby := Bd.bytes
  have hml : c.maxLocals = 4 := hml0
  have hown : s.vm.findClass "com/example/halozat/halozat/node/Leader" = some m.cls := findClass_of_methodNamed Bd.named
  have hnm := (name_of_methodNamed Bd.named Bd.method).1
  have X0 : Stand p l e ({ frames := 1, cells := 0, slots := 0, locals := 12 } : Room) s m #[(.ref a1_0), (.int p1_1), (.long q1_2)] below meth c s₁ [] 0 0 := Stand.of_body Bd
  have e0 : s₁.heap = h0 := by rw [← hh, Bd.state]; rfl
  have N0 := Fr.nil n0
  have pre0 : ∀ t, Steps p.tables e below (s₁.setTop (mkF m 0 #[.val (.ref a1_0), .val (.int p1_1), .val (.long q1_2), .second] [])) t → Steps p.tables e below (s₁.setTop (entryFrame m #[(.ref a1_0), (.int p1_1), (.long q1_2)] 4)) t := fun t k => castTop (ef_rm1 m a1_0 p1_1 q1_2) k
  obtain ⟨T1, X1, e1, st1⟩ := initO X0 hx hZ hown (ow6 hw) (ow7 hw) (ow8 hw) e0 (g := (mkF m 1 #[.val (.ref a1_0), .val (.int p1_1), .val (.long q1_2), .second] [(.ref a1_0)])) rfl (by rw [hml]; rfl) rfl (hb hby d1_1) (by decide) (W := 0) (by show 2 * 0 + _ ≤ _; exact Nat.le_of_eq rfl) (by decide)
  obtain ⟨T2, h2, X2, e2, W2, st2⟩ := putF X1 hx hZ hown (host := "") (Or.inl (ow9 hw)) Via.refl e1 F_dropped_a1_0 E_a1_0 (Or.inl (ow10 hw)) (ow1 hw) (ty := .int) (by decide) rfl rfl (g := (mkF m 6 #[.val (.ref a1_0), .val (.int p1_1), .val (.long q1_2), .second] [(.int (-1 : Int32)), (.ref a1_0)])) rfl rfl (hb hby d1_6)
  have F2 := F_dropped_a1_0.same W2
  have K2 : Keep h0 h2 [a1_0] := (Keep.refl h0 [a1_0]).wr W2 (Or.inl (List.mem_of_getElem? (i := 0) rfl))
  have Z2 : n0 ≤ h2.size := Nat.le_trans Z0 K2.1
  have N2 := Fr.snoc X2 N0 g_a1_0
  have f3 := (E_a1_0.wr W2)
  have f4 := (F_checkAt_a1_0.other W2 (Or.inr (slot_ne (Or.inl (ow13 hw)) (Or.inl (ow10 hw)) (by decide) (t := .long) (t' := .int) (by decide) (by decide))))
  obtain ⟨T5, h5, X5, e5, W5, st5⟩ := putF X2 hx hZ hown (host := "") (Or.inl (ow12 hw)) Via.refl e2 f4 f3 (Or.inl (ow13 hw)) (ow1 hw) (ty := .long) (by decide) rfl rfl (g := (mkF m 13 #[.val (.ref a1_0), .val (.int p1_1), .val (.long q1_2), .second] [(.long (9223372036854775807 : Int64)), (.ref a1_0)])) rfl rfl (hb hby d1_13)
  have F5 := f4.same W5
  have K5 : Keep h0 h5 [a1_0] := K2.wr W5 (Or.inl (List.mem_of_getElem? (i := 0) rfl))
  have Z5 : n0 ≤ h5.size := Nat.le_trans Z0 K5.1
  have N5 := Fr.snoc X5 N2 g_a1_0
  have f6 := (f3.wr W5)
  have f7 := ((F_node_a1_0.other W2 (Or.inr (slot_ne (Or.inl (ow15 hw)) (Or.inl (ow10 hw)) (by decide) (t := .int) (t' := .int) (by decide) (by decide)))).other W5 (Or.inr (slot_ne (Or.inl (ow15 hw)) (Or.inl (ow13 hw)) (by decide) (t := .int) (t' := .long) (by decide) (by decide))))
  obtain ⟨T8, h8, X8, e8, W8, st8⟩ := putF X5 hx hZ hown (host := "") (Or.inl (ow14 hw)) Via.refl e5 f7 f6 (Or.inl (ow15 hw)) (ow1 hw) (ty := .int) (by decide) rfl rfl (g := (mkF m 18 #[.val (.ref a1_0), .val (.int p1_1), .val (.long q1_2), .second] [(.int p1_1), (.ref a1_0)])) rfl rfl (hb hby d1_18)
  have F8 := f7.same W8
  have K8 : Keep h0 h8 [a1_0] := K5.wr W8 (Or.inl (List.mem_of_getElem? (i := 0) rfl))
  have Z8 : n0 ≤ h8.size := Nat.le_trans Z0 K8.1
  have N8 := Fr.snoc X8 N5 g_a1_0
  have f9 := (f6.wr W8)
  have f10 := (((F_raisedAt_a1_0.other W2 (Or.inr (slot_ne (Or.inl (ow17 hw)) (Or.inl (ow10 hw)) (by decide) (t := .long) (t' := .int) (by decide) (by decide)))).other W5 (Or.inr (slot_ne (Or.inl (ow17 hw)) (Or.inl (ow13 hw)) (by decide) (t := .long) (t' := .long) (by decide) (by decide)))).other W8 (Or.inr (slot_ne (Or.inl (ow17 hw)) (Or.inl (ow15 hw)) (by decide) (t := .long) (t' := .int) (by decide) (by decide))))
  obtain ⟨T11, h11, X11, e11, W11, st11⟩ := putF X8 hx hZ hown (host := "") (Or.inl (ow16 hw)) Via.refl e8 f10 f9 (Or.inl (ow17 hw)) (ow1 hw) (ty := .long) (by decide) rfl rfl (g := (mkF m 23 #[.val (.ref a1_0), .val (.int p1_1), .val (.long q1_2), .second] [(.long q1_2), (.ref a1_0)])) rfl rfl (hb hby d1_23)
  have F11 := f10.same W11
  have K11 : Keep h0 h11 [a1_0] := K8.wr W11 (Or.inl (List.mem_of_getElem? (i := 0) rfl))
  have Z11 : n0 ≤ h11.size := Nat.le_trans Z0 K11.1
  have N11 := Fr.snoc X11 N8 g_a1_0
  have f12 := (f9.wr W11)
  have f13 := ((((F_since_a1_0.other W2 (Or.inr (slot_ne (Or.inl (ow19 hw)) (Or.inl (ow10 hw)) (by decide) (t := .long) (t' := .int) (by decide) (by decide)))).other W5 (Or.inr (slot_ne (Or.inl (ow19 hw)) (Or.inl (ow13 hw)) (by decide) (t := .long) (t' := .long) (by decide) (by decide)))).other W8 (Or.inr (slot_ne (Or.inl (ow19 hw)) (Or.inl (ow15 hw)) (by decide) (t := .long) (t' := .int) (by decide) (by decide)))).other W11 (Or.inr (slot_ne (Or.inl (ow19 hw)) (Or.inl (ow17 hw)) (by decide) (t := .long) (t' := .long) (by decide) (by decide))))
  obtain ⟨T14, h14, X14, e14, W14, st14⟩ := putF X11 hx hZ hown (host := "") (Or.inl (ow18 hw)) Via.refl e11 f13 f12 (Or.inl (ow19 hw)) (ow1 hw) (ty := .long) (by decide) rfl rfl (g := (mkF m 28 #[.val (.ref a1_0), .val (.int p1_1), .val (.long q1_2), .second] [(.long q1_2), (.ref a1_0)])) rfl rfl (hb hby d1_28)
  have F14 := f13.same W14
  have K14 : Keep h0 h14 [a1_0] := K11.wr W14 (Or.inl (List.mem_of_getElem? (i := 0) rfl))
  have Z14 : n0 ≤ h14.size := Nat.le_trans Z0 K14.1
  have N14 := Fr.snoc X14 N11 g_a1_0
  obtain ⟨fs, hr, hrun, hended, hW, hsame⟩ := X14.leave (v := none) (fun _ => rfl)
  refine ⟨_, _, pre0 _ ?_, hrun, hended, _, _, rfl, ?_, ⟨_, rfl⟩, hW, hsame.mono (by decide) (by decide)⟩
  · show Steps p.tables e below (s₁.setTop (mkF m 0 #[.val (.ref a1_0), .val (.int p1_1), .val (.long q1_2), .second] [])) _
    refine XS.aloadN X0.here hx rfl (hb hby d1_0) rfl rfl ?_
    show Steps p.tables e below (s₁.setTop (mkF m 1 #[.val (.ref a1_0), .val (.int p1_1), .val (.long q1_2), .second] [(.ref a1_0)])) _
    refine st1 _ ?_
    show Steps p.tables e below (T1.setTop (mkF m 4 #[.val (.ref a1_0), .val (.int p1_1), .val (.long q1_2), .second] [])) _
    refine XS.aloadN X1.here hx rfl (hb hby d1_4) rfl rfl ?_
    show Steps p.tables e below (T1.setTop (mkF m 5 #[.val (.ref a1_0), .val (.int p1_1), .val (.long q1_2), .second] [(.ref a1_0)])) _
    refine XS.iconst X1.here hx rfl (hb hby d1_5) ?_
    show Steps p.tables e below (T1.setTop (mkF m 6 #[.val (.ref a1_0), .val (.int p1_1), .val (.long q1_2), .second] [(.int (-1 : Int32)), (.ref a1_0)])) _
    refine st2 _ ?_
    show Steps p.tables e below (T2.setTop (mkF m 9 #[.val (.ref a1_0), .val (.int p1_1), .val (.long q1_2), .second] [])) _
    refine XS.aloadN X2.here hx rfl (hb hby d1_9) rfl rfl ?_
    show Steps p.tables e below (T2.setTop (mkF m 10 #[.val (.ref a1_0), .val (.int p1_1), .val (.long q1_2), .second] [(.ref a1_0)])) _
    refine X2.ldc2Long hx hown (mvT hZ (ow11 hw)) (g := (mkF m 10 #[.val (.ref a1_0), .val (.int p1_1), .val (.long q1_2), .second] [(.ref a1_0)])) rfl (hb hby d1_10) _ ?_
    show Steps p.tables e below (T2.setTop (mkF m 13 #[.val (.ref a1_0), .val (.int p1_1), .val (.long q1_2), .second] [(.long (9223372036854775807 : Int64)), (.ref a1_0)])) _
    refine st5 _ ?_
    show Steps p.tables e below (T5.setTop (mkF m 16 #[.val (.ref a1_0), .val (.int p1_1), .val (.long q1_2), .second] [])) _
    refine XS.aloadN X5.here hx rfl (hb hby d1_16) rfl rfl ?_
    show Steps p.tables e below (T5.setTop (mkF m 17 #[.val (.ref a1_0), .val (.int p1_1), .val (.long q1_2), .second] [(.ref a1_0)])) _
    refine XS.iloadN X5.here hx rfl (hb hby d1_17) rfl ?_
    show Steps p.tables e below (T5.setTop (mkF m 18 #[.val (.ref a1_0), .val (.int p1_1), .val (.long q1_2), .second] [(.int p1_1), (.ref a1_0)])) _
    refine st8 _ ?_
    show Steps p.tables e below (T8.setTop (mkF m 21 #[.val (.ref a1_0), .val (.int p1_1), .val (.long q1_2), .second] [])) _
    refine XS.aloadN X8.here hx rfl (hb hby d1_21) rfl rfl ?_
    show Steps p.tables e below (T8.setTop (mkF m 22 #[.val (.ref a1_0), .val (.int p1_1), .val (.long q1_2), .second] [(.ref a1_0)])) _
    refine XS.lloadN X8.here hx rfl (hb hby d1_22) rfl ?_
    show Steps p.tables e below (T8.setTop (mkF m 23 #[.val (.ref a1_0), .val (.int p1_1), .val (.long q1_2), .second] [(.long q1_2), (.ref a1_0)])) _
    refine st11 _ ?_
    show Steps p.tables e below (T11.setTop (mkF m 26 #[.val (.ref a1_0), .val (.int p1_1), .val (.long q1_2), .second] [])) _
    refine XS.aloadN X11.here hx rfl (hb hby d1_26) rfl rfl ?_
    show Steps p.tables e below (T11.setTop (mkF m 27 #[.val (.ref a1_0), .val (.int p1_1), .val (.long q1_2), .second] [(.ref a1_0)])) _
    refine XS.lloadN X11.here hx rfl (hb hby d1_27) rfl ?_
    show Steps p.tables e below (T11.setTop (mkF m 28 #[.val (.ref a1_0), .val (.int p1_1), .val (.long q1_2), .second] [(.long q1_2), (.ref a1_0)])) _
    refine st14 _ ?_
    show Steps p.tables e below (T14.setTop (mkF m 31 #[.val (.ref a1_0), .val (.int p1_1), .val (.long q1_2), .second] [])) _
    exact X14.returnOut hx Bd.returns (hb hby d1_31) hr
  · have f15 := (f12.wr W14)
    have f16 := ((((F2.other W5 (Or.inr (slot_ne (Or.inl (ow10 hw)) (Or.inl (ow13 hw)) (by decide) (t := .int) (t' := .long) (by decide) (by decide)))).other W8 (Or.inr (slot_ne (Or.inl (ow10 hw)) (Or.inl (ow15 hw)) (by decide) (t := .int) (t' := .int) (by decide) (by decide)))).other W11 (Or.inr (slot_ne (Or.inl (ow10 hw)) (Or.inl (ow17 hw)) (by decide) (t := .int) (t' := .long) (by decide) (by decide)))).other W14 (Or.inr (slot_ne (Or.inl (ow10 hw)) (Or.inl (ow19 hw)) (by decide) (t := .int) (t' := .long) (by decide) (by decide))))
    have f17 := (((F5.other W8 (Or.inr (slot_ne (Or.inl (ow13 hw)) (Or.inl (ow15 hw)) (by decide) (t := .long) (t' := .int) (by decide) (by decide)))).other W11 (Or.inr (slot_ne (Or.inl (ow13 hw)) (Or.inl (ow17 hw)) (by decide) (t := .long) (t' := .long) (by decide) (by decide)))).other W14 (Or.inr (slot_ne (Or.inl (ow13 hw)) (Or.inl (ow19 hw)) (by decide) (t := .long) (t' := .long) (by decide) (by decide))))
    have f18 := ((F8.other W11 (Or.inr (slot_ne (Or.inl (ow15 hw)) (Or.inl (ow17 hw)) (by decide) (t := .int) (t' := .long) (by decide) (by decide)))).other W14 (Or.inr (slot_ne (Or.inl (ow15 hw)) (Or.inl (ow19 hw)) (by decide) (t := .int) (t' := .long) (by decide) (by decide))))
    have f19 := (F11.other W14 (Or.inr (slot_ne (Or.inl (ow17 hw)) (Or.inl (ow19 hw)) (by decide) (t := .long) (t' := .long) (by decide) (by decide))))
    have f20 := (((((F_beat_a1_0.other W2 (Or.inr (slot_ne (Or.inl (ow27 hw)) (Or.inl (ow10 hw)) (by decide) (t := .int) (t' := .int) (by decide) (by decide)))).other W5 (Or.inr (slot_ne (Or.inl (ow27 hw)) (Or.inl (ow13 hw)) (by decide) (t := .int) (t' := .long) (by decide) (by decide)))).other W8 (Or.inr (slot_ne (Or.inl (ow27 hw)) (Or.inl (ow15 hw)) (by decide) (t := .int) (t' := .int) (by decide) (by decide)))).other W11 (Or.inr (slot_ne (Or.inl (ow27 hw)) (Or.inl (ow17 hw)) (by decide) (t := .int) (t' := .long) (by decide) (by decide)))).other W14 (Or.inr (slot_ne (Or.inl (ow27 hw)) (Or.inl (ow19 hw)) (by decide) (t := .int) (t' := .long) (by decide) (by decide))))
    have f21 := (((((F_droppedBeat_a1_0.other W2 (Or.inr (slot_ne (Or.inl (ow35 hw)) (Or.inl (ow10 hw)) (by decide) (t := .int) (t' := .int) (by decide) (by decide)))).other W5 (Or.inr (slot_ne (Or.inl (ow35 hw)) (Or.inl (ow13 hw)) (by decide) (t := .int) (t' := .long) (by decide) (by decide)))).other W8 (Or.inr (slot_ne (Or.inl (ow35 hw)) (Or.inl (ow15 hw)) (by decide) (t := .int) (t' := .int) (by decide) (by decide)))).other W11 (Or.inr (slot_ne (Or.inl (ow35 hw)) (Or.inl (ow17 hw)) (by decide) (t := .int) (t' := .long) (by decide) (by decide)))).other W14 (Or.inr (slot_ne (Or.inl (ow35 hw)) (Or.inl (ow19 hw)) (by decide) (t := .int) (t' := .long) (by decide) (by decide))))
    have f22 := (((((F_far_a1_0.other W2 (Or.inr (slot_ne (Or.inl (ow64 hw)) (Or.inl (ow10 hw)) (by decide) (t := .boolean) (t' := .int) (by decide) (by decide)))).other W5 (Or.inr (slot_ne (Or.inl (ow64 hw)) (Or.inl (ow13 hw)) (by decide) (t := .boolean) (t' := .long) (by decide) (by decide)))).other W8 (Or.inr (slot_ne (Or.inl (ow64 hw)) (Or.inl (ow15 hw)) (by decide) (t := .boolean) (t' := .int) (by decide) (by decide)))).other W11 (Or.inr (slot_ne (Or.inl (ow64 hw)) (Or.inl (ow17 hw)) (by decide) (t := .boolean) (t' := .long) (by decide) (by decide)))).other W14 (Or.inr (slot_ne (Or.inl (ow64 hw)) (Or.inl (ow19 hw)) (by decide) (t := .boolean) (t' := .long) (by decide) (by decide))))
    show Q_rm1 Z a1_0 p1_1 q1_2 w_dropped_a1_0 w_checkAt_a1_0 w_node_a1_0 w_raisedAt_a1_0 w_since_a1_0 w_beat_a1_0 w_droppedBeat_a1_0 w_far_a1_0 h0 n0 _ T14.heap _
    rw [e14]
    exact ⟨rfl, N14, K14, f15, f16, f17, f18, f19, F14, f20, f21, f22⟩
theorem d3_0 : decode prog_81_method_8_code 0 = .ok (.iload_n 1, 1) := by decide +kernel
theorem d3_1 : decode prog_81_method_8_code 1 = .ok (.aload_n 0, 1) := by decide +kernel
theorem d3_2 : decode prog_81_method_8_code 2 = .ok (.getfield 9, 3) := by decide +kernel
theorem d3_5 : decode prog_81_method_8_code 5 = .ok (.if_icmp .ne 15, 3) := by decide +kernel
theorem d3_8 : decode prog_81_method_8_code 8 = .ok (.iload_n 2, 1) := by decide +kernel
theorem d3_9 : decode prog_81_method_8_code 9 = .ok (.aload_n 0, 1) := by decide +kernel
theorem d3_10 : decode prog_81_method_8_code 10 = .ok (.getfield 39, 3) := by decide +kernel
theorem d3_13 : decode prog_81_method_8_code 13 = .ok (.if_icmp .gt 7, 3) := by decide +kernel
theorem d3_16 : decode prog_81_method_8_code 16 = .ok (.iconst 1, 1) := by decide +kernel
theorem d3_17 : decode prog_81_method_8_code 17 = .ok (.goto 4, 3) := by decide +kernel
theorem d3_20 : decode prog_81_method_8_code 20 = .ok (.iconst 0, 1) := by decide +kernel
theorem d3_21 : decode prog_81_method_8_code 21 = .ok (.istore 7, 2) := by decide +kernel
theorem d3_23 : decode prog_81_method_8_code 23 = .ok (.lload_n 3, 1) := by decide +kernel
theorem d3_24 : decode prog_81_method_8_code 24 = .ok (.ldc2_w 42, 3) := by decide +kernel
theorem d3_27 : decode prog_81_method_8_code 27 = .ok (.lcmp, 1) := by decide +kernel
theorem d3_28 : decode prog_81_method_8_code 28 = .ok (.ifCond .ge 20, 3) := by decide +kernel
theorem d3_31 : decode prog_81_method_8_code 31 = .ok (.iload_n 1, 1) := by decide +kernel
theorem d3_32 : decode prog_81_method_8_code 32 = .ok (.aload_n 0, 1) := by decide +kernel
theorem d3_33 : decode prog_81_method_8_code 33 = .ok (.getfield 21, 3) := by decide +kernel
theorem d3_36 : decode prog_81_method_8_code 36 = .ok (.if_icmp .ge 12, 3) := by decide +kernel
theorem d3_39 : decode prog_81_method_8_code 39 = .ok (.iload 7, 2) := by decide +kernel
theorem d3_41 : decode prog_81_method_8_code 41 = .ok (.ifCond .ne 7, 3) := by decide +kernel
theorem d3_44 : decode prog_81_method_8_code 44 = .ok (.iconst 1, 1) := by decide +kernel
theorem d3_45 : decode prog_81_method_8_code 45 = .ok (.goto 4, 3) := by decide +kernel
theorem d3_48 : decode prog_81_method_8_code 48 = .ok (.iconst 0, 1) := by decide +kernel
theorem d3_49 : decode prog_81_method_8_code 49 = .ok (.istore 8, 2) := by decide +kernel
theorem d3_51 : decode prog_81_method_8_code 51 = .ok (.iload_n 1, 1) := by decide +kernel
theorem d3_52 : decode prog_81_method_8_code 52 = .ok (.aload_n 0, 1) := by decide +kernel
theorem d3_53 : decode prog_81_method_8_code 53 = .ok (.getfield 21, 3) := by decide +kernel
theorem d3_56 : decode prog_81_method_8_code 56 = .ok (.if_icmp .ne 15, 3) := by decide +kernel
theorem d3_59 : decode prog_81_method_8_code 59 = .ok (.iload_n 2, 1) := by decide +kernel
theorem d3_60 : decode prog_81_method_8_code 60 = .ok (.aload_n 0, 1) := by decide +kernel
theorem d3_61 : decode prog_81_method_8_code 61 = .ok (.getfield 30, 3) := by decide +kernel
theorem d3_64 : decode prog_81_method_8_code 64 = .ok (.if_icmp .le 7, 3) := by decide +kernel
theorem d3_67 : decode prog_81_method_8_code 67 = .ok (.iconst 1, 1) := by decide +kernel
theorem d3_68 : decode prog_81_method_8_code 68 = .ok (.goto 4, 3) := by decide +kernel
theorem d3_71 : decode prog_81_method_8_code 71 = .ok (.iconst 0, 1) := by decide +kernel
theorem d3_72 : decode prog_81_method_8_code 72 = .ok (.istore 9, 2) := by decide +kernel
theorem d3_74 : decode prog_81_method_8_code 74 = .ok (.iload 8, 2) := by decide +kernel
theorem d3_76 : decode prog_81_method_8_code 76 = .ok (.ifCond .ne 8, 3) := by decide +kernel
theorem d3_79 : decode prog_81_method_8_code 79 = .ok (.iload 9, 2) := by decide +kernel
theorem d3_81 : decode prog_81_method_8_code 81 = .ok (.ifCond .eq 21, 3) := by decide +kernel
theorem d3_84 : decode prog_81_method_8_code 84 = .ok (.aload_n 0, 1) := by decide +kernel
theorem d3_85 : decode prog_81_method_8_code 85 = .ok (.iload_n 1, 1) := by decide +kernel
theorem d3_86 : decode prog_81_method_8_code 86 = .ok (.putfield 21, 3) := by decide +kernel
theorem d3_89 : decode prog_81_method_8_code 89 = .ok (.aload_n 0, 1) := by decide +kernel
theorem d3_90 : decode prog_81_method_8_code 90 = .ok (.iload_n 2, 1) := by decide +kernel
theorem d3_91 : decode prog_81_method_8_code 91 = .ok (.putfield 30, 3) := by decide +kernel
theorem d3_94 : decode prog_81_method_8_code 94 = .ok (.aload_n 0, 1) := by decide +kernel
theorem d3_95 : decode prog_81_method_8_code 95 = .ok (.lload 5, 2) := by decide +kernel
theorem d3_97 : decode prog_81_method_8_code 97 = .ok (.lload_n 3, 1) := by decide +kernel
theorem d3_98 : decode prog_81_method_8_code 98 = .ok (.lsub, 1) := by decide +kernel
theorem d3_99 : decode prog_81_method_8_code 99 = .ok (.putfield 24, 3) := by decide +kernel
theorem d3_102 : decode prog_81_method_8_code 102 = .ok (.iload 8, 2) := by decide +kernel
theorem d3_104 : decode prog_81_method_8_code 104 = .ok (.ifCond .eq 19, 3) := by decide +kernel
theorem d3_107 : decode prog_81_method_8_code 107 = .ok (.aload_n 0, 1) := by decide +kernel
theorem d3_108 : decode prog_81_method_8_code 108 = .ok (.lload 5, 2) := by decide +kernel
theorem d3_110 : decode prog_81_method_8_code 110 = .ok (.putfield 27, 3) := by decide +kernel
theorem d3_113 : decode prog_81_method_8_code 113 = .ok (.aload_n 0, 1) := by decide +kernel
theorem d3_114 : decode prog_81_method_8_code 114 = .ok (.lload 5, 2) := by decide +kernel
theorem d3_116 : decode prog_81_method_8_code 116 = .ok (.ldc2_w 37, 3) := by decide +kernel
theorem d3_119 : decode prog_81_method_8_code 119 = .ok (.ladd, 1) := by decide +kernel
theorem d3_120 : decode prog_81_method_8_code 120 = .ok (.putfield 17, 3) := by decide +kernel
theorem d3_123 : decode prog_81_method_8_code 123 = .ok (.iload 8, 2) := by decide +kernel
theorem d3_125 : decode prog_81_method_8_code 125 = .ok (.ireturn, 1) := by decide +kernel
theorem pn_3 : plainName "com/example/halozat/halozat/node/Leader" = true := by first | (simp [plainName, overriddenIn]; done) | decide +kernel
theorem ef_rm3 (m : MethodId) (y0 : Addr) (y1 : Int32) (y2 : Int32) (y3 : Int64) (y4 : Int64) : entryFrame m #[(.ref y0), (.int y1), (.int y2), (.long y3), (.long y4)] 10 = mkF m 0 #[.val (.ref y0), .val (.int y1), .val (.int y2), .val (.long y3), .second, .val (.long y4), .second, .unset, .unset, .unset] [] := by first | (simp [entryFrame, mkF, argsToLocals, Value.category]; done) | rfl
def Q_rm3 (Z : State) (a3_0 : Addr) (p3_1 : Int32) (p3_2 : Int32) (q3_3 : Int64) (q3_4 : Int64) (w_dropped_a3_0 : Int32) (w_droppedBeat_a3_0 : Int32) (w_node_a3_0 : Int32) (w_beat_a3_0 : Int32) (w_raisedAt_a3_0 : Int64) (w_since_a3_0 : Int64) (w_checkAt_a3_0 : Int64) (w_far_a3_0 : Int32) (h0 : Heap) (n0 : Nat) (v : Option Value) (h : Heap) (L : List Loc) : Prop := v = some (.int (if (q3_3 < (5000 : Int64) ∧ (p3_1 < w_node_a3_0 ∧ ¬ ((p3_1 = w_dropped_a3_0 ∧ ¬ (w_droppedBeat_a3_0 < p3_2))))) then (1 : Int32) else (0 : Int32))) ∧ Fr n0 L ∧ Keep h0 h [a3_0] ∧ Fld Z h a3_0 "com/example/halozat/halozat/node/Leader" "dropped" "I" (.int w_dropped_a3_0) ∧ Fld Z h a3_0 "com/example/halozat/halozat/node/Leader" "node" "I" (.int (if (q3_3 < (5000 : Int64) ∧ (p3_1 < w_node_a3_0 ∧ ¬ ((p3_1 = w_dropped_a3_0 ∧ ¬ (w_droppedBeat_a3_0 < p3_2))))) then p3_1 else (if (p3_1 = w_node_a3_0 ∧ w_beat_a3_0 < p3_2) then p3_1 else w_node_a3_0))) ∧ Exa Z h a3_0 "com/example/halozat/halozat/node/Leader" ∧ Fld Z h a3_0 "com/example/halozat/halozat/node/Leader" "beat" "I" (.int (if (q3_3 < (5000 : Int64) ∧ (p3_1 < w_node_a3_0 ∧ ¬ ((p3_1 = w_dropped_a3_0 ∧ ¬ (w_droppedBeat_a3_0 < p3_2))))) then p3_2 else (if (p3_1 = w_node_a3_0 ∧ w_beat_a3_0 < p3_2) then p3_2 else w_beat_a3_0))) ∧ Fld Z h a3_0 "com/example/halozat/halozat/node/Leader" "raisedAt" "J" (.long (if (q3_3 < (5000 : Int64) ∧ (p3_1 < w_node_a3_0 ∧ ¬ ((p3_1 = w_dropped_a3_0 ∧ ¬ (w_droppedBeat_a3_0 < p3_2))))) then (q3_4 - q3_3) else (if (p3_1 = w_node_a3_0 ∧ w_beat_a3_0 < p3_2) then (q3_4 - q3_3) else w_raisedAt_a3_0))) ∧ Fld Z h a3_0 "com/example/halozat/halozat/node/Leader" "since" "J" (.long (if (q3_3 < (5000 : Int64) ∧ (p3_1 < w_node_a3_0 ∧ ¬ ((p3_1 = w_dropped_a3_0 ∧ ¬ (w_droppedBeat_a3_0 < p3_2))))) then q3_4 else w_since_a3_0)) ∧ Fld Z h a3_0 "com/example/halozat/halozat/node/Leader" "checkAt" "J" (.long (if (q3_3 < (5000 : Int64) ∧ (p3_1 < w_node_a3_0 ∧ ¬ ((p3_1 = w_dropped_a3_0 ∧ ¬ (w_droppedBeat_a3_0 < p3_2))))) then (q3_4 + (1000 : Int64)) else w_checkAt_a3_0)) ∧ Fld Z h a3_0 "com/example/halozat/halozat/node/Leader" "droppedBeat" "I" (.int w_droppedBeat_a3_0) ∧ Fld Z h a3_0 "com/example/halozat/halozat/node/Leader" "far" "Z" (.int w_far_a3_0)
set_option maxRecDepth 65536 in
set_option maxHeartbeats 40000000 in
theorem rm3 (l : Launch) (Z : State) (a0 : Array Value) (hw : ∀ d ∈ tables_1, d.before a0 Z = true) (ws : List Jvm.Cond) (a3_0 : Addr) (p3_1 : Int32) (p3_2 : Int32) (q3_3 : Int64) (q3_4 : Int64) (w_dropped_a3_0 : Int32) (w_droppedBeat_a3_0 : Int32) (w_node_a3_0 : Int32) (w_beat_a3_0 : Int32) (w_raisedAt_a3_0 : Int64) (w_since_a3_0 : Int64) (w_checkAt_a3_0 : Int64) (w_far_a3_0 : Int32) (h0 : Heap) (n0 : Nat) (Z0 : n0 ≤ h0.size) (F_dropped_a3_0 : Fld Z h0 a3_0 "com/example/halozat/halozat/node/Leader" "dropped" "I" (.int w_dropped_a3_0)) (F_droppedBeat_a3_0 : Fld Z h0 a3_0 "com/example/halozat/halozat/node/Leader" "droppedBeat" "I" (.int w_droppedBeat_a3_0)) (F_node_a3_0 : Fld Z h0 a3_0 "com/example/halozat/halozat/node/Leader" "node" "I" (.int w_node_a3_0)) (F_beat_a3_0 : Fld Z h0 a3_0 "com/example/halozat/halozat/node/Leader" "beat" "I" (.int w_beat_a3_0)) (E_a3_0 : Exa Z h0 a3_0 "com/example/halozat/halozat/node/Leader") (g_a3_0 : n0 ≤ a3_0) (F_raisedAt_a3_0 : Fld Z h0 a3_0 "com/example/halozat/halozat/node/Leader" "raisedAt" "J" (.long w_raisedAt_a3_0)) (F_since_a3_0 : Fld Z h0 a3_0 "com/example/halozat/halozat/node/Leader" "since" "J" (.long w_since_a3_0)) (F_checkAt_a3_0 : Fld Z h0 a3_0 "com/example/halozat/halozat/node/Leader" "checkAt" "J" (.long w_checkAt_a3_0)) (F_far_a3_0 : Fld Z h0 a3_0 "com/example/halozat/halozat/node/Leader" "far" "Z" (.int w_far_a3_0)) :
    MetFree l (⟨"com/example/halozat/halozat/node/Leader", "hear", "(IIJJ)Z"⟩ : MethodName) (head1 (Jvm.Cond.code (⟨"com/example/halozat/halozat/node/Leader", "hear", "(IIJJ)Z"⟩ : MethodName) prog_81_method_8_code 10 (some .boolean) :: ws) ({ frames := 0, cells := 0, slots := 0, locals := 0 } : Room)) (fun a U => a = #[(.ref a3_0), (.int p3_1), (.int p3_2), (.long q3_3), (.long q3_4)] ∧ Z.Warmed39 U.vm ∧ U.heap = h0) (fun _ _ _ _ _ => True) (fun _ U o U' => ∃ v L, o = .returned v ∧ Q_rm3 Z a3_0 p3_1 p3_2 q3_3 q3_4 w_dropped_a3_0 w_droppedBeat_a3_0 w_node_a3_0 w_beat_a3_0 w_raisedAt_a3_0 w_since_a3_0 w_checkAt_a3_0 w_far_a3_0 h0 n0 v U'.heap L ∧ FrameEnd U o U' L ({ frames := 0, cells := 0, slots := 0, locals := 0 } : Room).cells ({ frames := 0, cells := 0, slots := 0, locals := 0 } : Room).slots) := by
  refine MetFree.of_bodySF (plainFor_of_name pn_3) hisR ?_
  intro p e s m args below meth c s₁ Bd hml0 hP hK
  obtain ⟨rfl, hZ, hh⟩ := hP
  have hx := Bd.exec
  have hby := Bd.bytes
  have hml : c.maxLocals = 10 := hml0
  have hown : s.vm.findClass "com/example/halozat/halozat/node/Leader" = some m.cls := findClass_of_methodNamed Bd.named
  have hnm := (name_of_methodNamed Bd.named Bd.method).1
  have X0 : Stand p l e ({ frames := 0, cells := 0, slots := 0, locals := 0 } : Room) s m #[(.ref a3_0), (.int p3_1), (.int p3_2), (.long q3_3), (.long q3_4)] below meth c s₁ [] 0 0 := Stand.of_body Bd
  have e0 : s₁.heap = h0 := by rw [← hh, Bd.state]; rfl
  have N0 := Fr.nil n0
  have pre0 : ∀ t, Steps p.tables e below (s₁.setTop (mkF m 0 #[.val (.ref a3_0), .val (.int p3_1), .val (.int p3_2), .val (.long q3_3), .second, .val (.long q3_4), .second, .unset, .unset, .unset] [])) t → Steps p.tables e below (s₁.setTop (entryFrame m #[(.ref a3_0), (.int p3_1), (.int p3_2), (.long q3_3), (.long q3_4)] 10)) t := fun t k => castTop (ef_rm3 m a3_0 p3_1 p3_2 q3_3 q3_4) k
  obtain ⟨T1, X1, e1, st1⟩ := getF X0 hx hZ hown (host := "") (Or.inl (ow9 hw)) Via.refl e0 F_dropped_a3_0 (g := (mkF m 2 #[.val (.ref a3_0), .val (.int p3_1), .val (.int p3_2), .val (.long q3_3), .second, .val (.long q3_4), .second, .unset, .unset, .unset] [(.ref a3_0), (.int p3_1)])) rfl rfl (hb hby d3_2)
  have G2 : ∀ t, Steps p.tables e below (T1.setTop (mkF m 5 #[.val (.ref a3_0), .val (.int p3_1), .val (.int p3_2), .val (.long q3_3), .second, .val (.long q3_4), .second, .unset, .unset, .unset] [(.int w_dropped_a3_0), (.int p3_1)])) t → Steps p.tables e below (s₁.setTop (mkF m 0 #[.val (.ref a3_0), .val (.int p3_1), .val (.int p3_2), .val (.long q3_3), .second, .val (.long q3_4), .second, .unset, .unset, .unset] [])) t := by
    intro t k
    show Steps p.tables e below (s₁.setTop (mkF m 0 #[.val (.ref a3_0), .val (.int p3_1), .val (.int p3_2), .val (.long q3_3), .second, .val (.long q3_4), .second, .unset, .unset, .unset] [])) _
    refine XS.iloadN X0.here hx rfl (hb hby d3_0) rfl ?_
    show Steps p.tables e below (s₁.setTop (mkF m 1 #[.val (.ref a3_0), .val (.int p3_1), .val (.int p3_2), .val (.long q3_3), .second, .val (.long q3_4), .second, .unset, .unset, .unset] [(.int p3_1)])) _
    refine XS.aloadN X0.here hx rfl (hb hby d3_1) rfl rfl ?_
    show Steps p.tables e below (s₁.setTop (mkF m 2 #[.val (.ref a3_0), .val (.int p3_1), .val (.int p3_2), .val (.long q3_3), .second, .val (.long q3_4), .second, .unset, .unset, .unset] [(.ref a3_0), (.int p3_1)])) _
    refine st1 _ ?_
    exact k
  obtain ⟨v7, hv7⟩ : ∃ z : Int32, z = (if (p3_1 = w_dropped_a3_0 ∧ ¬ (w_droppedBeat_a3_0 < p3_2)) then (1 : Int32) else (0 : Int32)) := ⟨_, rfl⟩
  obtain ⟨T8, Lo8, X8, N8, e8, G8⟩ := own_join X1 N0 (h := h0) (mkF m 5 #[.val (.ref a3_0), .val (.int p3_1), .val (.int p3_2), .val (.long q3_3), .second, .val (.long q3_4), .second, .unset, .unset, .unset] [(.int w_dropped_a3_0), (.int p3_1)]) (mkF m 21 #[.val (.ref a3_0), .val (.int p3_1), .val (.int p3_2), .val (.long q3_3), .second, .val (.long q3_4), .second, .unset, .unset, .unset] [(.int v7)]) (by
    by_cases h5_3 : p3_1 = w_dropped_a3_0
    · obtain ⟨T4, X4, e4, st4⟩ := getF X1 hx hZ hown (host := "") (Or.inl (ow34 hw)) Via.refl e1 F_droppedBeat_a3_0 (g := (mkF m 10 #[.val (.ref a3_0), .val (.int p3_1), .val (.int p3_2), .val (.long q3_3), .second, .val (.long q3_4), .second, .unset, .unset, .unset] [(.ref a3_0), (.int p3_2)])) rfl rfl (hb hby d3_10)
      have G5 : ∀ t, Steps p.tables e below (T4.setTop (mkF m 13 #[.val (.ref a3_0), .val (.int p3_1), .val (.int p3_2), .val (.long q3_3), .second, .val (.long q3_4), .second, .unset, .unset, .unset] [(.int w_droppedBeat_a3_0), (.int p3_2)])) t → Steps p.tables e below (T1.setTop (mkF m 5 #[.val (.ref a3_0), .val (.int p3_1), .val (.int p3_2), .val (.long q3_3), .second, .val (.long q3_4), .second, .unset, .unset, .unset] [(.int w_dropped_a3_0), (.int p3_1)])) t := by
        intro t k
        show Steps p.tables e below (T1.setTop (mkF m 5 #[.val (.ref a3_0), .val (.int p3_1), .val (.int p3_2), .val (.long q3_3), .second, .val (.long q3_4), .second, .unset, .unset, .unset] [(.int w_dropped_a3_0), (.int p3_1)])) _
        refine XS.icmpNo X1.here hx rfl (hb hby d3_5) rfl (teq h5_3).2 ?_
        show Steps p.tables e below (T1.setTop (mkF m 8 #[.val (.ref a3_0), .val (.int p3_1), .val (.int p3_2), .val (.long q3_3), .second, .val (.long q3_4), .second, .unset, .unset, .unset] [])) _
        refine XS.iloadN X1.here hx rfl (hb hby d3_8) rfl ?_
        show Steps p.tables e below (T1.setTop (mkF m 9 #[.val (.ref a3_0), .val (.int p3_1), .val (.int p3_2), .val (.long q3_3), .second, .val (.long q3_4), .second, .unset, .unset, .unset] [(.int p3_2)])) _
        refine XS.aloadN X1.here hx rfl (hb hby d3_9) rfl rfl ?_
        show Steps p.tables e below (T1.setTop (mkF m 10 #[.val (.ref a3_0), .val (.int p3_1), .val (.int p3_2), .val (.long q3_3), .second, .val (.long q3_4), .second, .unset, .unset, .unset] [(.ref a3_0), (.int p3_2)])) _
        refine st4 _ ?_
        exact k
      by_cases h13_6 : w_droppedBeat_a3_0 < p3_2
      · refine ⟨T4, _, X4, N0, e4, fun t k => ?_⟩
        rw [show v7 = (0 : Int32) from hv7.trans (if_neg (fun q => (fun q => q h13_6) q.2))] at k
        refine G5 _ ?_
        show Steps p.tables e below (T4.setTop (mkF m 13 #[.val (.ref a3_0), .val (.int p3_1), .val (.int p3_2), .val (.long q3_3), .second, .val (.long q3_4), .second, .unset, .unset, .unset] [(.int w_droppedBeat_a3_0), (.int p3_2)])) _
        refine XS.icmpYes X4.here hx rfl (pc0 := 13) (pc' := 20) rfl (hb hby d3_13) rfl (tlt h13_6).2.2.1 (by decide) (by decide) ?_
        show Steps p.tables e below (T4.setTop (mkF m 20 #[.val (.ref a3_0), .val (.int p3_1), .val (.int p3_2), .val (.long q3_3), .second, .val (.long q3_4), .second, .unset, .unset, .unset] [])) _
        refine XS.iconst X4.here hx rfl (hb hby d3_20) ?_
        exact k
      · refine ⟨T4, _, X4, N0, e4, fun t k => ?_⟩
        rw [show v7 = (1 : Int32) from hv7.trans (if_pos ⟨h5_3, h13_6⟩)] at k
        refine G5 _ ?_
        show Steps p.tables e below (T4.setTop (mkF m 13 #[.val (.ref a3_0), .val (.int p3_1), .val (.int p3_2), .val (.long q3_3), .second, .val (.long q3_4), .second, .unset, .unset, .unset] [(.int w_droppedBeat_a3_0), (.int p3_2)])) _
        refine XS.icmpNo X4.here hx rfl (hb hby d3_13) rfl (flt h13_6).2.2.1 ?_
        show Steps p.tables e below (T4.setTop (mkF m 16 #[.val (.ref a3_0), .val (.int p3_1), .val (.int p3_2), .val (.long q3_3), .second, .val (.long q3_4), .second, .unset, .unset, .unset] [])) _
        refine XS.iconst X4.here hx rfl (hb hby d3_16) ?_
        show Steps p.tables e below (T4.setTop (mkF m 17 #[.val (.ref a3_0), .val (.int p3_1), .val (.int p3_2), .val (.long q3_3), .second, .val (.long q3_4), .second, .unset, .unset, .unset] [(.int (1 : Int32))])) _
        refine XS.goto X4.here hx rfl (pc0 := 17) (pc' := 21) rfl (hb hby d3_17) (by decide) (by decide) ?_
        exact k
    · refine ⟨T1, _, X1, N0, e1, fun t k => ?_⟩
      rw [show v7 = (0 : Int32) from hv7.trans (if_neg (fun q => h5_3 q.1))] at k
      show Steps p.tables e below (T1.setTop (mkF m 5 #[.val (.ref a3_0), .val (.int p3_1), .val (.int p3_2), .val (.long q3_3), .second, .val (.long q3_4), .second, .unset, .unset, .unset] [(.int w_dropped_a3_0), (.int p3_1)])) _
      refine XS.icmpYes X1.here hx rfl (pc0 := 5) (pc' := 20) rfl (hb hby d3_5) rfl (feq h5_3).2 (by decide) (by decide) ?_
      show Steps p.tables e below (T1.setTop (mkF m 20 #[.val (.ref a3_0), .val (.int p3_1), .val (.int p3_2), .val (.long q3_3), .second, .val (.long q3_4), .second, .unset, .unset, .unset] [])) _
      refine XS.iconst X1.here hx rfl (hb hby d3_20) ?_
      exact k)
  have G9 : ∀ t, Steps p.tables e below (T8.setTop (mkF m 28 #[.val (.ref a3_0), .val (.int p3_1), .val (.int p3_2), .val (.long q3_3), .second, .val (.long q3_4), .second, .val (.int v7), .unset, .unset] [(.int (lcmpW q3_3 (5000 : Int64)))])) t → Steps p.tables e below (T8.setTop (mkF m 21 #[.val (.ref a3_0), .val (.int p3_1), .val (.int p3_2), .val (.long q3_3), .second, .val (.long q3_4), .second, .unset, .unset, .unset] [(.int v7)])) t := by
    intro t k
    show Steps p.tables e below (T8.setTop (mkF m 21 #[.val (.ref a3_0), .val (.int p3_1), .val (.int p3_2), .val (.long q3_3), .second, .val (.long q3_4), .second, .unset, .unset, .unset] [(.int v7)])) _
    refine XS.istore X8.here hx rfl (hb hby d3_21) rfl (l' := #[.val (.ref a3_0), .val (.int p3_1), .val (.int p3_2), .val (.long q3_3), .second, .val (.long q3_4), .second, .val (.int v7), .unset, .unset]) rfl ?_
    show Steps p.tables e below (T8.setTop (mkF m 23 #[.val (.ref a3_0), .val (.int p3_1), .val (.int p3_2), .val (.long q3_3), .second, .val (.long q3_4), .second, .val (.int v7), .unset, .unset] [])) _
    refine XS.lloadN X8.here hx rfl (hb hby d3_23) rfl ?_
    show Steps p.tables e below (T8.setTop (mkF m 24 #[.val (.ref a3_0), .val (.int p3_1), .val (.int p3_2), .val (.long q3_3), .second, .val (.long q3_4), .second, .val (.int v7), .unset, .unset] [(.long q3_3)])) _
    refine X8.ldc2Long hx hown (mvT hZ (ow25 hw)) (g := (mkF m 24 #[.val (.ref a3_0), .val (.int p3_1), .val (.int p3_2), .val (.long q3_3), .second, .val (.long q3_4), .second, .val (.int v7), .unset, .unset] [(.long q3_3)])) rfl (hb hby d3_24) _ ?_
    show Steps p.tables e below (T8.setTop (mkF m 27 #[.val (.ref a3_0), .val (.int p3_1), .val (.int p3_2), .val (.long q3_3), .second, .val (.long q3_4), .second, .val (.int v7), .unset, .unset] [(.long (5000 : Int64)), (.long q3_3)])) _
    refine XS.lcmp X8.here hx rfl (hb hby d3_27) rfl ?_
    exact k
  obtain ⟨v16, hv16⟩ : ∃ z : Int32, z = (if (q3_3 < (5000 : Int64) ∧ (p3_1 < w_node_a3_0 ∧ ¬ ((p3_1 = w_dropped_a3_0 ∧ ¬ (w_droppedBeat_a3_0 < p3_2))))) then (1 : Int32) else (0 : Int32)) := ⟨_, rfl⟩
  obtain ⟨T17, Lo17, X17, N17, e17, G17⟩ := own_join X8 N8 (h := h0) (mkF m 28 #[.val (.ref a3_0), .val (.int p3_1), .val (.int p3_2), .val (.long q3_3), .second, .val (.long q3_4), .second, .val (.int v7), .unset, .unset] [(.int (lcmpW q3_3 (5000 : Int64)))]) (mkF m 49 #[.val (.ref a3_0), .val (.int p3_1), .val (.int p3_2), .val (.long q3_3), .second, .val (.long q3_4), .second, .val (.int v7), .unset, .unset] [(.int v16)]) (by
    by_cases h28_10 : q3_3 < (5000 : Int64)
    · obtain ⟨T11, X11, e11, st11⟩ := getF X8 hx hZ hown (host := "") (Or.inl (ow14 hw)) Via.refl e8 F_node_a3_0 (g := (mkF m 33 #[.val (.ref a3_0), .val (.int p3_1), .val (.int p3_2), .val (.long q3_3), .second, .val (.long q3_4), .second, .val (.int v7), .unset, .unset] [(.ref a3_0), (.int p3_1)])) rfl rfl (hb hby d3_33)
      have G12 : ∀ t, Steps p.tables e below (T11.setTop (mkF m 36 #[.val (.ref a3_0), .val (.int p3_1), .val (.int p3_2), .val (.long q3_3), .second, .val (.long q3_4), .second, .val (.int v7), .unset, .unset] [(.int w_node_a3_0), (.int p3_1)])) t → Steps p.tables e below (T8.setTop (mkF m 28 #[.val (.ref a3_0), .val (.int p3_1), .val (.int p3_2), .val (.long q3_3), .second, .val (.long q3_4), .second, .val (.int v7), .unset, .unset] [(.int (lcmpW q3_3 (5000 : Int64)))])) t := by
        intro t k
        show Steps p.tables e below (T8.setTop (mkF m 28 #[.val (.ref a3_0), .val (.int p3_1), .val (.int p3_2), .val (.long q3_3), .second, .val (.long q3_4), .second, .val (.int v7), .unset, .unset] [(.int (lcmpW q3_3 (5000 : Int64)))])) _
        refine XS.ifNo X8.here hx rfl (hb hby d3_28) rfl ((if0 _ _).trans (tlt ((lw_lt _ _).mpr h28_10)).2.1) ?_
        show Steps p.tables e below (T8.setTop (mkF m 31 #[.val (.ref a3_0), .val (.int p3_1), .val (.int p3_2), .val (.long q3_3), .second, .val (.long q3_4), .second, .val (.int v7), .unset, .unset] [])) _
        refine XS.iloadN X8.here hx rfl (hb hby d3_31) rfl ?_
        show Steps p.tables e below (T8.setTop (mkF m 32 #[.val (.ref a3_0), .val (.int p3_1), .val (.int p3_2), .val (.long q3_3), .second, .val (.long q3_4), .second, .val (.int v7), .unset, .unset] [(.int p3_1)])) _
        refine XS.aloadN X8.here hx rfl (hb hby d3_32) rfl rfl ?_
        show Steps p.tables e below (T8.setTop (mkF m 33 #[.val (.ref a3_0), .val (.int p3_1), .val (.int p3_2), .val (.long q3_3), .second, .val (.long q3_4), .second, .val (.int v7), .unset, .unset] [(.ref a3_0), (.int p3_1)])) _
        refine st11 _ ?_
        exact k
      by_cases h36_13 : p3_1 < w_node_a3_0
      · have G14 : ∀ t, Steps p.tables e below (T11.setTop (mkF m 41 #[.val (.ref a3_0), .val (.int p3_1), .val (.int p3_2), .val (.long q3_3), .second, .val (.long q3_4), .second, .val (.int v7), .unset, .unset] [(.int v7)])) t → Steps p.tables e below (T11.setTop (mkF m 36 #[.val (.ref a3_0), .val (.int p3_1), .val (.int p3_2), .val (.long q3_3), .second, .val (.long q3_4), .second, .val (.int v7), .unset, .unset] [(.int w_node_a3_0), (.int p3_1)])) t := by
          intro t k
          show Steps p.tables e below (T11.setTop (mkF m 36 #[.val (.ref a3_0), .val (.int p3_1), .val (.int p3_2), .val (.long q3_3), .second, .val (.long q3_4), .second, .val (.int v7), .unset, .unset] [(.int w_node_a3_0), (.int p3_1)])) _
          refine XS.icmpNo X11.here hx rfl (hb hby d3_36) rfl (tlt h36_13).2.1 ?_
          show Steps p.tables e below (T11.setTop (mkF m 39 #[.val (.ref a3_0), .val (.int p3_1), .val (.int p3_2), .val (.long q3_3), .second, .val (.long q3_4), .second, .val (.int v7), .unset, .unset] [])) _
          refine XS.iload X11.here hx rfl (hb hby d3_39) rfl ?_
          exact k
        by_cases h41_15 : (p3_1 = w_dropped_a3_0 ∧ ¬ (w_droppedBeat_a3_0 < p3_2))
        · refine ⟨T11, _, X11, N8, e11, fun t k => ?_⟩
          rw [show v16 = (0 : Int32) from hv16.trans (if_neg (fun q => (fun q => (fun q => q h41_15) q.2) q.2))] at k
          refine G12 _ ?_
          refine G14 _ ?_
          show Steps p.tables e below (T11.setTop (mkF m 41 #[.val (.ref a3_0), .val (.int p3_1), .val (.int p3_2), .val (.long q3_3), .second, .val (.long q3_4), .second, .val (.int v7), .unset, .unset] [(.int v7)])) _
          refine XS.ifYes X11.here hx rfl (pc0 := 41) (pc' := 48) rfl (hb hby d3_41) rfl ((if0 _ _).trans (feq (own_b1 (hv7.trans (if_pos h41_15)))).2) (by decide) (by decide) ?_
          show Steps p.tables e below (T11.setTop (mkF m 48 #[.val (.ref a3_0), .val (.int p3_1), .val (.int p3_2), .val (.long q3_3), .second, .val (.long q3_4), .second, .val (.int v7), .unset, .unset] [])) _
          refine XS.iconst X11.here hx rfl (hb hby d3_48) ?_
          exact k
        · refine ⟨T11, _, X11, N8, e11, fun t k => ?_⟩
          rw [show v16 = (1 : Int32) from hv16.trans (if_pos ⟨h28_10, ⟨h36_13, h41_15⟩⟩)] at k
          refine G12 _ ?_
          refine G14 _ ?_
          show Steps p.tables e below (T11.setTop (mkF m 41 #[.val (.ref a3_0), .val (.int p3_1), .val (.int p3_2), .val (.long q3_3), .second, .val (.long q3_4), .second, .val (.int v7), .unset, .unset] [(.int v7)])) _
          refine XS.ifNo X11.here hx rfl (hb hby d3_41) rfl ((if0 _ _).trans (teq (hv7.trans (if_neg h41_15))).2) ?_
          show Steps p.tables e below (T11.setTop (mkF m 44 #[.val (.ref a3_0), .val (.int p3_1), .val (.int p3_2), .val (.long q3_3), .second, .val (.long q3_4), .second, .val (.int v7), .unset, .unset] [])) _
          refine XS.iconst X11.here hx rfl (hb hby d3_44) ?_
          show Steps p.tables e below (T11.setTop (mkF m 45 #[.val (.ref a3_0), .val (.int p3_1), .val (.int p3_2), .val (.long q3_3), .second, .val (.long q3_4), .second, .val (.int v7), .unset, .unset] [(.int (1 : Int32))])) _
          refine XS.goto X11.here hx rfl (pc0 := 45) (pc' := 49) rfl (hb hby d3_45) (by decide) (by decide) ?_
          exact k
      · refine ⟨T11, _, X11, N8, e11, fun t k => ?_⟩
        rw [show v16 = (0 : Int32) from hv16.trans (if_neg (fun q => (fun q => h36_13 q.1) q.2))] at k
        refine G12 _ ?_
        show Steps p.tables e below (T11.setTop (mkF m 36 #[.val (.ref a3_0), .val (.int p3_1), .val (.int p3_2), .val (.long q3_3), .second, .val (.long q3_4), .second, .val (.int v7), .unset, .unset] [(.int w_node_a3_0), (.int p3_1)])) _
        refine XS.icmpYes X11.here hx rfl (pc0 := 36) (pc' := 48) rfl (hb hby d3_36) rfl (flt h36_13).2.1 (by decide) (by decide) ?_
        show Steps p.tables e below (T11.setTop (mkF m 48 #[.val (.ref a3_0), .val (.int p3_1), .val (.int p3_2), .val (.long q3_3), .second, .val (.long q3_4), .second, .val (.int v7), .unset, .unset] [])) _
        refine XS.iconst X11.here hx rfl (hb hby d3_48) ?_
        exact k
    · refine ⟨T8, _, X8, N8, e8, fun t k => ?_⟩
      rw [show v16 = (0 : Int32) from hv16.trans (if_neg (fun q => h28_10 q.1))] at k
      show Steps p.tables e below (T8.setTop (mkF m 28 #[.val (.ref a3_0), .val (.int p3_1), .val (.int p3_2), .val (.long q3_3), .second, .val (.long q3_4), .second, .val (.int v7), .unset, .unset] [(.int (lcmpW q3_3 (5000 : Int64)))])) _
      refine XS.ifYes X8.here hx rfl (pc0 := 28) (pc' := 48) rfl (hb hby d3_28) rfl ((if0 _ _).trans (flt (fun q => h28_10 ((lw_lt _ _).mp q))).2.1) (by decide) (by decide) ?_
      show Steps p.tables e below (T8.setTop (mkF m 48 #[.val (.ref a3_0), .val (.int p3_1), .val (.int p3_2), .val (.long q3_3), .second, .val (.long q3_4), .second, .val (.int v7), .unset, .unset] [])) _
      refine XS.iconst X8.here hx rfl (hb hby d3_48) ?_
      exact k)
  obtain ⟨T18, X18, e18, st18⟩ := getF X17 hx hZ hown (host := "") (Or.inl (ow14 hw)) Via.refl e17 F_node_a3_0 (g := (mkF m 53 #[.val (.ref a3_0), .val (.int p3_1), .val (.int p3_2), .val (.long q3_3), .second, .val (.long q3_4), .second, .val (.int v7), .val (.int v16), .unset] [(.ref a3_0), (.int p3_1)])) rfl rfl (hb hby d3_53)
  have G19 : ∀ t, Steps p.tables e below (T18.setTop (mkF m 56 #[.val (.ref a3_0), .val (.int p3_1), .val (.int p3_2), .val (.long q3_3), .second, .val (.long q3_4), .second, .val (.int v7), .val (.int v16), .unset] [(.int w_node_a3_0), (.int p3_1)])) t → Steps p.tables e below (T17.setTop (mkF m 49 #[.val (.ref a3_0), .val (.int p3_1), .val (.int p3_2), .val (.long q3_3), .second, .val (.long q3_4), .second, .val (.int v7), .unset, .unset] [(.int v16)])) t := by
    intro t k
    show Steps p.tables e below (T17.setTop (mkF m 49 #[.val (.ref a3_0), .val (.int p3_1), .val (.int p3_2), .val (.long q3_3), .second, .val (.long q3_4), .second, .val (.int v7), .unset, .unset] [(.int v16)])) _
    refine XS.istore X17.here hx rfl (hb hby d3_49) rfl (l' := #[.val (.ref a3_0), .val (.int p3_1), .val (.int p3_2), .val (.long q3_3), .second, .val (.long q3_4), .second, .val (.int v7), .val (.int v16), .unset]) rfl ?_
    show Steps p.tables e below (T17.setTop (mkF m 51 #[.val (.ref a3_0), .val (.int p3_1), .val (.int p3_2), .val (.long q3_3), .second, .val (.long q3_4), .second, .val (.int v7), .val (.int v16), .unset] [])) _
    refine XS.iloadN X17.here hx rfl (hb hby d3_51) rfl ?_
    show Steps p.tables e below (T17.setTop (mkF m 52 #[.val (.ref a3_0), .val (.int p3_1), .val (.int p3_2), .val (.long q3_3), .second, .val (.long q3_4), .second, .val (.int v7), .val (.int v16), .unset] [(.int p3_1)])) _
    refine XS.aloadN X17.here hx rfl (hb hby d3_52) rfl rfl ?_
    show Steps p.tables e below (T17.setTop (mkF m 53 #[.val (.ref a3_0), .val (.int p3_1), .val (.int p3_2), .val (.long q3_3), .second, .val (.long q3_4), .second, .val (.int v7), .val (.int v16), .unset] [(.ref a3_0), (.int p3_1)])) _
    refine st18 _ ?_
    exact k
  obtain ⟨v24, hv24⟩ : ∃ z : Int32, z = (if (p3_1 = w_node_a3_0 ∧ w_beat_a3_0 < p3_2) then (1 : Int32) else (0 : Int32)) := ⟨_, rfl⟩
  obtain ⟨T25, Lo25, X25, N25, e25, G25⟩ := own_join X18 N17 (h := h0) (mkF m 56 #[.val (.ref a3_0), .val (.int p3_1), .val (.int p3_2), .val (.long q3_3), .second, .val (.long q3_4), .second, .val (.int v7), .val (.int v16), .unset] [(.int w_node_a3_0), (.int p3_1)]) (mkF m 72 #[.val (.ref a3_0), .val (.int p3_1), .val (.int p3_2), .val (.long q3_3), .second, .val (.long q3_4), .second, .val (.int v7), .val (.int v16), .unset] [(.int v24)]) (by
    by_cases h56_20 : p3_1 = w_node_a3_0
    · obtain ⟨T21, X21, e21, st21⟩ := getF X18 hx hZ hown (host := "") (Or.inl (ow26 hw)) Via.refl e18 F_beat_a3_0 (g := (mkF m 61 #[.val (.ref a3_0), .val (.int p3_1), .val (.int p3_2), .val (.long q3_3), .second, .val (.long q3_4), .second, .val (.int v7), .val (.int v16), .unset] [(.ref a3_0), (.int p3_2)])) rfl rfl (hb hby d3_61)
      have G22 : ∀ t, Steps p.tables e below (T21.setTop (mkF m 64 #[.val (.ref a3_0), .val (.int p3_1), .val (.int p3_2), .val (.long q3_3), .second, .val (.long q3_4), .second, .val (.int v7), .val (.int v16), .unset] [(.int w_beat_a3_0), (.int p3_2)])) t → Steps p.tables e below (T18.setTop (mkF m 56 #[.val (.ref a3_0), .val (.int p3_1), .val (.int p3_2), .val (.long q3_3), .second, .val (.long q3_4), .second, .val (.int v7), .val (.int v16), .unset] [(.int w_node_a3_0), (.int p3_1)])) t := by
        intro t k
        show Steps p.tables e below (T18.setTop (mkF m 56 #[.val (.ref a3_0), .val (.int p3_1), .val (.int p3_2), .val (.long q3_3), .second, .val (.long q3_4), .second, .val (.int v7), .val (.int v16), .unset] [(.int w_node_a3_0), (.int p3_1)])) _
        refine XS.icmpNo X18.here hx rfl (hb hby d3_56) rfl (teq h56_20).2 ?_
        show Steps p.tables e below (T18.setTop (mkF m 59 #[.val (.ref a3_0), .val (.int p3_1), .val (.int p3_2), .val (.long q3_3), .second, .val (.long q3_4), .second, .val (.int v7), .val (.int v16), .unset] [])) _
        refine XS.iloadN X18.here hx rfl (hb hby d3_59) rfl ?_
        show Steps p.tables e below (T18.setTop (mkF m 60 #[.val (.ref a3_0), .val (.int p3_1), .val (.int p3_2), .val (.long q3_3), .second, .val (.long q3_4), .second, .val (.int v7), .val (.int v16), .unset] [(.int p3_2)])) _
        refine XS.aloadN X18.here hx rfl (hb hby d3_60) rfl rfl ?_
        show Steps p.tables e below (T18.setTop (mkF m 61 #[.val (.ref a3_0), .val (.int p3_1), .val (.int p3_2), .val (.long q3_3), .second, .val (.long q3_4), .second, .val (.int v7), .val (.int v16), .unset] [(.ref a3_0), (.int p3_2)])) _
        refine st21 _ ?_
        exact k
      by_cases h64_23 : w_beat_a3_0 < p3_2
      · refine ⟨T21, _, X21, N17, e21, fun t k => ?_⟩
        rw [show v24 = (1 : Int32) from hv24.trans (if_pos ⟨h56_20, h64_23⟩)] at k
        refine G22 _ ?_
        show Steps p.tables e below (T21.setTop (mkF m 64 #[.val (.ref a3_0), .val (.int p3_1), .val (.int p3_2), .val (.long q3_3), .second, .val (.long q3_4), .second, .val (.int v7), .val (.int v16), .unset] [(.int w_beat_a3_0), (.int p3_2)])) _
        refine XS.icmpNo X21.here hx rfl (hb hby d3_64) rfl (tlt h64_23).2.2.2 ?_
        show Steps p.tables e below (T21.setTop (mkF m 67 #[.val (.ref a3_0), .val (.int p3_1), .val (.int p3_2), .val (.long q3_3), .second, .val (.long q3_4), .second, .val (.int v7), .val (.int v16), .unset] [])) _
        refine XS.iconst X21.here hx rfl (hb hby d3_67) ?_
        show Steps p.tables e below (T21.setTop (mkF m 68 #[.val (.ref a3_0), .val (.int p3_1), .val (.int p3_2), .val (.long q3_3), .second, .val (.long q3_4), .second, .val (.int v7), .val (.int v16), .unset] [(.int (1 : Int32))])) _
        refine XS.goto X21.here hx rfl (pc0 := 68) (pc' := 72) rfl (hb hby d3_68) (by decide) (by decide) ?_
        exact k
      · refine ⟨T21, _, X21, N17, e21, fun t k => ?_⟩
        rw [show v24 = (0 : Int32) from hv24.trans (if_neg (fun q => h64_23 q.2))] at k
        refine G22 _ ?_
        show Steps p.tables e below (T21.setTop (mkF m 64 #[.val (.ref a3_0), .val (.int p3_1), .val (.int p3_2), .val (.long q3_3), .second, .val (.long q3_4), .second, .val (.int v7), .val (.int v16), .unset] [(.int w_beat_a3_0), (.int p3_2)])) _
        refine XS.icmpYes X21.here hx rfl (pc0 := 64) (pc' := 71) rfl (hb hby d3_64) rfl (flt h64_23).2.2.2 (by decide) (by decide) ?_
        show Steps p.tables e below (T21.setTop (mkF m 71 #[.val (.ref a3_0), .val (.int p3_1), .val (.int p3_2), .val (.long q3_3), .second, .val (.long q3_4), .second, .val (.int v7), .val (.int v16), .unset] [])) _
        refine XS.iconst X21.here hx rfl (hb hby d3_71) ?_
        exact k
    · refine ⟨T18, _, X18, N17, e18, fun t k => ?_⟩
      rw [show v24 = (0 : Int32) from hv24.trans (if_neg (fun q => h56_20 q.1))] at k
      show Steps p.tables e below (T18.setTop (mkF m 56 #[.val (.ref a3_0), .val (.int p3_1), .val (.int p3_2), .val (.long q3_3), .second, .val (.long q3_4), .second, .val (.int v7), .val (.int v16), .unset] [(.int w_node_a3_0), (.int p3_1)])) _
      refine XS.icmpYes X18.here hx rfl (pc0 := 56) (pc' := 71) rfl (hb hby d3_56) rfl (feq h56_20).2 (by decide) (by decide) ?_
      show Steps p.tables e below (T18.setTop (mkF m 71 #[.val (.ref a3_0), .val (.int p3_1), .val (.int p3_2), .val (.long q3_3), .second, .val (.long q3_4), .second, .val (.int v7), .val (.int v16), .unset] [])) _
      refine XS.iconst X18.here hx rfl (hb hby d3_71) ?_
      exact k)
  have G26 : ∀ t, Steps p.tables e below (T25.setTop (mkF m 76 #[.val (.ref a3_0), .val (.int p3_1), .val (.int p3_2), .val (.long q3_3), .second, .val (.long q3_4), .second, .val (.int v7), .val (.int v16), .val (.int v24)] [(.int v16)])) t → Steps p.tables e below (T25.setTop (mkF m 72 #[.val (.ref a3_0), .val (.int p3_1), .val (.int p3_2), .val (.long q3_3), .second, .val (.long q3_4), .second, .val (.int v7), .val (.int v16), .unset] [(.int v24)])) t := by
    intro t k
    show Steps p.tables e below (T25.setTop (mkF m 72 #[.val (.ref a3_0), .val (.int p3_1), .val (.int p3_2), .val (.long q3_3), .second, .val (.long q3_4), .second, .val (.int v7), .val (.int v16), .unset] [(.int v24)])) _
    refine XS.istore X25.here hx rfl (hb hby d3_72) rfl (l' := #[.val (.ref a3_0), .val (.int p3_1), .val (.int p3_2), .val (.long q3_3), .second, .val (.long q3_4), .second, .val (.int v7), .val (.int v16), .val (.int v24)]) rfl ?_
    show Steps p.tables e below (T25.setTop (mkF m 74 #[.val (.ref a3_0), .val (.int p3_1), .val (.int p3_2), .val (.long q3_3), .second, .val (.long q3_4), .second, .val (.int v7), .val (.int v16), .val (.int v24)] [])) _
    refine XS.iload X25.here hx rfl (hb hby d3_74) rfl ?_
    exact k
  by_cases h76_27 : (q3_3 < (5000 : Int64) ∧ (p3_1 < w_node_a3_0 ∧ ¬ ((p3_1 = w_dropped_a3_0 ∧ ¬ (w_droppedBeat_a3_0 < p3_2)))))
  · obtain ⟨T28, h28, X28, e28, W28, st28⟩ := putF X25 hx hZ hown (host := "") (Or.inl (ow14 hw)) Via.refl e25 F_node_a3_0 E_a3_0 (Or.inl (ow15 hw)) (ow1 hw) (ty := .int) (by decide) rfl rfl (g := (mkF m 86 #[.val (.ref a3_0), .val (.int p3_1), .val (.int p3_2), .val (.long q3_3), .second, .val (.long q3_4), .second, .val (.int v7), .val (.int v16), .val (.int v24)] [(.int p3_1), (.ref a3_0)])) rfl rfl (hb hby d3_86)
    have F28 := F_node_a3_0.same W28
    have K28 : Keep h0 h28 [a3_0] := (Keep.refl h0 [a3_0]).wr W28 (Or.inl (List.mem_of_getElem? (i := 0) rfl))
    have Z28 : n0 ≤ h28.size := Nat.le_trans Z0 K28.1
    have N28 := Fr.snoc X28 N25 g_a3_0
    have f29 := (E_a3_0.wr W28)
    have f30 := (F_beat_a3_0.other W28 (Or.inr (slot_ne (Or.inl (ow27 hw)) (Or.inl (ow15 hw)) (by decide) (t := .int) (t' := .int) (by decide) (by decide))))
    obtain ⟨T31, h31, X31, e31, W31, st31⟩ := putF X28 hx hZ hown (host := "") (Or.inl (ow26 hw)) Via.refl e28 f30 f29 (Or.inl (ow27 hw)) (ow1 hw) (ty := .int) (by decide) rfl rfl (g := (mkF m 91 #[.val (.ref a3_0), .val (.int p3_1), .val (.int p3_2), .val (.long q3_3), .second, .val (.long q3_4), .second, .val (.int v7), .val (.int v16), .val (.int v24)] [(.int p3_2), (.ref a3_0)])) rfl rfl (hb hby d3_91)
    have F31 := f30.same W31
    have K31 : Keep h0 h31 [a3_0] := K28.wr W31 (Or.inl (List.mem_of_getElem? (i := 0) rfl))
    have Z31 : n0 ≤ h31.size := Nat.le_trans Z0 K31.1
    have N31 := Fr.snoc X31 N28 g_a3_0
    have f32 := (f29.wr W31)
    have f33 := ((F_raisedAt_a3_0.other W28 (Or.inr (slot_ne (Or.inl (ow17 hw)) (Or.inl (ow15 hw)) (by decide) (t := .long) (t' := .int) (by decide) (by decide)))).other W31 (Or.inr (slot_ne (Or.inl (ow17 hw)) (Or.inl (ow27 hw)) (by decide) (t := .long) (t' := .int) (by decide) (by decide))))
    obtain ⟨T34, h34, X34, e34, W34, st34⟩ := putF X31 hx hZ hown (host := "") (Or.inl (ow16 hw)) Via.refl e31 f33 f32 (Or.inl (ow17 hw)) (ow1 hw) (ty := .long) (by decide) rfl rfl (g := (mkF m 99 #[.val (.ref a3_0), .val (.int p3_1), .val (.int p3_2), .val (.long q3_3), .second, .val (.long q3_4), .second, .val (.int v7), .val (.int v16), .val (.int v24)] [(.long (q3_4 - q3_3)), (.ref a3_0)])) rfl rfl (hb hby d3_99)
    have F34 := f33.same W34
    have K34 : Keep h0 h34 [a3_0] := K31.wr W34 (Or.inl (List.mem_of_getElem? (i := 0) rfl))
    have Z34 : n0 ≤ h34.size := Nat.le_trans Z0 K34.1
    have N34 := Fr.snoc X34 N31 g_a3_0
    have f35 := (f32.wr W34)
    have f36 := (((F_since_a3_0.other W28 (Or.inr (slot_ne (Or.inl (ow19 hw)) (Or.inl (ow15 hw)) (by decide) (t := .long) (t' := .int) (by decide) (by decide)))).other W31 (Or.inr (slot_ne (Or.inl (ow19 hw)) (Or.inl (ow27 hw)) (by decide) (t := .long) (t' := .int) (by decide) (by decide)))).other W34 (Or.inr (slot_ne (Or.inl (ow19 hw)) (Or.inl (ow17 hw)) (by decide) (t := .long) (t' := .long) (by decide) (by decide))))
    obtain ⟨T37, h37, X37, e37, W37, st37⟩ := putF X34 hx hZ hown (host := "") (Or.inl (ow18 hw)) Via.refl e34 f36 f35 (Or.inl (ow19 hw)) (ow1 hw) (ty := .long) (by decide) rfl rfl (g := (mkF m 110 #[.val (.ref a3_0), .val (.int p3_1), .val (.int p3_2), .val (.long q3_3), .second, .val (.long q3_4), .second, .val (.int v7), .val (.int v16), .val (.int v24)] [(.long q3_4), (.ref a3_0)])) rfl rfl (hb hby d3_110)
    have F37 := f36.same W37
    have K37 : Keep h0 h37 [a3_0] := K34.wr W37 (Or.inl (List.mem_of_getElem? (i := 0) rfl))
    have Z37 : n0 ≤ h37.size := Nat.le_trans Z0 K37.1
    have N37 := Fr.snoc X37 N34 g_a3_0
    have f38 := (f35.wr W37)
    have f39 := ((((F_checkAt_a3_0.other W28 (Or.inr (slot_ne (Or.inl (ow13 hw)) (Or.inl (ow15 hw)) (by decide) (t := .long) (t' := .int) (by decide) (by decide)))).other W31 (Or.inr (slot_ne (Or.inl (ow13 hw)) (Or.inl (ow27 hw)) (by decide) (t := .long) (t' := .int) (by decide) (by decide)))).other W34 (Or.inr (slot_ne (Or.inl (ow13 hw)) (Or.inl (ow17 hw)) (by decide) (t := .long) (t' := .long) (by decide) (by decide)))).other W37 (Or.inr (slot_ne (Or.inl (ow13 hw)) (Or.inl (ow19 hw)) (by decide) (t := .long) (t' := .long) (by decide) (by decide))))
    obtain ⟨T40, h40, X40, e40, W40, st40⟩ := putF X37 hx hZ hown (host := "") (Or.inl (ow12 hw)) Via.refl e37 f39 f38 (Or.inl (ow13 hw)) (ow1 hw) (ty := .long) (by decide) rfl rfl (g := (mkF m 120 #[.val (.ref a3_0), .val (.int p3_1), .val (.int p3_2), .val (.long q3_3), .second, .val (.long q3_4), .second, .val (.int v7), .val (.int v16), .val (.int v24)] [(.long (q3_4 + (1000 : Int64))), (.ref a3_0)])) rfl rfl (hb hby d3_120)
    have F40 := f39.same W40
    have K40 : Keep h0 h40 [a3_0] := K37.wr W40 (Or.inl (List.mem_of_getElem? (i := 0) rfl))
    have Z40 : n0 ≤ h40.size := Nat.le_trans Z0 K40.1
    have N40 := Fr.snoc X40 N37 g_a3_0
    obtain ⟨fs, hr, hrun, hended, hW, hsame⟩ := X40.leave (v := some (.int (1 : Int32))) (fun h => by rw [Bd.returns] at h; cases h)
    refine ⟨_, _, pre0 _ ?_, hrun, hended, _, _, rfl, ?_, ⟨_, rfl⟩, hW, hsame.mono (by decide) (by decide)⟩
    · refine G2 _ ?_
      refine G8 _ ?_
      refine G9 _ ?_
      refine G17 _ ?_
      refine G19 _ ?_
      refine G25 _ ?_
      refine G26 _ ?_
      show Steps p.tables e below (T25.setTop (mkF m 76 #[.val (.ref a3_0), .val (.int p3_1), .val (.int p3_2), .val (.long q3_3), .second, .val (.long q3_4), .second, .val (.int v7), .val (.int v16), .val (.int v24)] [(.int v16)])) _
      refine XS.ifYes X25.here hx rfl (pc0 := 76) (pc' := 84) rfl (hb hby d3_76) rfl ((if0 _ _).trans (feq (own_b1 (hv16.trans (if_pos h76_27)))).2) (by decide) (by decide) ?_
      show Steps p.tables e below (T25.setTop (mkF m 84 #[.val (.ref a3_0), .val (.int p3_1), .val (.int p3_2), .val (.long q3_3), .second, .val (.long q3_4), .second, .val (.int v7), .val (.int v16), .val (.int v24)] [])) _
      refine XS.aloadN X25.here hx rfl (hb hby d3_84) rfl rfl ?_
      show Steps p.tables e below (T25.setTop (mkF m 85 #[.val (.ref a3_0), .val (.int p3_1), .val (.int p3_2), .val (.long q3_3), .second, .val (.long q3_4), .second, .val (.int v7), .val (.int v16), .val (.int v24)] [(.ref a3_0)])) _
      refine XS.iloadN X25.here hx rfl (hb hby d3_85) rfl ?_
      show Steps p.tables e below (T25.setTop (mkF m 86 #[.val (.ref a3_0), .val (.int p3_1), .val (.int p3_2), .val (.long q3_3), .second, .val (.long q3_4), .second, .val (.int v7), .val (.int v16), .val (.int v24)] [(.int p3_1), (.ref a3_0)])) _
      refine st28 _ ?_
      show Steps p.tables e below (T28.setTop (mkF m 89 #[.val (.ref a3_0), .val (.int p3_1), .val (.int p3_2), .val (.long q3_3), .second, .val (.long q3_4), .second, .val (.int v7), .val (.int v16), .val (.int v24)] [])) _
      refine XS.aloadN X28.here hx rfl (hb hby d3_89) rfl rfl ?_
      show Steps p.tables e below (T28.setTop (mkF m 90 #[.val (.ref a3_0), .val (.int p3_1), .val (.int p3_2), .val (.long q3_3), .second, .val (.long q3_4), .second, .val (.int v7), .val (.int v16), .val (.int v24)] [(.ref a3_0)])) _
      refine XS.iloadN X28.here hx rfl (hb hby d3_90) rfl ?_
      show Steps p.tables e below (T28.setTop (mkF m 91 #[.val (.ref a3_0), .val (.int p3_1), .val (.int p3_2), .val (.long q3_3), .second, .val (.long q3_4), .second, .val (.int v7), .val (.int v16), .val (.int v24)] [(.int p3_2), (.ref a3_0)])) _
      refine st31 _ ?_
      show Steps p.tables e below (T31.setTop (mkF m 94 #[.val (.ref a3_0), .val (.int p3_1), .val (.int p3_2), .val (.long q3_3), .second, .val (.long q3_4), .second, .val (.int v7), .val (.int v16), .val (.int v24)] [])) _
      refine XS.aloadN X31.here hx rfl (hb hby d3_94) rfl rfl ?_
      show Steps p.tables e below (T31.setTop (mkF m 95 #[.val (.ref a3_0), .val (.int p3_1), .val (.int p3_2), .val (.long q3_3), .second, .val (.long q3_4), .second, .val (.int v7), .val (.int v16), .val (.int v24)] [(.ref a3_0)])) _
      refine XS.lload X31.here hx rfl (hb hby d3_95) rfl ?_
      show Steps p.tables e below (T31.setTop (mkF m 97 #[.val (.ref a3_0), .val (.int p3_1), .val (.int p3_2), .val (.long q3_3), .second, .val (.long q3_4), .second, .val (.int v7), .val (.int v16), .val (.int v24)] [(.long q3_4), (.ref a3_0)])) _
      refine XS.lloadN X31.here hx rfl (hb hby d3_97) rfl ?_
      show Steps p.tables e below (T31.setTop (mkF m 98 #[.val (.ref a3_0), .val (.int p3_1), .val (.int p3_2), .val (.long q3_3), .second, .val (.long q3_4), .second, .val (.int v7), .val (.int v16), .val (.int v24)] [(.long q3_3), (.long q3_4), (.ref a3_0)])) _
      refine XS.lsub X31.here hx rfl (hb hby d3_98) rfl ?_
      show Steps p.tables e below (T31.setTop (mkF m 99 #[.val (.ref a3_0), .val (.int p3_1), .val (.int p3_2), .val (.long q3_3), .second, .val (.long q3_4), .second, .val (.int v7), .val (.int v16), .val (.int v24)] [(.long (q3_4 - q3_3)), (.ref a3_0)])) _
      refine st34 _ ?_
      show Steps p.tables e below (T34.setTop (mkF m 102 #[.val (.ref a3_0), .val (.int p3_1), .val (.int p3_2), .val (.long q3_3), .second, .val (.long q3_4), .second, .val (.int v7), .val (.int v16), .val (.int v24)] [])) _
      refine XS.iload X34.here hx rfl (hb hby d3_102) rfl ?_
      show Steps p.tables e below (T34.setTop (mkF m 104 #[.val (.ref a3_0), .val (.int p3_1), .val (.int p3_2), .val (.long q3_3), .second, .val (.long q3_4), .second, .val (.int v7), .val (.int v16), .val (.int v24)] [(.int v16)])) _
      refine XS.ifNo X34.here hx rfl (hb hby d3_104) rfl ((if0 _ _).trans (feq (own_b1 (hv16.trans (if_pos h76_27)))).1) ?_
      show Steps p.tables e below (T34.setTop (mkF m 107 #[.val (.ref a3_0), .val (.int p3_1), .val (.int p3_2), .val (.long q3_3), .second, .val (.long q3_4), .second, .val (.int v7), .val (.int v16), .val (.int v24)] [])) _
      refine XS.aloadN X34.here hx rfl (hb hby d3_107) rfl rfl ?_
      show Steps p.tables e below (T34.setTop (mkF m 108 #[.val (.ref a3_0), .val (.int p3_1), .val (.int p3_2), .val (.long q3_3), .second, .val (.long q3_4), .second, .val (.int v7), .val (.int v16), .val (.int v24)] [(.ref a3_0)])) _
      refine XS.lload X34.here hx rfl (hb hby d3_108) rfl ?_
      show Steps p.tables e below (T34.setTop (mkF m 110 #[.val (.ref a3_0), .val (.int p3_1), .val (.int p3_2), .val (.long q3_3), .second, .val (.long q3_4), .second, .val (.int v7), .val (.int v16), .val (.int v24)] [(.long q3_4), (.ref a3_0)])) _
      refine st37 _ ?_
      show Steps p.tables e below (T37.setTop (mkF m 113 #[.val (.ref a3_0), .val (.int p3_1), .val (.int p3_2), .val (.long q3_3), .second, .val (.long q3_4), .second, .val (.int v7), .val (.int v16), .val (.int v24)] [])) _
      refine XS.aloadN X37.here hx rfl (hb hby d3_113) rfl rfl ?_
      show Steps p.tables e below (T37.setTop (mkF m 114 #[.val (.ref a3_0), .val (.int p3_1), .val (.int p3_2), .val (.long q3_3), .second, .val (.long q3_4), .second, .val (.int v7), .val (.int v16), .val (.int v24)] [(.ref a3_0)])) _
      refine XS.lload X37.here hx rfl (hb hby d3_114) rfl ?_
      show Steps p.tables e below (T37.setTop (mkF m 116 #[.val (.ref a3_0), .val (.int p3_1), .val (.int p3_2), .val (.long q3_3), .second, .val (.long q3_4), .second, .val (.int v7), .val (.int v16), .val (.int v24)] [(.long q3_4), (.ref a3_0)])) _
      refine X37.ldc2Long hx hown (mvT hZ (ow65 hw)) (g := (mkF m 116 #[.val (.ref a3_0), .val (.int p3_1), .val (.int p3_2), .val (.long q3_3), .second, .val (.long q3_4), .second, .val (.int v7), .val (.int v16), .val (.int v24)] [(.long q3_4), (.ref a3_0)])) rfl (hb hby d3_116) _ ?_
      show Steps p.tables e below (T37.setTop (mkF m 119 #[.val (.ref a3_0), .val (.int p3_1), .val (.int p3_2), .val (.long q3_3), .second, .val (.long q3_4), .second, .val (.int v7), .val (.int v16), .val (.int v24)] [(.long (1000 : Int64)), (.long q3_4), (.ref a3_0)])) _
      refine XS.ladd X37.here hx rfl (hb hby d3_119) rfl ?_
      show Steps p.tables e below (T37.setTop (mkF m 120 #[.val (.ref a3_0), .val (.int p3_1), .val (.int p3_2), .val (.long q3_3), .second, .val (.long q3_4), .second, .val (.int v7), .val (.int v16), .val (.int v24)] [(.long (q3_4 + (1000 : Int64))), (.ref a3_0)])) _
      refine st40 _ ?_
      show Steps p.tables e below (T40.setTop (mkF m 123 #[.val (.ref a3_0), .val (.int p3_1), .val (.int p3_2), .val (.long q3_3), .second, .val (.long q3_4), .second, .val (.int v7), .val (.int v16), .val (.int v24)] [])) _
      refine XS.iload X40.here hx rfl (hb hby d3_123) rfl ?_
      show Steps p.tables e below (T40.setTop (mkF m 125 #[.val (.ref a3_0), .val (.int p3_1), .val (.int p3_2), .val (.long q3_3), .second, .val (.long q3_4), .second, .val (.int v7), .val (.int v16), .val (.int v24)] [(.int v16)])) _
      rw [show v16 = (1 : Int32) from hv16.trans (if_pos h76_27)]
      show Steps p.tables e below (T40.setTop (mkF m 125 #[.val (.ref a3_0), .val (.int p3_1), .val (.int p3_2), .val (.long q3_3), .second, .val (.long q3_4), .second, .val (.int v7), .val (.int (1 : Int32)), .val (.int v24)] [(.int (1 : Int32))])) _
      exact retN X40 hx (t := .boolean) Bd.returns (by simp) (hb hby d3_125) hr
    · have f50 := (((((F_dropped_a3_0.other W28 (Or.inr (slot_ne (Or.inl (ow10 hw)) (Or.inl (ow15 hw)) (by decide) (t := .int) (t' := .int) (by decide) (by decide)))).other W31 (Or.inr (slot_ne (Or.inl (ow10 hw)) (Or.inl (ow27 hw)) (by decide) (t := .int) (t' := .int) (by decide) (by decide)))).other W34 (Or.inr (slot_ne (Or.inl (ow10 hw)) (Or.inl (ow17 hw)) (by decide) (t := .int) (t' := .long) (by decide) (by decide)))).other W37 (Or.inr (slot_ne (Or.inl (ow10 hw)) (Or.inl (ow19 hw)) (by decide) (t := .int) (t' := .long) (by decide) (by decide)))).other W40 (Or.inr (slot_ne (Or.inl (ow10 hw)) (Or.inl (ow13 hw)) (by decide) (t := .int) (t' := .long) (by decide) (by decide))))
      have f51 := ((((F28.other W31 (Or.inr (slot_ne (Or.inl (ow15 hw)) (Or.inl (ow27 hw)) (by decide) (t := .int) (t' := .int) (by decide) (by decide)))).other W34 (Or.inr (slot_ne (Or.inl (ow15 hw)) (Or.inl (ow17 hw)) (by decide) (t := .int) (t' := .long) (by decide) (by decide)))).other W37 (Or.inr (slot_ne (Or.inl (ow15 hw)) (Or.inl (ow19 hw)) (by decide) (t := .int) (t' := .long) (by decide) (by decide)))).other W40 (Or.inr (slot_ne (Or.inl (ow15 hw)) (Or.inl (ow13 hw)) (by decide) (t := .int) (t' := .long) (by decide) (by decide))))
      have f52 := (f38.wr W40)
      have f53 := (((F31.other W34 (Or.inr (slot_ne (Or.inl (ow27 hw)) (Or.inl (ow17 hw)) (by decide) (t := .int) (t' := .long) (by decide) (by decide)))).other W37 (Or.inr (slot_ne (Or.inl (ow27 hw)) (Or.inl (ow19 hw)) (by decide) (t := .int) (t' := .long) (by decide) (by decide)))).other W40 (Or.inr (slot_ne (Or.inl (ow27 hw)) (Or.inl (ow13 hw)) (by decide) (t := .int) (t' := .long) (by decide) (by decide))))
      have f54 := ((F34.other W37 (Or.inr (slot_ne (Or.inl (ow17 hw)) (Or.inl (ow19 hw)) (by decide) (t := .long) (t' := .long) (by decide) (by decide)))).other W40 (Or.inr (slot_ne (Or.inl (ow17 hw)) (Or.inl (ow13 hw)) (by decide) (t := .long) (t' := .long) (by decide) (by decide))))
      have f55 := (F37.other W40 (Or.inr (slot_ne (Or.inl (ow19 hw)) (Or.inl (ow13 hw)) (by decide) (t := .long) (t' := .long) (by decide) (by decide))))
      have f56 := (((((F_droppedBeat_a3_0.other W28 (Or.inr (slot_ne (Or.inl (ow35 hw)) (Or.inl (ow15 hw)) (by decide) (t := .int) (t' := .int) (by decide) (by decide)))).other W31 (Or.inr (slot_ne (Or.inl (ow35 hw)) (Or.inl (ow27 hw)) (by decide) (t := .int) (t' := .int) (by decide) (by decide)))).other W34 (Or.inr (slot_ne (Or.inl (ow35 hw)) (Or.inl (ow17 hw)) (by decide) (t := .int) (t' := .long) (by decide) (by decide)))).other W37 (Or.inr (slot_ne (Or.inl (ow35 hw)) (Or.inl (ow19 hw)) (by decide) (t := .int) (t' := .long) (by decide) (by decide)))).other W40 (Or.inr (slot_ne (Or.inl (ow35 hw)) (Or.inl (ow13 hw)) (by decide) (t := .int) (t' := .long) (by decide) (by decide))))
      have f57 := (((((F_far_a3_0.other W28 (Or.inr (slot_ne (Or.inl (ow64 hw)) (Or.inl (ow15 hw)) (by decide) (t := .boolean) (t' := .int) (by decide) (by decide)))).other W31 (Or.inr (slot_ne (Or.inl (ow64 hw)) (Or.inl (ow27 hw)) (by decide) (t := .boolean) (t' := .int) (by decide) (by decide)))).other W34 (Or.inr (slot_ne (Or.inl (ow64 hw)) (Or.inl (ow17 hw)) (by decide) (t := .boolean) (t' := .long) (by decide) (by decide)))).other W37 (Or.inr (slot_ne (Or.inl (ow64 hw)) (Or.inl (ow19 hw)) (by decide) (t := .boolean) (t' := .long) (by decide) (by decide)))).other W40 (Or.inr (slot_ne (Or.inl (ow64 hw)) (Or.inl (ow13 hw)) (by decide) (t := .boolean) (t' := .long) (by decide) (by decide))))
      show Q_rm3 Z a3_0 p3_1 p3_2 q3_3 q3_4 w_dropped_a3_0 w_droppedBeat_a3_0 w_node_a3_0 w_beat_a3_0 w_raisedAt_a3_0 w_since_a3_0 w_checkAt_a3_0 w_far_a3_0 h0 n0 _ T40.heap _
      rw [e40]
      subst hv24
      subst hv16
      subst hv7
      exact ⟨(congrArg (fun z => some (Value.int z)) (if_pos h76_27).symm), N40, K40, f50, (own_fld f51 (congrArg Value.int (if_pos h76_27))), f52, (own_fld f53 (congrArg Value.int (if_pos h76_27))), (own_fld f54 (congrArg Value.long (if_pos h76_27))), (own_fld f55 (congrArg Value.long (if_pos h76_27))), (own_fld F40 (congrArg Value.long (if_pos h76_27))), f56, f57⟩
  · have G41 : ∀ t, Steps p.tables e below (T25.setTop (mkF m 81 #[.val (.ref a3_0), .val (.int p3_1), .val (.int p3_2), .val (.long q3_3), .second, .val (.long q3_4), .second, .val (.int v7), .val (.int v16), .val (.int v24)] [(.int v24)])) t → Steps p.tables e below (T25.setTop (mkF m 76 #[.val (.ref a3_0), .val (.int p3_1), .val (.int p3_2), .val (.long q3_3), .second, .val (.long q3_4), .second, .val (.int v7), .val (.int v16), .val (.int v24)] [(.int v16)])) t := by
      intro t k
      show Steps p.tables e below (T25.setTop (mkF m 76 #[.val (.ref a3_0), .val (.int p3_1), .val (.int p3_2), .val (.long q3_3), .second, .val (.long q3_4), .second, .val (.int v7), .val (.int v16), .val (.int v24)] [(.int v16)])) _
      refine XS.ifNo X25.here hx rfl (hb hby d3_76) rfl ((if0 _ _).trans (teq (hv16.trans (if_neg h76_27))).2) ?_
      show Steps p.tables e below (T25.setTop (mkF m 79 #[.val (.ref a3_0), .val (.int p3_1), .val (.int p3_2), .val (.long q3_3), .second, .val (.long q3_4), .second, .val (.int v7), .val (.int v16), .val (.int v24)] [])) _
      refine XS.iload X25.here hx rfl (hb hby d3_79) rfl ?_
      exact k
    by_cases h81_42 : (p3_1 = w_node_a3_0 ∧ w_beat_a3_0 < p3_2)
    · obtain ⟨T43, h43, X43, e43, W43, st43⟩ := putF X25 hx hZ hown (host := "") (Or.inl (ow14 hw)) Via.refl e25 F_node_a3_0 E_a3_0 (Or.inl (ow15 hw)) (ow1 hw) (ty := .int) (by decide) rfl rfl (g := (mkF m 86 #[.val (.ref a3_0), .val (.int p3_1), .val (.int p3_2), .val (.long q3_3), .second, .val (.long q3_4), .second, .val (.int v7), .val (.int v16), .val (.int v24)] [(.int p3_1), (.ref a3_0)])) rfl rfl (hb hby d3_86)
      have F43 := F_node_a3_0.same W43
      have K43 : Keep h0 h43 [a3_0] := (Keep.refl h0 [a3_0]).wr W43 (Or.inl (List.mem_of_getElem? (i := 0) rfl))
      have Z43 : n0 ≤ h43.size := Nat.le_trans Z0 K43.1
      have N43 := Fr.snoc X43 N25 g_a3_0
      have f44 := (E_a3_0.wr W43)
      have f45 := (F_beat_a3_0.other W43 (Or.inr (slot_ne (Or.inl (ow27 hw)) (Or.inl (ow15 hw)) (by decide) (t := .int) (t' := .int) (by decide) (by decide))))
      obtain ⟨T46, h46, X46, e46, W46, st46⟩ := putF X43 hx hZ hown (host := "") (Or.inl (ow26 hw)) Via.refl e43 f45 f44 (Or.inl (ow27 hw)) (ow1 hw) (ty := .int) (by decide) rfl rfl (g := (mkF m 91 #[.val (.ref a3_0), .val (.int p3_1), .val (.int p3_2), .val (.long q3_3), .second, .val (.long q3_4), .second, .val (.int v7), .val (.int v16), .val (.int v24)] [(.int p3_2), (.ref a3_0)])) rfl rfl (hb hby d3_91)
      have F46 := f45.same W46
      have K46 : Keep h0 h46 [a3_0] := K43.wr W46 (Or.inl (List.mem_of_getElem? (i := 0) rfl))
      have Z46 : n0 ≤ h46.size := Nat.le_trans Z0 K46.1
      have N46 := Fr.snoc X46 N43 g_a3_0
      have f47 := (f44.wr W46)
      have f48 := ((F_raisedAt_a3_0.other W43 (Or.inr (slot_ne (Or.inl (ow17 hw)) (Or.inl (ow15 hw)) (by decide) (t := .long) (t' := .int) (by decide) (by decide)))).other W46 (Or.inr (slot_ne (Or.inl (ow17 hw)) (Or.inl (ow27 hw)) (by decide) (t := .long) (t' := .int) (by decide) (by decide))))
      obtain ⟨T49, h49, X49, e49, W49, st49⟩ := putF X46 hx hZ hown (host := "") (Or.inl (ow16 hw)) Via.refl e46 f48 f47 (Or.inl (ow17 hw)) (ow1 hw) (ty := .long) (by decide) rfl rfl (g := (mkF m 99 #[.val (.ref a3_0), .val (.int p3_1), .val (.int p3_2), .val (.long q3_3), .second, .val (.long q3_4), .second, .val (.int v7), .val (.int v16), .val (.int v24)] [(.long (q3_4 - q3_3)), (.ref a3_0)])) rfl rfl (hb hby d3_99)
      have F49 := f48.same W49
      have K49 : Keep h0 h49 [a3_0] := K46.wr W49 (Or.inl (List.mem_of_getElem? (i := 0) rfl))
      have Z49 : n0 ≤ h49.size := Nat.le_trans Z0 K49.1
      have N49 := Fr.snoc X49 N46 g_a3_0
      obtain ⟨fs, hr, hrun, hended, hW, hsame⟩ := X49.leave (v := some (.int (0 : Int32))) (fun h => by rw [Bd.returns] at h; cases h)
      refine ⟨_, _, pre0 _ ?_, hrun, hended, _, _, rfl, ?_, ⟨_, rfl⟩, hW, hsame.mono (by decide) (by decide)⟩
      · refine G2 _ ?_
        refine G8 _ ?_
        refine G9 _ ?_
        refine G17 _ ?_
        refine G19 _ ?_
        refine G25 _ ?_
        refine G26 _ ?_
        refine G41 _ ?_
        show Steps p.tables e below (T25.setTop (mkF m 81 #[.val (.ref a3_0), .val (.int p3_1), .val (.int p3_2), .val (.long q3_3), .second, .val (.long q3_4), .second, .val (.int v7), .val (.int v16), .val (.int v24)] [(.int v24)])) _
        refine XS.ifNo X25.here hx rfl (hb hby d3_81) rfl ((if0 _ _).trans (feq (own_b1 (hv24.trans (if_pos h81_42)))).1) ?_
        show Steps p.tables e below (T25.setTop (mkF m 84 #[.val (.ref a3_0), .val (.int p3_1), .val (.int p3_2), .val (.long q3_3), .second, .val (.long q3_4), .second, .val (.int v7), .val (.int v16), .val (.int v24)] [])) _
        refine XS.aloadN X25.here hx rfl (hb hby d3_84) rfl rfl ?_
        show Steps p.tables e below (T25.setTop (mkF m 85 #[.val (.ref a3_0), .val (.int p3_1), .val (.int p3_2), .val (.long q3_3), .second, .val (.long q3_4), .second, .val (.int v7), .val (.int v16), .val (.int v24)] [(.ref a3_0)])) _
        refine XS.iloadN X25.here hx rfl (hb hby d3_85) rfl ?_
        show Steps p.tables e below (T25.setTop (mkF m 86 #[.val (.ref a3_0), .val (.int p3_1), .val (.int p3_2), .val (.long q3_3), .second, .val (.long q3_4), .second, .val (.int v7), .val (.int v16), .val (.int v24)] [(.int p3_1), (.ref a3_0)])) _
        refine st43 _ ?_
        show Steps p.tables e below (T43.setTop (mkF m 89 #[.val (.ref a3_0), .val (.int p3_1), .val (.int p3_2), .val (.long q3_3), .second, .val (.long q3_4), .second, .val (.int v7), .val (.int v16), .val (.int v24)] [])) _
        refine XS.aloadN X43.here hx rfl (hb hby d3_89) rfl rfl ?_
        show Steps p.tables e below (T43.setTop (mkF m 90 #[.val (.ref a3_0), .val (.int p3_1), .val (.int p3_2), .val (.long q3_3), .second, .val (.long q3_4), .second, .val (.int v7), .val (.int v16), .val (.int v24)] [(.ref a3_0)])) _
        refine XS.iloadN X43.here hx rfl (hb hby d3_90) rfl ?_
        show Steps p.tables e below (T43.setTop (mkF m 91 #[.val (.ref a3_0), .val (.int p3_1), .val (.int p3_2), .val (.long q3_3), .second, .val (.long q3_4), .second, .val (.int v7), .val (.int v16), .val (.int v24)] [(.int p3_2), (.ref a3_0)])) _
        refine st46 _ ?_
        show Steps p.tables e below (T46.setTop (mkF m 94 #[.val (.ref a3_0), .val (.int p3_1), .val (.int p3_2), .val (.long q3_3), .second, .val (.long q3_4), .second, .val (.int v7), .val (.int v16), .val (.int v24)] [])) _
        refine XS.aloadN X46.here hx rfl (hb hby d3_94) rfl rfl ?_
        show Steps p.tables e below (T46.setTop (mkF m 95 #[.val (.ref a3_0), .val (.int p3_1), .val (.int p3_2), .val (.long q3_3), .second, .val (.long q3_4), .second, .val (.int v7), .val (.int v16), .val (.int v24)] [(.ref a3_0)])) _
        refine XS.lload X46.here hx rfl (hb hby d3_95) rfl ?_
        show Steps p.tables e below (T46.setTop (mkF m 97 #[.val (.ref a3_0), .val (.int p3_1), .val (.int p3_2), .val (.long q3_3), .second, .val (.long q3_4), .second, .val (.int v7), .val (.int v16), .val (.int v24)] [(.long q3_4), (.ref a3_0)])) _
        refine XS.lloadN X46.here hx rfl (hb hby d3_97) rfl ?_
        show Steps p.tables e below (T46.setTop (mkF m 98 #[.val (.ref a3_0), .val (.int p3_1), .val (.int p3_2), .val (.long q3_3), .second, .val (.long q3_4), .second, .val (.int v7), .val (.int v16), .val (.int v24)] [(.long q3_3), (.long q3_4), (.ref a3_0)])) _
        refine XS.lsub X46.here hx rfl (hb hby d3_98) rfl ?_
        show Steps p.tables e below (T46.setTop (mkF m 99 #[.val (.ref a3_0), .val (.int p3_1), .val (.int p3_2), .val (.long q3_3), .second, .val (.long q3_4), .second, .val (.int v7), .val (.int v16), .val (.int v24)] [(.long (q3_4 - q3_3)), (.ref a3_0)])) _
        refine st49 _ ?_
        show Steps p.tables e below (T49.setTop (mkF m 102 #[.val (.ref a3_0), .val (.int p3_1), .val (.int p3_2), .val (.long q3_3), .second, .val (.long q3_4), .second, .val (.int v7), .val (.int v16), .val (.int v24)] [])) _
        refine XS.iload X49.here hx rfl (hb hby d3_102) rfl ?_
        show Steps p.tables e below (T49.setTop (mkF m 104 #[.val (.ref a3_0), .val (.int p3_1), .val (.int p3_2), .val (.long q3_3), .second, .val (.long q3_4), .second, .val (.int v7), .val (.int v16), .val (.int v24)] [(.int v16)])) _
        refine XS.ifYes X49.here hx rfl (pc0 := 104) (pc' := 123) rfl (hb hby d3_104) rfl ((if0 _ _).trans (teq (hv16.trans (if_neg h76_27))).1) (by decide) (by decide) ?_
        show Steps p.tables e below (T49.setTop (mkF m 123 #[.val (.ref a3_0), .val (.int p3_1), .val (.int p3_2), .val (.long q3_3), .second, .val (.long q3_4), .second, .val (.int v7), .val (.int v16), .val (.int v24)] [])) _
        refine XS.iload X49.here hx rfl (hb hby d3_123) rfl ?_
        show Steps p.tables e below (T49.setTop (mkF m 125 #[.val (.ref a3_0), .val (.int p3_1), .val (.int p3_2), .val (.long q3_3), .second, .val (.long q3_4), .second, .val (.int v7), .val (.int v16), .val (.int v24)] [(.int v16)])) _
        rw [show v16 = (0 : Int32) from hv16.trans (if_neg h76_27)]
        show Steps p.tables e below (T49.setTop (mkF m 125 #[.val (.ref a3_0), .val (.int p3_1), .val (.int p3_2), .val (.long q3_3), .second, .val (.long q3_4), .second, .val (.int v7), .val (.int (0 : Int32)), .val (.int v24)] [(.int (0 : Int32))])) _
        exact retN X49 hx (t := .boolean) Bd.returns (by simp) (hb hby d3_125) hr
      · have f58 := (((F_dropped_a3_0.other W43 (Or.inr (slot_ne (Or.inl (ow10 hw)) (Or.inl (ow15 hw)) (by decide) (t := .int) (t' := .int) (by decide) (by decide)))).other W46 (Or.inr (slot_ne (Or.inl (ow10 hw)) (Or.inl (ow27 hw)) (by decide) (t := .int) (t' := .int) (by decide) (by decide)))).other W49 (Or.inr (slot_ne (Or.inl (ow10 hw)) (Or.inl (ow17 hw)) (by decide) (t := .int) (t' := .long) (by decide) (by decide))))
        have f59 := ((F43.other W46 (Or.inr (slot_ne (Or.inl (ow15 hw)) (Or.inl (ow27 hw)) (by decide) (t := .int) (t' := .int) (by decide) (by decide)))).other W49 (Or.inr (slot_ne (Or.inl (ow15 hw)) (Or.inl (ow17 hw)) (by decide) (t := .int) (t' := .long) (by decide) (by decide))))
        have f60 := (f47.wr W49)
        have f61 := (F46.other W49 (Or.inr (slot_ne (Or.inl (ow27 hw)) (Or.inl (ow17 hw)) (by decide) (t := .int) (t' := .long) (by decide) (by decide))))
        have f62 := (((F_since_a3_0.other W43 (Or.inr (slot_ne (Or.inl (ow19 hw)) (Or.inl (ow15 hw)) (by decide) (t := .long) (t' := .int) (by decide) (by decide)))).other W46 (Or.inr (slot_ne (Or.inl (ow19 hw)) (Or.inl (ow27 hw)) (by decide) (t := .long) (t' := .int) (by decide) (by decide)))).other W49 (Or.inr (slot_ne (Or.inl (ow19 hw)) (Or.inl (ow17 hw)) (by decide) (t := .long) (t' := .long) (by decide) (by decide))))
        have f63 := (((F_checkAt_a3_0.other W43 (Or.inr (slot_ne (Or.inl (ow13 hw)) (Or.inl (ow15 hw)) (by decide) (t := .long) (t' := .int) (by decide) (by decide)))).other W46 (Or.inr (slot_ne (Or.inl (ow13 hw)) (Or.inl (ow27 hw)) (by decide) (t := .long) (t' := .int) (by decide) (by decide)))).other W49 (Or.inr (slot_ne (Or.inl (ow13 hw)) (Or.inl (ow17 hw)) (by decide) (t := .long) (t' := .long) (by decide) (by decide))))
        have f64 := (((F_droppedBeat_a3_0.other W43 (Or.inr (slot_ne (Or.inl (ow35 hw)) (Or.inl (ow15 hw)) (by decide) (t := .int) (t' := .int) (by decide) (by decide)))).other W46 (Or.inr (slot_ne (Or.inl (ow35 hw)) (Or.inl (ow27 hw)) (by decide) (t := .int) (t' := .int) (by decide) (by decide)))).other W49 (Or.inr (slot_ne (Or.inl (ow35 hw)) (Or.inl (ow17 hw)) (by decide) (t := .int) (t' := .long) (by decide) (by decide))))
        have f65 := (((F_far_a3_0.other W43 (Or.inr (slot_ne (Or.inl (ow64 hw)) (Or.inl (ow15 hw)) (by decide) (t := .boolean) (t' := .int) (by decide) (by decide)))).other W46 (Or.inr (slot_ne (Or.inl (ow64 hw)) (Or.inl (ow27 hw)) (by decide) (t := .boolean) (t' := .int) (by decide) (by decide)))).other W49 (Or.inr (slot_ne (Or.inl (ow64 hw)) (Or.inl (ow17 hw)) (by decide) (t := .boolean) (t' := .long) (by decide) (by decide))))
        show Q_rm3 Z a3_0 p3_1 p3_2 q3_3 q3_4 w_dropped_a3_0 w_droppedBeat_a3_0 w_node_a3_0 w_beat_a3_0 w_raisedAt_a3_0 w_since_a3_0 w_checkAt_a3_0 w_far_a3_0 h0 n0 _ T49.heap _
        rw [e49]
        subst hv24
        subst hv16
        subst hv7
        exact ⟨(congrArg (fun z => some (Value.int z)) (if_neg h76_27).symm), N49, K49, f58, (own_fld f59 (congrArg Value.int ((if_neg h76_27).trans (if_pos h81_42)))), f60, (own_fld f61 (congrArg Value.int ((if_neg h76_27).trans (if_pos h81_42)))), (own_fld F49 (congrArg Value.long ((if_neg h76_27).trans (if_pos h81_42)))), (own_fld f62 (congrArg Value.long (if_neg h76_27))), (own_fld f63 (congrArg Value.long (if_neg h76_27))), f64, f65⟩
    · obtain ⟨fs, hr, hrun, hended, hW, hsame⟩ := X25.leave (v := some (.int (0 : Int32))) (fun h => by rw [Bd.returns] at h; cases h)
      refine ⟨_, _, pre0 _ ?_, hrun, hended, _, _, rfl, ?_, ⟨_, rfl⟩, hW, hsame.mono (by decide) (by decide)⟩
      · refine G2 _ ?_
        refine G8 _ ?_
        refine G9 _ ?_
        refine G17 _ ?_
        refine G19 _ ?_
        refine G25 _ ?_
        refine G26 _ ?_
        refine G41 _ ?_
        show Steps p.tables e below (T25.setTop (mkF m 81 #[.val (.ref a3_0), .val (.int p3_1), .val (.int p3_2), .val (.long q3_3), .second, .val (.long q3_4), .second, .val (.int v7), .val (.int v16), .val (.int v24)] [(.int v24)])) _
        refine XS.ifYes X25.here hx rfl (pc0 := 81) (pc' := 102) rfl (hb hby d3_81) rfl ((if0 _ _).trans (teq (hv24.trans (if_neg h81_42))).1) (by decide) (by decide) ?_
        show Steps p.tables e below (T25.setTop (mkF m 102 #[.val (.ref a3_0), .val (.int p3_1), .val (.int p3_2), .val (.long q3_3), .second, .val (.long q3_4), .second, .val (.int v7), .val (.int v16), .val (.int v24)] [])) _
        refine XS.iload X25.here hx rfl (hb hby d3_102) rfl ?_
        show Steps p.tables e below (T25.setTop (mkF m 104 #[.val (.ref a3_0), .val (.int p3_1), .val (.int p3_2), .val (.long q3_3), .second, .val (.long q3_4), .second, .val (.int v7), .val (.int v16), .val (.int v24)] [(.int v16)])) _
        refine XS.ifYes X25.here hx rfl (pc0 := 104) (pc' := 123) rfl (hb hby d3_104) rfl ((if0 _ _).trans (teq (hv16.trans (if_neg h76_27))).1) (by decide) (by decide) ?_
        show Steps p.tables e below (T25.setTop (mkF m 123 #[.val (.ref a3_0), .val (.int p3_1), .val (.int p3_2), .val (.long q3_3), .second, .val (.long q3_4), .second, .val (.int v7), .val (.int v16), .val (.int v24)] [])) _
        refine XS.iload X25.here hx rfl (hb hby d3_123) rfl ?_
        show Steps p.tables e below (T25.setTop (mkF m 125 #[.val (.ref a3_0), .val (.int p3_1), .val (.int p3_2), .val (.long q3_3), .second, .val (.long q3_4), .second, .val (.int v7), .val (.int v16), .val (.int v24)] [(.int v16)])) _
        rw [show v16 = (0 : Int32) from hv16.trans (if_neg h76_27)]
        show Steps p.tables e below (T25.setTop (mkF m 125 #[.val (.ref a3_0), .val (.int p3_1), .val (.int p3_2), .val (.long q3_3), .second, .val (.long q3_4), .second, .val (.int v7), .val (.int (0 : Int32)), .val (.int v24)] [(.int (0 : Int32))])) _
        exact retN X25 hx (t := .boolean) Bd.returns (by simp) (hb hby d3_125) hr
      · show Q_rm3 Z a3_0 p3_1 p3_2 q3_3 q3_4 w_dropped_a3_0 w_droppedBeat_a3_0 w_node_a3_0 w_beat_a3_0 w_raisedAt_a3_0 w_since_a3_0 w_checkAt_a3_0 w_far_a3_0 h0 n0 _ T25.heap _
        rw [e25]
        subst hv24
        subst hv16
        subst hv7
        exact ⟨(congrArg (fun z => some (Value.int z)) (if_neg h76_27).symm), N25, (Keep.refl h0 [a3_0]), F_dropped_a3_0, (own_fld F_node_a3_0 (congrArg Value.int ((if_neg h76_27).trans (if_neg h81_42)))), E_a3_0, (own_fld F_beat_a3_0 (congrArg Value.int ((if_neg h76_27).trans (if_neg h81_42)))), (own_fld F_raisedAt_a3_0 (congrArg Value.long ((if_neg h76_27).trans (if_neg h81_42)))), (own_fld F_since_a3_0 (congrArg Value.long (if_neg h76_27))), (own_fld F_checkAt_a3_0 (congrArg Value.long (if_neg h76_27))), F_droppedBeat_a3_0, F_far_a3_0⟩
theorem d4_0 : decode prog_81_method_9_code 0 = .ok (.aload_n 0, 1) := by decide +kernel
theorem d4_1 : decode prog_81_method_9_code 1 = .ok (.getfield 21, 3) := by decide +kernel
theorem d4_4 : decode prog_81_method_9_code 4 = .ok (.iload_n 1, 1) := by decide +kernel
theorem d4_5 : decode prog_81_method_9_code 5 = .ok (.if_icmp .eq 20, 3) := by decide +kernel
theorem d4_8 : decode prog_81_method_9_code 8 = .ok (.lload_n 3, 1) := by decide +kernel
theorem d4_9 : decode prog_81_method_9_code 9 = .ok (.aload_n 0, 1) := by decide +kernel
theorem d4_10 : decode prog_81_method_9_code 10 = .ok (.getfield 24, 3) := by decide +kernel
theorem d4_13 : decode prog_81_method_9_code 13 = .ok (.lsub, 1) := by decide +kernel
theorem d4_14 : decode prog_81_method_9_code 14 = .ok (.ldc2_w 42, 3) := by decide +kernel
theorem d4_17 : decode prog_81_method_9_code 17 = .ok (.lcmp, 1) := by decide +kernel
theorem d4_18 : decode prog_81_method_9_code 18 = .ok (.ifCond .lt 7, 3) := by decide +kernel
theorem d4_21 : decode prog_81_method_9_code 21 = .ok (.iconst 1, 1) := by decide +kernel
theorem d4_22 : decode prog_81_method_9_code 22 = .ok (.goto 4, 3) := by decide +kernel
theorem d4_25 : decode prog_81_method_9_code 25 = .ok (.iconst 0, 1) := by decide +kernel
theorem d4_26 : decode prog_81_method_9_code 26 = .ok (.istore 5, 2) := by decide +kernel
theorem d4_28 : decode prog_81_method_9_code 28 = .ok (.iload 5, 2) := by decide +kernel
theorem d4_30 : decode prog_81_method_9_code 30 = .ok (.ifCond .eq 29, 3) := by decide +kernel
theorem d4_33 : decode prog_81_method_9_code 33 = .ok (.aload_n 0, 1) := by decide +kernel
theorem d4_34 : decode prog_81_method_9_code 34 = .ok (.aload_n 0, 1) := by decide +kernel
theorem d4_35 : decode prog_81_method_9_code 35 = .ok (.getfield 21, 3) := by decide +kernel
theorem d4_38 : decode prog_81_method_9_code 38 = .ok (.putfield 9, 3) := by decide +kernel
theorem d4_41 : decode prog_81_method_9_code 41 = .ok (.aload_n 0, 1) := by decide +kernel
theorem d4_42 : decode prog_81_method_9_code 42 = .ok (.aload_n 0, 1) := by decide +kernel
theorem d4_43 : decode prog_81_method_9_code 43 = .ok (.getfield 30, 3) := by decide +kernel
theorem d4_46 : decode prog_81_method_9_code 46 = .ok (.putfield 39, 3) := by decide +kernel
theorem d4_49 : decode prog_81_method_9_code 49 = .ok (.aload_n 0, 1) := by decide +kernel
theorem d4_50 : decode prog_81_method_9_code 50 = .ok (.iload_n 1, 1) := by decide +kernel
theorem d4_51 : decode prog_81_method_9_code 51 = .ok (.putfield 21, 3) := by decide +kernel
theorem d4_54 : decode prog_81_method_9_code 54 = .ok (.aload_n 0, 1) := by decide +kernel
theorem d4_55 : decode prog_81_method_9_code 55 = .ok (.lload_n 3, 1) := by decide +kernel
theorem d4_56 : decode prog_81_method_9_code 56 = .ok (.putfield 27, 3) := by decide +kernel
theorem d4_59 : decode prog_81_method_9_code 59 = .ok (.aload_n 0, 1) := by decide +kernel
theorem d4_60 : decode prog_81_method_9_code 60 = .ok (.getfield 21, 3) := by decide +kernel
theorem d4_63 : decode prog_81_method_9_code 63 = .ok (.iload_n 1, 1) := by decide +kernel
theorem d4_64 : decode prog_81_method_9_code 64 = .ok (.if_icmp .ne 13, 3) := by decide +kernel
theorem d4_67 : decode prog_81_method_9_code 67 = .ok (.aload_n 0, 1) := by decide +kernel
theorem d4_68 : decode prog_81_method_9_code 68 = .ok (.iload_n 2, 1) := by decide +kernel
theorem d4_69 : decode prog_81_method_9_code 69 = .ok (.putfield 30, 3) := by decide +kernel
theorem d4_72 : decode prog_81_method_9_code 72 = .ok (.aload_n 0, 1) := by decide +kernel
theorem d4_73 : decode prog_81_method_9_code 73 = .ok (.lload_n 3, 1) := by decide +kernel
theorem d4_74 : decode prog_81_method_9_code 74 = .ok (.putfield 24, 3) := by decide +kernel
theorem d4_77 : decode prog_81_method_9_code 77 = .ok (.lload_n 3, 1) := by decide +kernel
theorem d4_78 : decode prog_81_method_9_code 78 = .ok (.aload_n 0, 1) := by decide +kernel
theorem d4_79 : decode prog_81_method_9_code 79 = .ok (.getfield 17, 3) := by decide +kernel
theorem d4_82 : decode prog_81_method_9_code 82 = .ok (.lcmp, 1) := by decide +kernel
theorem d4_83 : decode prog_81_method_9_code 83 = .ok (.ifCond .lt 37, 3) := by decide +kernel
theorem d4_86 : decode prog_81_method_9_code 86 = .ok (.aload_n 0, 1) := by decide +kernel
theorem d4_87 : decode prog_81_method_9_code 87 = .ok (.ldc2_w 15, 3) := by decide +kernel
theorem d4_90 : decode prog_81_method_9_code 90 = .ok (.putfield 17, 3) := by decide +kernel
theorem d4_93 : decode prog_81_method_9_code 93 = .ok (.aload_n 0, 1) := by decide +kernel
theorem d4_94 : decode prog_81_method_9_code 94 = .ok (.dup, 1) := by decide +kernel
theorem d4_95 : decode prog_81_method_9_code 95 = .ok (.getfield 33, 3) := by decide +kernel
theorem d4_98 : decode prog_81_method_9_code 98 = .ok (.lload_n 3, 1) := by decide +kernel
theorem d4_99 : decode prog_81_method_9_code 99 = .ok (.aload_n 0, 1) := by decide +kernel
theorem d4_100 : decode prog_81_method_9_code 100 = .ok (.getfield 24, 3) := by decide +kernel
theorem d4_103 : decode prog_81_method_9_code 103 = .ok (.lsub, 1) := by decide +kernel
theorem d4_104 : decode prog_81_method_9_code 104 = .ok (.ldc2_w 44, 3) := by decide +kernel
theorem d4_107 : decode prog_81_method_9_code 107 = .ok (.lcmp, 1) := by decide +kernel
theorem d4_108 : decode prog_81_method_9_code 108 = .ok (.ifCond .lt 7, 3) := by decide +kernel
theorem d4_111 : decode prog_81_method_9_code 111 = .ok (.iconst 1, 1) := by decide +kernel
theorem d4_112 : decode prog_81_method_9_code 112 = .ok (.goto 4, 3) := by decide +kernel
theorem d4_115 : decode prog_81_method_9_code 115 = .ok (.iconst 0, 1) := by decide +kernel
theorem d4_116 : decode prog_81_method_9_code 116 = .ok (.ior, 1) := by decide +kernel
theorem d4_117 : decode prog_81_method_9_code 117 = .ok (.putfield 33, 3) := by decide +kernel
theorem d4_120 : decode prog_81_method_9_code 120 = .ok (.iload 5, 2) := by decide +kernel
theorem d4_122 : decode prog_81_method_9_code 122 = .ok (.ireturn, 1) := by decide +kernel
theorem pn_4 : plainName "com/example/halozat/halozat/node/Leader" = true := by first | (simp [plainName, overriddenIn]; done) | decide +kernel
theorem ef_rm4 (m : MethodId) (y0 : Addr) (y1 : Int32) (y2 : Int32) (y3 : Int64) : entryFrame m #[(.ref y0), (.int y1), (.int y2), (.long y3)] 6 = mkF m 0 #[.val (.ref y0), .val (.int y1), .val (.int y2), .val (.long y3), .second, .unset] [] := by first | (simp [entryFrame, mkF, argsToLocals, Value.category]; done) | rfl
def Q_rm4 (Z : State) (a4_0 : Addr) (p4_1 : Int32) (p4_2 : Int32) (q4_3 : Int64) (w_node_a4_0 : Int32) (w_raisedAt_a4_0 : Int64) (w_dropped_a4_0 : Int32) (w_beat_a4_0 : Int32) (w_droppedBeat_a4_0 : Int32) (w_since_a4_0 : Int64) (w_checkAt_a4_0 : Int64) (w_far_a4_0 : Int32) (h0 : Heap) (n0 : Nat) (v : Option Value) (h : Heap) (L : List Loc) : Prop := v = some (.int (if (¬ (w_node_a4_0 = p4_1) ∧ ¬ ((q4_3 - w_raisedAt_a4_0) < (5000 : Int64))) then (1 : Int32) else (0 : Int32))) ∧ Fr n0 L ∧ Keep h0 h [a4_0] ∧ Fld Z h a4_0 "com/example/halozat/halozat/node/Leader" "node" "I" (.int (if (¬ (w_node_a4_0 = p4_1) ∧ ¬ ((q4_3 - w_raisedAt_a4_0) < (5000 : Int64))) then p4_1 else w_node_a4_0)) ∧ Exa Z h a4_0 "com/example/halozat/halozat/node/Leader" ∧ Fld Z h a4_0 "com/example/halozat/halozat/node/Leader" "dropped" "I" (.int (if (¬ (w_node_a4_0 = p4_1) ∧ ¬ ((q4_3 - w_raisedAt_a4_0) < (5000 : Int64))) then w_node_a4_0 else w_dropped_a4_0)) ∧ Fld Z h a4_0 "com/example/halozat/halozat/node/Leader" "beat" "I" (.int (if (¬ (w_node_a4_0 = p4_1) ∧ ¬ ((q4_3 - w_raisedAt_a4_0) < (5000 : Int64))) then p4_2 else (if w_node_a4_0 = p4_1 then p4_2 else w_beat_a4_0))) ∧ Fld Z h a4_0 "com/example/halozat/halozat/node/Leader" "droppedBeat" "I" (.int (if (¬ (w_node_a4_0 = p4_1) ∧ ¬ ((q4_3 - w_raisedAt_a4_0) < (5000 : Int64))) then w_beat_a4_0 else w_droppedBeat_a4_0)) ∧ Fld Z h a4_0 "com/example/halozat/halozat/node/Leader" "since" "J" (.long (if (¬ (w_node_a4_0 = p4_1) ∧ ¬ ((q4_3 - w_raisedAt_a4_0) < (5000 : Int64))) then q4_3 else w_since_a4_0)) ∧ Fld Z h a4_0 "com/example/halozat/halozat/node/Leader" "raisedAt" "J" (.long (if (¬ (w_node_a4_0 = p4_1) ∧ ¬ ((q4_3 - w_raisedAt_a4_0) < (5000 : Int64))) then q4_3 else (if w_node_a4_0 = p4_1 then q4_3 else w_raisedAt_a4_0))) ∧ Fld Z h a4_0 "com/example/halozat/halozat/node/Leader" "checkAt" "J" (.long (if q4_3 < w_checkAt_a4_0 then w_checkAt_a4_0 else (9223372036854775807 : Int64))) ∧ Fld Z h a4_0 "com/example/halozat/halozat/node/Leader" "far" "Z" (.int (if (¬ (w_node_a4_0 = p4_1) ∧ ¬ ((q4_3 - w_raisedAt_a4_0) < (5000 : Int64))) then (if q4_3 < w_checkAt_a4_0 then w_far_a4_0 else (nar .boolean (w_far_a4_0 ||| (if ¬ ((q4_3 - q4_3) < (2500 : Int64)) then (1 : Int32) else (0 : Int32))))) else (if w_node_a4_0 = p4_1 then (if q4_3 < w_checkAt_a4_0 then w_far_a4_0 else (nar .boolean (w_far_a4_0 ||| (if ¬ ((q4_3 - q4_3) < (2500 : Int64)) then (1 : Int32) else (0 : Int32))))) else (if q4_3 < w_checkAt_a4_0 then w_far_a4_0 else (nar .boolean (w_far_a4_0 ||| (if ¬ ((q4_3 - w_raisedAt_a4_0) < (2500 : Int64)) then (1 : Int32) else (0 : Int32))))))))
set_option maxRecDepth 65536 in
set_option maxHeartbeats 40000000 in
theorem rm4 (l : Launch) (Z : State) (a0 : Array Value) (hw : ∀ d ∈ tables_1, d.before a0 Z = true) (ws : List Jvm.Cond) (a4_0 : Addr) (p4_1 : Int32) (p4_2 : Int32) (q4_3 : Int64) (w_node_a4_0 : Int32) (w_raisedAt_a4_0 : Int64) (w_dropped_a4_0 : Int32) (w_beat_a4_0 : Int32) (w_droppedBeat_a4_0 : Int32) (w_since_a4_0 : Int64) (w_checkAt_a4_0 : Int64) (w_far_a4_0 : Int32) (h0 : Heap) (n0 : Nat) (Z0 : n0 ≤ h0.size) (F_node_a4_0 : Fld Z h0 a4_0 "com/example/halozat/halozat/node/Leader" "node" "I" (.int w_node_a4_0)) (F_raisedAt_a4_0 : Fld Z h0 a4_0 "com/example/halozat/halozat/node/Leader" "raisedAt" "J" (.long w_raisedAt_a4_0)) (E_a4_0 : Exa Z h0 a4_0 "com/example/halozat/halozat/node/Leader") (F_dropped_a4_0 : Fld Z h0 a4_0 "com/example/halozat/halozat/node/Leader" "dropped" "I" (.int w_dropped_a4_0)) (g_a4_0 : n0 ≤ a4_0) (F_beat_a4_0 : Fld Z h0 a4_0 "com/example/halozat/halozat/node/Leader" "beat" "I" (.int w_beat_a4_0)) (F_droppedBeat_a4_0 : Fld Z h0 a4_0 "com/example/halozat/halozat/node/Leader" "droppedBeat" "I" (.int w_droppedBeat_a4_0)) (F_since_a4_0 : Fld Z h0 a4_0 "com/example/halozat/halozat/node/Leader" "since" "J" (.long w_since_a4_0)) (F_checkAt_a4_0 : Fld Z h0 a4_0 "com/example/halozat/halozat/node/Leader" "checkAt" "J" (.long w_checkAt_a4_0)) (F_far_a4_0 : Fld Z h0 a4_0 "com/example/halozat/halozat/node/Leader" "far" "Z" (.int w_far_a4_0)) :
    MetFree l (⟨"com/example/halozat/halozat/node/Leader", "heartbeat", "(IIJ)Z"⟩ : MethodName) (head1 (Jvm.Cond.code (⟨"com/example/halozat/halozat/node/Leader", "heartbeat", "(IIJ)Z"⟩ : MethodName) prog_81_method_9_code 6 (some .boolean) :: ws) ({ frames := 0, cells := 0, slots := 0, locals := 0 } : Room)) (fun a U => a = #[(.ref a4_0), (.int p4_1), (.int p4_2), (.long q4_3)] ∧ Z.Warmed39 U.vm ∧ U.heap = h0) (fun _ _ _ _ _ => True) (fun _ U o U' => ∃ v L, o = .returned v ∧ Q_rm4 Z a4_0 p4_1 p4_2 q4_3 w_node_a4_0 w_raisedAt_a4_0 w_dropped_a4_0 w_beat_a4_0 w_droppedBeat_a4_0 w_since_a4_0 w_checkAt_a4_0 w_far_a4_0 h0 n0 v U'.heap L ∧ FrameEnd U o U' L ({ frames := 0, cells := 0, slots := 0, locals := 0 } : Room).cells ({ frames := 0, cells := 0, slots := 0, locals := 0 } : Room).slots) := by
  refine MetFree.of_bodySF (plainFor_of_name pn_4) hisR ?_
  intro p e s m args below meth c s₁ Bd hml0 hP hK
  obtain ⟨rfl, hZ, hh⟩ := hP
  have hx := Bd.exec
  have hby := Bd.bytes
  have hml : c.maxLocals = 6 := hml0
  have hown : s.vm.findClass "com/example/halozat/halozat/node/Leader" = some m.cls := findClass_of_methodNamed Bd.named
  have hnm := (name_of_methodNamed Bd.named Bd.method).1
  have X0 : Stand p l e ({ frames := 0, cells := 0, slots := 0, locals := 0 } : Room) s m #[(.ref a4_0), (.int p4_1), (.int p4_2), (.long q4_3)] below meth c s₁ [] 0 0 := Stand.of_body Bd
  have e0 : s₁.heap = h0 := by rw [← hh, Bd.state]; rfl
  have N0 := Fr.nil n0
  have pre0 : ∀ t, Steps p.tables e below (s₁.setTop (mkF m 0 #[.val (.ref a4_0), .val (.int p4_1), .val (.int p4_2), .val (.long q4_3), .second, .unset] [])) t → Steps p.tables e below (s₁.setTop (entryFrame m #[(.ref a4_0), (.int p4_1), (.int p4_2), (.long q4_3)] 6)) t := fun t k => castTop (ef_rm4 m a4_0 p4_1 p4_2 q4_3) k
  obtain ⟨T1, X1, e1, st1⟩ := getF X0 hx hZ hown (host := "") (Or.inl (ow14 hw)) Via.refl e0 F_node_a4_0 (g := (mkF m 1 #[.val (.ref a4_0), .val (.int p4_1), .val (.int p4_2), .val (.long q4_3), .second, .unset] [(.ref a4_0)])) rfl rfl (hb hby d4_1)
  have G2 : ∀ t, Steps p.tables e below (T1.setTop (mkF m 5 #[.val (.ref a4_0), .val (.int p4_1), .val (.int p4_2), .val (.long q4_3), .second, .unset] [(.int p4_1), (.int w_node_a4_0)])) t → Steps p.tables e below (s₁.setTop (mkF m 0 #[.val (.ref a4_0), .val (.int p4_1), .val (.int p4_2), .val (.long q4_3), .second, .unset] [])) t := by
    intro t k
    show Steps p.tables e below (s₁.setTop (mkF m 0 #[.val (.ref a4_0), .val (.int p4_1), .val (.int p4_2), .val (.long q4_3), .second, .unset] [])) _
    refine XS.aloadN X0.here hx rfl (hb hby d4_0) rfl rfl ?_
    show Steps p.tables e below (s₁.setTop (mkF m 1 #[.val (.ref a4_0), .val (.int p4_1), .val (.int p4_2), .val (.long q4_3), .second, .unset] [(.ref a4_0)])) _
    refine st1 _ ?_
    show Steps p.tables e below (T1.setTop (mkF m 4 #[.val (.ref a4_0), .val (.int p4_1), .val (.int p4_2), .val (.long q4_3), .second, .unset] [(.int w_node_a4_0)])) _
    refine XS.iloadN X1.here hx rfl (hb hby d4_4) rfl ?_
    exact k
  obtain ⟨v7, hv7⟩ : ∃ z : Int32, z = (if (¬ (w_node_a4_0 = p4_1) ∧ ¬ ((q4_3 - w_raisedAt_a4_0) < (5000 : Int64))) then (1 : Int32) else (0 : Int32)) := ⟨_, rfl⟩
  obtain ⟨T8, Lo8, X8, N8, e8, G8⟩ := own_join X1 N0 (h := h0) (mkF m 5 #[.val (.ref a4_0), .val (.int p4_1), .val (.int p4_2), .val (.long q4_3), .second, .unset] [(.int p4_1), (.int w_node_a4_0)]) (mkF m 26 #[.val (.ref a4_0), .val (.int p4_1), .val (.int p4_2), .val (.long q4_3), .second, .unset] [(.int v7)]) (by
    by_cases h5_3 : w_node_a4_0 = p4_1
    · refine ⟨T1, _, X1, N0, e1, fun t k => ?_⟩
      rw [show v7 = (0 : Int32) from hv7.trans (if_neg (fun q => q.1 h5_3))] at k
      show Steps p.tables e below (T1.setTop (mkF m 5 #[.val (.ref a4_0), .val (.int p4_1), .val (.int p4_2), .val (.long q4_3), .second, .unset] [(.int p4_1), (.int w_node_a4_0)])) _
      refine XS.icmpYes X1.here hx rfl (pc0 := 5) (pc' := 25) rfl (hb hby d4_5) rfl (teq h5_3).1 (by decide) (by decide) ?_
      show Steps p.tables e below (T1.setTop (mkF m 25 #[.val (.ref a4_0), .val (.int p4_1), .val (.int p4_2), .val (.long q4_3), .second, .unset] [])) _
      refine XS.iconst X1.here hx rfl (hb hby d4_25) ?_
      exact k
    · obtain ⟨T4, X4, e4, st4⟩ := getF X1 hx hZ hown (host := "") (Or.inl (ow16 hw)) Via.refl e1 F_raisedAt_a4_0 (g := (mkF m 10 #[.val (.ref a4_0), .val (.int p4_1), .val (.int p4_2), .val (.long q4_3), .second, .unset] [(.ref a4_0), (.long q4_3)])) rfl rfl (hb hby d4_10)
      have G5 : ∀ t, Steps p.tables e below (T4.setTop (mkF m 18 #[.val (.ref a4_0), .val (.int p4_1), .val (.int p4_2), .val (.long q4_3), .second, .unset] [(.int (lcmpW (q4_3 - w_raisedAt_a4_0) (5000 : Int64)))])) t → Steps p.tables e below (T1.setTop (mkF m 5 #[.val (.ref a4_0), .val (.int p4_1), .val (.int p4_2), .val (.long q4_3), .second, .unset] [(.int p4_1), (.int w_node_a4_0)])) t := by
        intro t k
        show Steps p.tables e below (T1.setTop (mkF m 5 #[.val (.ref a4_0), .val (.int p4_1), .val (.int p4_2), .val (.long q4_3), .second, .unset] [(.int p4_1), (.int w_node_a4_0)])) _
        refine XS.icmpNo X1.here hx rfl (hb hby d4_5) rfl (feq h5_3).1 ?_
        show Steps p.tables e below (T1.setTop (mkF m 8 #[.val (.ref a4_0), .val (.int p4_1), .val (.int p4_2), .val (.long q4_3), .second, .unset] [])) _
        refine XS.lloadN X1.here hx rfl (hb hby d4_8) rfl ?_
        show Steps p.tables e below (T1.setTop (mkF m 9 #[.val (.ref a4_0), .val (.int p4_1), .val (.int p4_2), .val (.long q4_3), .second, .unset] [(.long q4_3)])) _
        refine XS.aloadN X1.here hx rfl (hb hby d4_9) rfl rfl ?_
        show Steps p.tables e below (T1.setTop (mkF m 10 #[.val (.ref a4_0), .val (.int p4_1), .val (.int p4_2), .val (.long q4_3), .second, .unset] [(.ref a4_0), (.long q4_3)])) _
        refine st4 _ ?_
        show Steps p.tables e below (T4.setTop (mkF m 13 #[.val (.ref a4_0), .val (.int p4_1), .val (.int p4_2), .val (.long q4_3), .second, .unset] [(.long w_raisedAt_a4_0), (.long q4_3)])) _
        refine XS.lsub X4.here hx rfl (hb hby d4_13) rfl ?_
        show Steps p.tables e below (T4.setTop (mkF m 14 #[.val (.ref a4_0), .val (.int p4_1), .val (.int p4_2), .val (.long q4_3), .second, .unset] [(.long (q4_3 - w_raisedAt_a4_0))])) _
        refine X4.ldc2Long hx hown (mvT hZ (ow25 hw)) (g := (mkF m 14 #[.val (.ref a4_0), .val (.int p4_1), .val (.int p4_2), .val (.long q4_3), .second, .unset] [(.long (q4_3 - w_raisedAt_a4_0))])) rfl (hb hby d4_14) _ ?_
        show Steps p.tables e below (T4.setTop (mkF m 17 #[.val (.ref a4_0), .val (.int p4_1), .val (.int p4_2), .val (.long q4_3), .second, .unset] [(.long (5000 : Int64)), (.long (q4_3 - w_raisedAt_a4_0))])) _
        refine XS.lcmp X4.here hx rfl (hb hby d4_17) rfl ?_
        exact k
      by_cases h18_6 : (q4_3 - w_raisedAt_a4_0) < (5000 : Int64)
      · refine ⟨T4, _, X4, N0, e4, fun t k => ?_⟩
        rw [show v7 = (0 : Int32) from hv7.trans (if_neg (fun q => (fun q => q h18_6) q.2))] at k
        refine G5 _ ?_
        show Steps p.tables e below (T4.setTop (mkF m 18 #[.val (.ref a4_0), .val (.int p4_1), .val (.int p4_2), .val (.long q4_3), .second, .unset] [(.int (lcmpW (q4_3 - w_raisedAt_a4_0) (5000 : Int64)))])) _
        refine XS.ifYes X4.here hx rfl (pc0 := 18) (pc' := 25) rfl (hb hby d4_18) rfl ((if0 _ _).trans (tlt ((lw_lt _ _).mpr h18_6)).1) (by decide) (by decide) ?_
        show Steps p.tables e below (T4.setTop (mkF m 25 #[.val (.ref a4_0), .val (.int p4_1), .val (.int p4_2), .val (.long q4_3), .second, .unset] [])) _
        refine XS.iconst X4.here hx rfl (hb hby d4_25) ?_
        exact k
      · refine ⟨T4, _, X4, N0, e4, fun t k => ?_⟩
        rw [show v7 = (1 : Int32) from hv7.trans (if_pos ⟨h5_3, h18_6⟩)] at k
        refine G5 _ ?_
        show Steps p.tables e below (T4.setTop (mkF m 18 #[.val (.ref a4_0), .val (.int p4_1), .val (.int p4_2), .val (.long q4_3), .second, .unset] [(.int (lcmpW (q4_3 - w_raisedAt_a4_0) (5000 : Int64)))])) _
        refine XS.ifNo X4.here hx rfl (hb hby d4_18) rfl ((if0 _ _).trans (flt (fun q => h18_6 ((lw_lt _ _).mp q))).1) ?_
        show Steps p.tables e below (T4.setTop (mkF m 21 #[.val (.ref a4_0), .val (.int p4_1), .val (.int p4_2), .val (.long q4_3), .second, .unset] [])) _
        refine XS.iconst X4.here hx rfl (hb hby d4_21) ?_
        show Steps p.tables e below (T4.setTop (mkF m 22 #[.val (.ref a4_0), .val (.int p4_1), .val (.int p4_2), .val (.long q4_3), .second, .unset] [(.int (1 : Int32))])) _
        refine XS.goto X4.here hx rfl (pc0 := 22) (pc' := 26) rfl (hb hby d4_22) (by decide) (by decide) ?_
        exact k)
  have G9 : ∀ t, Steps p.tables e below (T8.setTop (mkF m 30 #[.val (.ref a4_0), .val (.int p4_1), .val (.int p4_2), .val (.long q4_3), .second, .val (.int v7)] [(.int v7)])) t → Steps p.tables e below (T8.setTop (mkF m 26 #[.val (.ref a4_0), .val (.int p4_1), .val (.int p4_2), .val (.long q4_3), .second, .unset] [(.int v7)])) t := by
    intro t k
    show Steps p.tables e below (T8.setTop (mkF m 26 #[.val (.ref a4_0), .val (.int p4_1), .val (.int p4_2), .val (.long q4_3), .second, .unset] [(.int v7)])) _
    refine XS.istore X8.here hx rfl (hb hby d4_26) rfl (l' := #[.val (.ref a4_0), .val (.int p4_1), .val (.int p4_2), .val (.long q4_3), .second, .val (.int v7)]) rfl ?_
    show Steps p.tables e below (T8.setTop (mkF m 28 #[.val (.ref a4_0), .val (.int p4_1), .val (.int p4_2), .val (.long q4_3), .second, .val (.int v7)] [])) _
    refine XS.iload X8.here hx rfl (hb hby d4_28) rfl ?_
    exact k
  by_cases h30_10 : (¬ (w_node_a4_0 = p4_1) ∧ ¬ ((q4_3 - w_raisedAt_a4_0) < (5000 : Int64)))
  · obtain ⟨T11, X11, e11, st11⟩ := getF X8 hx hZ hown (host := "") (Or.inl (ow14 hw)) Via.refl e8 F_node_a4_0 (g := (mkF m 35 #[.val (.ref a4_0), .val (.int p4_1), .val (.int p4_2), .val (.long q4_3), .second, .val (.int v7)] [(.ref a4_0), (.ref a4_0)])) rfl rfl (hb hby d4_35)
    obtain ⟨T12, h12, X12, e12, W12, st12⟩ := putF X11 hx hZ hown (host := "") (Or.inl (ow9 hw)) Via.refl e11 F_dropped_a4_0 E_a4_0 (Or.inl (ow10 hw)) (ow1 hw) (ty := .int) (by decide) rfl rfl (g := (mkF m 38 #[.val (.ref a4_0), .val (.int p4_1), .val (.int p4_2), .val (.long q4_3), .second, .val (.int v7)] [(.int w_node_a4_0), (.ref a4_0)])) rfl rfl (hb hby d4_38)
    have F12 := F_dropped_a4_0.same W12
    have K12 : Keep h0 h12 [a4_0] := (Keep.refl h0 [a4_0]).wr W12 (Or.inl (List.mem_of_getElem? (i := 0) rfl))
    have Z12 : n0 ≤ h12.size := Nat.le_trans Z0 K12.1
    have N12 := Fr.snoc X12 N8 g_a4_0
    have f13 := (F_beat_a4_0.other W12 (Or.inr (slot_ne (Or.inl (ow27 hw)) (Or.inl (ow10 hw)) (by decide) (t := .int) (t' := .int) (by decide) (by decide))))
    obtain ⟨T14, X14, e14, st14⟩ := getF X12 hx hZ hown (host := "") (Or.inl (ow26 hw)) Via.refl e12 f13 (g := (mkF m 43 #[.val (.ref a4_0), .val (.int p4_1), .val (.int p4_2), .val (.long q4_3), .second, .val (.int v7)] [(.ref a4_0), (.ref a4_0)])) rfl rfl (hb hby d4_43)
    have f15 := (E_a4_0.wr W12)
    have f16 := (F_droppedBeat_a4_0.other W12 (Or.inr (slot_ne (Or.inl (ow35 hw)) (Or.inl (ow10 hw)) (by decide) (t := .int) (t' := .int) (by decide) (by decide))))
    obtain ⟨T17, h17, X17, e17, W17, st17⟩ := putF X14 hx hZ hown (host := "") (Or.inl (ow34 hw)) Via.refl e14 f16 f15 (Or.inl (ow35 hw)) (ow1 hw) (ty := .int) (by decide) rfl rfl (g := (mkF m 46 #[.val (.ref a4_0), .val (.int p4_1), .val (.int p4_2), .val (.long q4_3), .second, .val (.int v7)] [(.int w_beat_a4_0), (.ref a4_0)])) rfl rfl (hb hby d4_46)
    have F17 := f16.same W17
    have K17 : Keep h0 h17 [a4_0] := K12.wr W17 (Or.inl (List.mem_of_getElem? (i := 0) rfl))
    have Z17 : n0 ≤ h17.size := Nat.le_trans Z0 K17.1
    have N17 := Fr.snoc X17 N12 g_a4_0
    have f18 := (f15.wr W17)
    have f19 := ((F_node_a4_0.other W12 (Or.inr (slot_ne (Or.inl (ow15 hw)) (Or.inl (ow10 hw)) (by decide) (t := .int) (t' := .int) (by decide) (by decide)))).other W17 (Or.inr (slot_ne (Or.inl (ow15 hw)) (Or.inl (ow35 hw)) (by decide) (t := .int) (t' := .int) (by decide) (by decide))))
    obtain ⟨T20, h20, X20, e20, W20, st20⟩ := putF X17 hx hZ hown (host := "") (Or.inl (ow14 hw)) Via.refl e17 f19 f18 (Or.inl (ow15 hw)) (ow1 hw) (ty := .int) (by decide) rfl rfl (g := (mkF m 51 #[.val (.ref a4_0), .val (.int p4_1), .val (.int p4_2), .val (.long q4_3), .second, .val (.int v7)] [(.int p4_1), (.ref a4_0)])) rfl rfl (hb hby d4_51)
    have F20 := f19.same W20
    have K20 : Keep h0 h20 [a4_0] := K17.wr W20 (Or.inl (List.mem_of_getElem? (i := 0) rfl))
    have Z20 : n0 ≤ h20.size := Nat.le_trans Z0 K20.1
    have N20 := Fr.snoc X20 N17 g_a4_0
    have f21 := (f18.wr W20)
    have f22 := (((F_since_a4_0.other W12 (Or.inr (slot_ne (Or.inl (ow19 hw)) (Or.inl (ow10 hw)) (by decide) (t := .long) (t' := .int) (by decide) (by decide)))).other W17 (Or.inr (slot_ne (Or.inl (ow19 hw)) (Or.inl (ow35 hw)) (by decide) (t := .long) (t' := .int) (by decide) (by decide)))).other W20 (Or.inr (slot_ne (Or.inl (ow19 hw)) (Or.inl (ow15 hw)) (by decide) (t := .long) (t' := .int) (by decide) (by decide))))
    obtain ⟨T23, h23, X23, e23, W23, st23⟩ := putF X20 hx hZ hown (host := "") (Or.inl (ow18 hw)) Via.refl e20 f22 f21 (Or.inl (ow19 hw)) (ow1 hw) (ty := .long) (by decide) rfl rfl (g := (mkF m 56 #[.val (.ref a4_0), .val (.int p4_1), .val (.int p4_2), .val (.long q4_3), .second, .val (.int v7)] [(.long q4_3), (.ref a4_0)])) rfl rfl (hb hby d4_56)
    have F23 := f22.same W23
    have K23 : Keep h0 h23 [a4_0] := K20.wr W23 (Or.inl (List.mem_of_getElem? (i := 0) rfl))
    have Z23 : n0 ≤ h23.size := Nat.le_trans Z0 K23.1
    have N23 := Fr.snoc X23 N20 g_a4_0
    have f24 := (F20.other W23 (Or.inr (slot_ne (Or.inl (ow15 hw)) (Or.inl (ow19 hw)) (by decide) (t := .int) (t' := .long) (by decide) (by decide))))
    obtain ⟨T25, X25, e25, st25⟩ := getF X23 hx hZ hown (host := "") (Or.inl (ow14 hw)) Via.refl e23 f24 (g := (mkF m 60 #[.val (.ref a4_0), .val (.int p4_1), .val (.int p4_2), .val (.long q4_3), .second, .val (.int v7)] [(.ref a4_0)])) rfl rfl (hb hby d4_60)
    have f26 := (f21.wr W23)
    have f27 := (((f13.other W17 (Or.inr (slot_ne (Or.inl (ow27 hw)) (Or.inl (ow35 hw)) (by decide) (t := .int) (t' := .int) (by decide) (by decide)))).other W20 (Or.inr (slot_ne (Or.inl (ow27 hw)) (Or.inl (ow15 hw)) (by decide) (t := .int) (t' := .int) (by decide) (by decide)))).other W23 (Or.inr (slot_ne (Or.inl (ow27 hw)) (Or.inl (ow19 hw)) (by decide) (t := .int) (t' := .long) (by decide) (by decide))))
    obtain ⟨T28, h28, X28, e28, W28, st28⟩ := putF X25 hx hZ hown (host := "") (Or.inl (ow26 hw)) Via.refl e25 f27 f26 (Or.inl (ow27 hw)) (ow1 hw) (ty := .int) (by decide) rfl rfl (g := (mkF m 69 #[.val (.ref a4_0), .val (.int p4_1), .val (.int p4_2), .val (.long q4_3), .second, .val (.int v7)] [(.int p4_2), (.ref a4_0)])) rfl rfl (hb hby d4_69)
    have F28 := f27.same W28
    have K28 : Keep h0 h28 [a4_0] := K23.wr W28 (Or.inl (List.mem_of_getElem? (i := 0) rfl))
    have Z28 : n0 ≤ h28.size := Nat.le_trans Z0 K28.1
    have N28 := Fr.snoc X28 N23 g_a4_0
    have f29 := (f26.wr W28)
    have f30 := (((((F_raisedAt_a4_0.other W12 (Or.inr (slot_ne (Or.inl (ow17 hw)) (Or.inl (ow10 hw)) (by decide) (t := .long) (t' := .int) (by decide) (by decide)))).other W17 (Or.inr (slot_ne (Or.inl (ow17 hw)) (Or.inl (ow35 hw)) (by decide) (t := .long) (t' := .int) (by decide) (by decide)))).other W20 (Or.inr (slot_ne (Or.inl (ow17 hw)) (Or.inl (ow15 hw)) (by decide) (t := .long) (t' := .int) (by decide) (by decide)))).other W23 (Or.inr (slot_ne (Or.inl (ow17 hw)) (Or.inl (ow19 hw)) (by decide) (t := .long) (t' := .long) (by decide) (by decide)))).other W28 (Or.inr (slot_ne (Or.inl (ow17 hw)) (Or.inl (ow27 hw)) (by decide) (t := .long) (t' := .int) (by decide) (by decide))))
    obtain ⟨T31, h31, X31, e31, W31, st31⟩ := putF X28 hx hZ hown (host := "") (Or.inl (ow16 hw)) Via.refl e28 f30 f29 (Or.inl (ow17 hw)) (ow1 hw) (ty := .long) (by decide) rfl rfl (g := (mkF m 74 #[.val (.ref a4_0), .val (.int p4_1), .val (.int p4_2), .val (.long q4_3), .second, .val (.int v7)] [(.long q4_3), (.ref a4_0)])) rfl rfl (hb hby d4_74)
    have F31 := f30.same W31
    have K31 : Keep h0 h31 [a4_0] := K28.wr W31 (Or.inl (List.mem_of_getElem? (i := 0) rfl))
    have Z31 : n0 ≤ h31.size := Nat.le_trans Z0 K31.1
    have N31 := Fr.snoc X31 N28 g_a4_0
    have f32 := ((((((F_checkAt_a4_0.other W12 (Or.inr (slot_ne (Or.inl (ow13 hw)) (Or.inl (ow10 hw)) (by decide) (t := .long) (t' := .int) (by decide) (by decide)))).other W17 (Or.inr (slot_ne (Or.inl (ow13 hw)) (Or.inl (ow35 hw)) (by decide) (t := .long) (t' := .int) (by decide) (by decide)))).other W20 (Or.inr (slot_ne (Or.inl (ow13 hw)) (Or.inl (ow15 hw)) (by decide) (t := .long) (t' := .int) (by decide) (by decide)))).other W23 (Or.inr (slot_ne (Or.inl (ow13 hw)) (Or.inl (ow19 hw)) (by decide) (t := .long) (t' := .long) (by decide) (by decide)))).other W28 (Or.inr (slot_ne (Or.inl (ow13 hw)) (Or.inl (ow27 hw)) (by decide) (t := .long) (t' := .int) (by decide) (by decide)))).other W31 (Or.inr (slot_ne (Or.inl (ow13 hw)) (Or.inl (ow17 hw)) (by decide) (t := .long) (t' := .long) (by decide) (by decide))))
    obtain ⟨T33, X33, e33, st33⟩ := getF X31 hx hZ hown (host := "") (Or.inl (ow12 hw)) Via.refl e31 f32 (g := (mkF m 79 #[.val (.ref a4_0), .val (.int p4_1), .val (.int p4_2), .val (.long q4_3), .second, .val (.int v7)] [(.ref a4_0), (.long q4_3)])) rfl rfl (hb hby d4_79)
    have G34 : ∀ t, Steps p.tables e below (T33.setTop (mkF m 83 #[.val (.ref a4_0), .val (.int p4_1), .val (.int p4_2), .val (.long q4_3), .second, .val (.int v7)] [(.int (lcmpW q4_3 w_checkAt_a4_0))])) t → Steps p.tables e below (T8.setTop (mkF m 30 #[.val (.ref a4_0), .val (.int p4_1), .val (.int p4_2), .val (.long q4_3), .second, .val (.int v7)] [(.int v7)])) t := by
      intro t k
      show Steps p.tables e below (T8.setTop (mkF m 30 #[.val (.ref a4_0), .val (.int p4_1), .val (.int p4_2), .val (.long q4_3), .second, .val (.int v7)] [(.int v7)])) _
      refine XS.ifNo X8.here hx rfl (hb hby d4_30) rfl ((if0 _ _).trans (feq (own_b1 (hv7.trans (if_pos h30_10)))).1) ?_
      show Steps p.tables e below (T8.setTop (mkF m 33 #[.val (.ref a4_0), .val (.int p4_1), .val (.int p4_2), .val (.long q4_3), .second, .val (.int v7)] [])) _
      refine XS.aloadN X8.here hx rfl (hb hby d4_33) rfl rfl ?_
      show Steps p.tables e below (T8.setTop (mkF m 34 #[.val (.ref a4_0), .val (.int p4_1), .val (.int p4_2), .val (.long q4_3), .second, .val (.int v7)] [(.ref a4_0)])) _
      refine XS.aloadN X8.here hx rfl (hb hby d4_34) rfl rfl ?_
      show Steps p.tables e below (T8.setTop (mkF m 35 #[.val (.ref a4_0), .val (.int p4_1), .val (.int p4_2), .val (.long q4_3), .second, .val (.int v7)] [(.ref a4_0), (.ref a4_0)])) _
      refine st11 _ ?_
      show Steps p.tables e below (T11.setTop (mkF m 38 #[.val (.ref a4_0), .val (.int p4_1), .val (.int p4_2), .val (.long q4_3), .second, .val (.int v7)] [(.int w_node_a4_0), (.ref a4_0)])) _
      refine st12 _ ?_
      show Steps p.tables e below (T12.setTop (mkF m 41 #[.val (.ref a4_0), .val (.int p4_1), .val (.int p4_2), .val (.long q4_3), .second, .val (.int v7)] [])) _
      refine XS.aloadN X12.here hx rfl (hb hby d4_41) rfl rfl ?_
      show Steps p.tables e below (T12.setTop (mkF m 42 #[.val (.ref a4_0), .val (.int p4_1), .val (.int p4_2), .val (.long q4_3), .second, .val (.int v7)] [(.ref a4_0)])) _
      refine XS.aloadN X12.here hx rfl (hb hby d4_42) rfl rfl ?_
      show Steps p.tables e below (T12.setTop (mkF m 43 #[.val (.ref a4_0), .val (.int p4_1), .val (.int p4_2), .val (.long q4_3), .second, .val (.int v7)] [(.ref a4_0), (.ref a4_0)])) _
      refine st14 _ ?_
      show Steps p.tables e below (T14.setTop (mkF m 46 #[.val (.ref a4_0), .val (.int p4_1), .val (.int p4_2), .val (.long q4_3), .second, .val (.int v7)] [(.int w_beat_a4_0), (.ref a4_0)])) _
      refine st17 _ ?_
      show Steps p.tables e below (T17.setTop (mkF m 49 #[.val (.ref a4_0), .val (.int p4_1), .val (.int p4_2), .val (.long q4_3), .second, .val (.int v7)] [])) _
      refine XS.aloadN X17.here hx rfl (hb hby d4_49) rfl rfl ?_
      show Steps p.tables e below (T17.setTop (mkF m 50 #[.val (.ref a4_0), .val (.int p4_1), .val (.int p4_2), .val (.long q4_3), .second, .val (.int v7)] [(.ref a4_0)])) _
      refine XS.iloadN X17.here hx rfl (hb hby d4_50) rfl ?_
      show Steps p.tables e below (T17.setTop (mkF m 51 #[.val (.ref a4_0), .val (.int p4_1), .val (.int p4_2), .val (.long q4_3), .second, .val (.int v7)] [(.int p4_1), (.ref a4_0)])) _
      refine st20 _ ?_
      show Steps p.tables e below (T20.setTop (mkF m 54 #[.val (.ref a4_0), .val (.int p4_1), .val (.int p4_2), .val (.long q4_3), .second, .val (.int v7)] [])) _
      refine XS.aloadN X20.here hx rfl (hb hby d4_54) rfl rfl ?_
      show Steps p.tables e below (T20.setTop (mkF m 55 #[.val (.ref a4_0), .val (.int p4_1), .val (.int p4_2), .val (.long q4_3), .second, .val (.int v7)] [(.ref a4_0)])) _
      refine XS.lloadN X20.here hx rfl (hb hby d4_55) rfl ?_
      show Steps p.tables e below (T20.setTop (mkF m 56 #[.val (.ref a4_0), .val (.int p4_1), .val (.int p4_2), .val (.long q4_3), .second, .val (.int v7)] [(.long q4_3), (.ref a4_0)])) _
      refine st23 _ ?_
      show Steps p.tables e below (T23.setTop (mkF m 59 #[.val (.ref a4_0), .val (.int p4_1), .val (.int p4_2), .val (.long q4_3), .second, .val (.int v7)] [])) _
      refine XS.aloadN X23.here hx rfl (hb hby d4_59) rfl rfl ?_
      show Steps p.tables e below (T23.setTop (mkF m 60 #[.val (.ref a4_0), .val (.int p4_1), .val (.int p4_2), .val (.long q4_3), .second, .val (.int v7)] [(.ref a4_0)])) _
      refine st25 _ ?_
      show Steps p.tables e below (T25.setTop (mkF m 63 #[.val (.ref a4_0), .val (.int p4_1), .val (.int p4_2), .val (.long q4_3), .second, .val (.int v7)] [(.int p4_1)])) _
      refine XS.iloadN X25.here hx rfl (hb hby d4_63) rfl ?_
      show Steps p.tables e below (T25.setTop (mkF m 64 #[.val (.ref a4_0), .val (.int p4_1), .val (.int p4_2), .val (.long q4_3), .second, .val (.int v7)] [(.int p4_1), (.int p4_1)])) _
      refine XS.icmpNo X25.here hx rfl (hb hby d4_64) rfl (teq rfl).2 ?_
      show Steps p.tables e below (T25.setTop (mkF m 67 #[.val (.ref a4_0), .val (.int p4_1), .val (.int p4_2), .val (.long q4_3), .second, .val (.int v7)] [])) _
      refine XS.aloadN X25.here hx rfl (hb hby d4_67) rfl rfl ?_
      show Steps p.tables e below (T25.setTop (mkF m 68 #[.val (.ref a4_0), .val (.int p4_1), .val (.int p4_2), .val (.long q4_3), .second, .val (.int v7)] [(.ref a4_0)])) _
      refine XS.iloadN X25.here hx rfl (hb hby d4_68) rfl ?_
      show Steps p.tables e below (T25.setTop (mkF m 69 #[.val (.ref a4_0), .val (.int p4_1), .val (.int p4_2), .val (.long q4_3), .second, .val (.int v7)] [(.int p4_2), (.ref a4_0)])) _
      refine st28 _ ?_
      show Steps p.tables e below (T28.setTop (mkF m 72 #[.val (.ref a4_0), .val (.int p4_1), .val (.int p4_2), .val (.long q4_3), .second, .val (.int v7)] [])) _
      refine XS.aloadN X28.here hx rfl (hb hby d4_72) rfl rfl ?_
      show Steps p.tables e below (T28.setTop (mkF m 73 #[.val (.ref a4_0), .val (.int p4_1), .val (.int p4_2), .val (.long q4_3), .second, .val (.int v7)] [(.ref a4_0)])) _
      refine XS.lloadN X28.here hx rfl (hb hby d4_73) rfl ?_
      show Steps p.tables e below (T28.setTop (mkF m 74 #[.val (.ref a4_0), .val (.int p4_1), .val (.int p4_2), .val (.long q4_3), .second, .val (.int v7)] [(.long q4_3), (.ref a4_0)])) _
      refine st31 _ ?_
      show Steps p.tables e below (T31.setTop (mkF m 77 #[.val (.ref a4_0), .val (.int p4_1), .val (.int p4_2), .val (.long q4_3), .second, .val (.int v7)] [])) _
      refine XS.lloadN X31.here hx rfl (hb hby d4_77) rfl ?_
      show Steps p.tables e below (T31.setTop (mkF m 78 #[.val (.ref a4_0), .val (.int p4_1), .val (.int p4_2), .val (.long q4_3), .second, .val (.int v7)] [(.long q4_3)])) _
      refine XS.aloadN X31.here hx rfl (hb hby d4_78) rfl rfl ?_
      show Steps p.tables e below (T31.setTop (mkF m 79 #[.val (.ref a4_0), .val (.int p4_1), .val (.int p4_2), .val (.long q4_3), .second, .val (.int v7)] [(.ref a4_0), (.long q4_3)])) _
      refine st33 _ ?_
      show Steps p.tables e below (T33.setTop (mkF m 82 #[.val (.ref a4_0), .val (.int p4_1), .val (.int p4_2), .val (.long q4_3), .second, .val (.int v7)] [(.long w_checkAt_a4_0), (.long q4_3)])) _
      refine XS.lcmp X33.here hx rfl (hb hby d4_82) rfl ?_
      exact k
    by_cases h83_35 : q4_3 < w_checkAt_a4_0
    · obtain ⟨fs, hr, hrun, hended, hW, hsame⟩ := X33.leave (v := some (.int (1 : Int32))) (fun h => by rw [Bd.returns] at h; cases h)
      refine ⟨_, _, pre0 _ ?_, hrun, hended, _, _, rfl, ?_, ⟨_, rfl⟩, hW, hsame.mono (by decide) (by decide)⟩
      · refine G2 _ ?_
        refine G8 _ ?_
        refine G9 _ ?_
        refine G34 _ ?_
        show Steps p.tables e below (T33.setTop (mkF m 83 #[.val (.ref a4_0), .val (.int p4_1), .val (.int p4_2), .val (.long q4_3), .second, .val (.int v7)] [(.int (lcmpW q4_3 w_checkAt_a4_0))])) _
        refine XS.ifYes X33.here hx rfl (pc0 := 83) (pc' := 120) rfl (hb hby d4_83) rfl ((if0 _ _).trans (tlt ((lw_lt _ _).mpr h83_35)).1) (by decide) (by decide) ?_
        show Steps p.tables e below (T33.setTop (mkF m 120 #[.val (.ref a4_0), .val (.int p4_1), .val (.int p4_2), .val (.long q4_3), .second, .val (.int v7)] [])) _
        refine XS.iload X33.here hx rfl (hb hby d4_120) rfl ?_
        show Steps p.tables e below (T33.setTop (mkF m 122 #[.val (.ref a4_0), .val (.int p4_1), .val (.int p4_2), .val (.long q4_3), .second, .val (.int v7)] [(.int v7)])) _
        rw [show v7 = (1 : Int32) from hv7.trans (if_pos h30_10)]
        show Steps p.tables e below (T33.setTop (mkF m 122 #[.val (.ref a4_0), .val (.int p4_1), .val (.int p4_2), .val (.long q4_3), .second, .val (.int (1 : Int32))] [(.int (1 : Int32))])) _
        exact retN X33 hx (t := .boolean) Bd.returns (by simp) (hb hby d4_122) hr
      · have f85 := ((f24.other W28 (Or.inr (slot_ne (Or.inl (ow15 hw)) (Or.inl (ow27 hw)) (by decide) (t := .int) (t' := .int) (by decide) (by decide)))).other W31 (Or.inr (slot_ne (Or.inl (ow15 hw)) (Or.inl (ow17 hw)) (by decide) (t := .int) (t' := .long) (by decide) (by decide))))
        have f86 := (f29.wr W31)
        have f87 := (((((F12.other W17 (Or.inr (slot_ne (Or.inl (ow10 hw)) (Or.inl (ow35 hw)) (by decide) (t := .int) (t' := .int) (by decide) (by decide)))).other W20 (Or.inr (slot_ne (Or.inl (ow10 hw)) (Or.inl (ow15 hw)) (by decide) (t := .int) (t' := .int) (by decide) (by decide)))).other W23 (Or.inr (slot_ne (Or.inl (ow10 hw)) (Or.inl (ow19 hw)) (by decide) (t := .int) (t' := .long) (by decide) (by decide)))).other W28 (Or.inr (slot_ne (Or.inl (ow10 hw)) (Or.inl (ow27 hw)) (by decide) (t := .int) (t' := .int) (by decide) (by decide)))).other W31 (Or.inr (slot_ne (Or.inl (ow10 hw)) (Or.inl (ow17 hw)) (by decide) (t := .int) (t' := .long) (by decide) (by decide))))
        have f88 := (F28.other W31 (Or.inr (slot_ne (Or.inl (ow27 hw)) (Or.inl (ow17 hw)) (by decide) (t := .int) (t' := .long) (by decide) (by decide))))
        have f89 := ((((F17.other W20 (Or.inr (slot_ne (Or.inl (ow35 hw)) (Or.inl (ow15 hw)) (by decide) (t := .int) (t' := .int) (by decide) (by decide)))).other W23 (Or.inr (slot_ne (Or.inl (ow35 hw)) (Or.inl (ow19 hw)) (by decide) (t := .int) (t' := .long) (by decide) (by decide)))).other W28 (Or.inr (slot_ne (Or.inl (ow35 hw)) (Or.inl (ow27 hw)) (by decide) (t := .int) (t' := .int) (by decide) (by decide)))).other W31 (Or.inr (slot_ne (Or.inl (ow35 hw)) (Or.inl (ow17 hw)) (by decide) (t := .int) (t' := .long) (by decide) (by decide))))
        have f90 := ((F23.other W28 (Or.inr (slot_ne (Or.inl (ow19 hw)) (Or.inl (ow27 hw)) (by decide) (t := .long) (t' := .int) (by decide) (by decide)))).other W31 (Or.inr (slot_ne (Or.inl (ow19 hw)) (Or.inl (ow17 hw)) (by decide) (t := .long) (t' := .long) (by decide) (by decide))))
        have f91 := ((((((F_far_a4_0.other W12 (Or.inr (slot_ne (Or.inl (ow64 hw)) (Or.inl (ow10 hw)) (by decide) (t := .boolean) (t' := .int) (by decide) (by decide)))).other W17 (Or.inr (slot_ne (Or.inl (ow64 hw)) (Or.inl (ow35 hw)) (by decide) (t := .boolean) (t' := .int) (by decide) (by decide)))).other W20 (Or.inr (slot_ne (Or.inl (ow64 hw)) (Or.inl (ow15 hw)) (by decide) (t := .boolean) (t' := .int) (by decide) (by decide)))).other W23 (Or.inr (slot_ne (Or.inl (ow64 hw)) (Or.inl (ow19 hw)) (by decide) (t := .boolean) (t' := .long) (by decide) (by decide)))).other W28 (Or.inr (slot_ne (Or.inl (ow64 hw)) (Or.inl (ow27 hw)) (by decide) (t := .boolean) (t' := .int) (by decide) (by decide)))).other W31 (Or.inr (slot_ne (Or.inl (ow64 hw)) (Or.inl (ow17 hw)) (by decide) (t := .boolean) (t' := .long) (by decide) (by decide))))
        show Q_rm4 Z a4_0 p4_1 p4_2 q4_3 w_node_a4_0 w_raisedAt_a4_0 w_dropped_a4_0 w_beat_a4_0 w_droppedBeat_a4_0 w_since_a4_0 w_checkAt_a4_0 w_far_a4_0 h0 n0 _ T33.heap _
        rw [e33]
        subst hv7
        exact ⟨(congrArg (fun z => some (Value.int z)) (if_pos h30_10).symm), N31, K31, (own_fld f85 (congrArg Value.int (if_pos h30_10))), f86, (own_fld f87 (congrArg Value.int (if_pos h30_10))), (own_fld f88 (congrArg Value.int (if_pos h30_10))), (own_fld f89 (congrArg Value.int (if_pos h30_10))), (own_fld f90 (congrArg Value.long (if_pos h30_10))), (own_fld F31 (congrArg Value.long (if_pos h30_10))), (own_fld f32 (congrArg Value.long (if_pos h83_35))), (own_fld f91 (congrArg Value.int ((if_pos h30_10).trans (if_pos h83_35))))⟩
    · have f36 := (f29.wr W31)
      obtain ⟨T37, h37, X37, e37, W37, st37⟩ := putF X33 hx hZ hown (host := "") (Or.inl (ow12 hw)) Via.refl e33 f32 f36 (Or.inl (ow13 hw)) (ow1 hw) (ty := .long) (by decide) rfl rfl (g := (mkF m 90 #[.val (.ref a4_0), .val (.int p4_1), .val (.int p4_2), .val (.long q4_3), .second, .val (.int v7)] [(.long (9223372036854775807 : Int64)), (.ref a4_0)])) rfl rfl (hb hby d4_90)
      have F37 := f32.same W37
      have K37 : Keep h0 h37 [a4_0] := K31.wr W37 (Or.inl (List.mem_of_getElem? (i := 0) rfl))
      have Z37 : n0 ≤ h37.size := Nat.le_trans Z0 K37.1
      have N37 := Fr.snoc X37 N31 g_a4_0
      have f38 := (((((((F_far_a4_0.other W12 (Or.inr (slot_ne (Or.inl (ow64 hw)) (Or.inl (ow10 hw)) (by decide) (t := .boolean) (t' := .int) (by decide) (by decide)))).other W17 (Or.inr (slot_ne (Or.inl (ow64 hw)) (Or.inl (ow35 hw)) (by decide) (t := .boolean) (t' := .int) (by decide) (by decide)))).other W20 (Or.inr (slot_ne (Or.inl (ow64 hw)) (Or.inl (ow15 hw)) (by decide) (t := .boolean) (t' := .int) (by decide) (by decide)))).other W23 (Or.inr (slot_ne (Or.inl (ow64 hw)) (Or.inl (ow19 hw)) (by decide) (t := .boolean) (t' := .long) (by decide) (by decide)))).other W28 (Or.inr (slot_ne (Or.inl (ow64 hw)) (Or.inl (ow27 hw)) (by decide) (t := .boolean) (t' := .int) (by decide) (by decide)))).other W31 (Or.inr (slot_ne (Or.inl (ow64 hw)) (Or.inl (ow17 hw)) (by decide) (t := .boolean) (t' := .long) (by decide) (by decide)))).other W37 (Or.inr (slot_ne (Or.inl (ow64 hw)) (Or.inl (ow13 hw)) (by decide) (t := .boolean) (t' := .long) (by decide) (by decide))))
      obtain ⟨T39, X39, e39, st39⟩ := getF X37 hx hZ hown (host := "") (Or.inl (ow63 hw)) Via.refl e37 f38 (g := (mkF m 95 #[.val (.ref a4_0), .val (.int p4_1), .val (.int p4_2), .val (.long q4_3), .second, .val (.int v7)] [(.ref a4_0), (.ref a4_0)])) rfl rfl (hb hby d4_95)
      have f40 := (F31.other W37 (Or.inr (slot_ne (Or.inl (ow17 hw)) (Or.inl (ow13 hw)) (by decide) (t := .long) (t' := .long) (by decide) (by decide))))
      obtain ⟨T41, X41, e41, st41⟩ := getF X39 hx hZ hown (host := "") (Or.inl (ow16 hw)) Via.refl e39 f40 (g := (mkF m 100 #[.val (.ref a4_0), .val (.int p4_1), .val (.int p4_2), .val (.long q4_3), .second, .val (.int v7)] [(.ref a4_0), (.long q4_3), (.int w_far_a4_0), (.ref a4_0)])) rfl rfl (hb hby d4_100)
      have G42 : ∀ t, Steps p.tables e below (T41.setTop (mkF m 108 #[.val (.ref a4_0), .val (.int p4_1), .val (.int p4_2), .val (.long q4_3), .second, .val (.int v7)] [(.int (lcmpW (q4_3 - q4_3) (2500 : Int64))), (.int w_far_a4_0), (.ref a4_0)])) t → Steps p.tables e below (T33.setTop (mkF m 83 #[.val (.ref a4_0), .val (.int p4_1), .val (.int p4_2), .val (.long q4_3), .second, .val (.int v7)] [(.int (lcmpW q4_3 w_checkAt_a4_0))])) t := by
        intro t k
        show Steps p.tables e below (T33.setTop (mkF m 83 #[.val (.ref a4_0), .val (.int p4_1), .val (.int p4_2), .val (.long q4_3), .second, .val (.int v7)] [(.int (lcmpW q4_3 w_checkAt_a4_0))])) _
        refine XS.ifNo X33.here hx rfl (hb hby d4_83) rfl ((if0 _ _).trans (flt (fun q => h83_35 ((lw_lt _ _).mp q))).1) ?_
        show Steps p.tables e below (T33.setTop (mkF m 86 #[.val (.ref a4_0), .val (.int p4_1), .val (.int p4_2), .val (.long q4_3), .second, .val (.int v7)] [])) _
        refine XS.aloadN X33.here hx rfl (hb hby d4_86) rfl rfl ?_
        show Steps p.tables e below (T33.setTop (mkF m 87 #[.val (.ref a4_0), .val (.int p4_1), .val (.int p4_2), .val (.long q4_3), .second, .val (.int v7)] [(.ref a4_0)])) _
        refine X33.ldc2Long hx hown (mvT hZ (ow11 hw)) (g := (mkF m 87 #[.val (.ref a4_0), .val (.int p4_1), .val (.int p4_2), .val (.long q4_3), .second, .val (.int v7)] [(.ref a4_0)])) rfl (hb hby d4_87) _ ?_
        show Steps p.tables e below (T33.setTop (mkF m 90 #[.val (.ref a4_0), .val (.int p4_1), .val (.int p4_2), .val (.long q4_3), .second, .val (.int v7)] [(.long (9223372036854775807 : Int64)), (.ref a4_0)])) _
        refine st37 _ ?_
        show Steps p.tables e below (T37.setTop (mkF m 93 #[.val (.ref a4_0), .val (.int p4_1), .val (.int p4_2), .val (.long q4_3), .second, .val (.int v7)] [])) _
        refine XS.aloadN X37.here hx rfl (hb hby d4_93) rfl rfl ?_
        show Steps p.tables e below (T37.setTop (mkF m 94 #[.val (.ref a4_0), .val (.int p4_1), .val (.int p4_2), .val (.long q4_3), .second, .val (.int v7)] [(.ref a4_0)])) _
        refine XS.dup X37.here hx rfl (hb hby d4_94) rfl rfl ?_
        show Steps p.tables e below (T37.setTop (mkF m 95 #[.val (.ref a4_0), .val (.int p4_1), .val (.int p4_2), .val (.long q4_3), .second, .val (.int v7)] [(.ref a4_0), (.ref a4_0)])) _
        refine st39 _ ?_
        show Steps p.tables e below (T39.setTop (mkF m 98 #[.val (.ref a4_0), .val (.int p4_1), .val (.int p4_2), .val (.long q4_3), .second, .val (.int v7)] [(.int w_far_a4_0), (.ref a4_0)])) _
        refine XS.lloadN X39.here hx rfl (hb hby d4_98) rfl ?_
        show Steps p.tables e below (T39.setTop (mkF m 99 #[.val (.ref a4_0), .val (.int p4_1), .val (.int p4_2), .val (.long q4_3), .second, .val (.int v7)] [(.long q4_3), (.int w_far_a4_0), (.ref a4_0)])) _
        refine XS.aloadN X39.here hx rfl (hb hby d4_99) rfl rfl ?_
        show Steps p.tables e below (T39.setTop (mkF m 100 #[.val (.ref a4_0), .val (.int p4_1), .val (.int p4_2), .val (.long q4_3), .second, .val (.int v7)] [(.ref a4_0), (.long q4_3), (.int w_far_a4_0), (.ref a4_0)])) _
        refine st41 _ ?_
        show Steps p.tables e below (T41.setTop (mkF m 103 #[.val (.ref a4_0), .val (.int p4_1), .val (.int p4_2), .val (.long q4_3), .second, .val (.int v7)] [(.long q4_3), (.long q4_3), (.int w_far_a4_0), (.ref a4_0)])) _
        refine XS.lsub X41.here hx rfl (hb hby d4_103) rfl ?_
        show Steps p.tables e below (T41.setTop (mkF m 104 #[.val (.ref a4_0), .val (.int p4_1), .val (.int p4_2), .val (.long q4_3), .second, .val (.int v7)] [(.long (q4_3 - q4_3)), (.int w_far_a4_0), (.ref a4_0)])) _
        refine X41.ldc2Long hx hown (mvT hZ (ow67 hw)) (g := (mkF m 104 #[.val (.ref a4_0), .val (.int p4_1), .val (.int p4_2), .val (.long q4_3), .second, .val (.int v7)] [(.long (q4_3 - q4_3)), (.int w_far_a4_0), (.ref a4_0)])) rfl (hb hby d4_104) _ ?_
        show Steps p.tables e below (T41.setTop (mkF m 107 #[.val (.ref a4_0), .val (.int p4_1), .val (.int p4_2), .val (.long q4_3), .second, .val (.int v7)] [(.long (2500 : Int64)), (.long (q4_3 - q4_3)), (.int w_far_a4_0), (.ref a4_0)])) _
        refine XS.lcmp X41.here hx rfl (hb hby d4_107) rfl ?_
        exact k
      obtain ⟨v44, hv44⟩ : ∃ z : Int32, z = (if ¬ ((q4_3 - q4_3) < (2500 : Int64)) then (1 : Int32) else (0 : Int32)) := ⟨_, rfl⟩
      obtain ⟨T45, Lo45, X45, N45, e45, G45⟩ := own_join X41 N37 (h := h37) (mkF m 108 #[.val (.ref a4_0), .val (.int p4_1), .val (.int p4_2), .val (.long q4_3), .second, .val (.int v7)] [(.int (lcmpW (q4_3 - q4_3) (2500 : Int64))), (.int w_far_a4_0), (.ref a4_0)]) (mkF m 116 #[.val (.ref a4_0), .val (.int p4_1), .val (.int p4_2), .val (.long q4_3), .second, .val (.int v7)] [(.int v44), (.int w_far_a4_0), (.ref a4_0)]) (by
        by_cases h108_43 : (q4_3 - q4_3) < (2500 : Int64)
        · refine ⟨T41, _, X41, N37, e41, fun t k => ?_⟩
          rw [show v44 = (0 : Int32) from hv44.trans (if_neg (fun q => q h108_43))] at k
          show Steps p.tables e below (T41.setTop (mkF m 108 #[.val (.ref a4_0), .val (.int p4_1), .val (.int p4_2), .val (.long q4_3), .second, .val (.int v7)] [(.int (lcmpW (q4_3 - q4_3) (2500 : Int64))), (.int w_far_a4_0), (.ref a4_0)])) _
          refine XS.ifYes X41.here hx rfl (pc0 := 108) (pc' := 115) rfl (hb hby d4_108) rfl ((if0 _ _).trans (tlt ((lw_lt _ _).mpr h108_43)).1) (by decide) (by decide) ?_
          show Steps p.tables e below (T41.setTop (mkF m 115 #[.val (.ref a4_0), .val (.int p4_1), .val (.int p4_2), .val (.long q4_3), .second, .val (.int v7)] [(.int w_far_a4_0), (.ref a4_0)])) _
          refine XS.iconst X41.here hx rfl (hb hby d4_115) ?_
          exact k
        · refine ⟨T41, _, X41, N37, e41, fun t k => ?_⟩
          rw [show v44 = (1 : Int32) from hv44.trans (if_pos h108_43)] at k
          show Steps p.tables e below (T41.setTop (mkF m 108 #[.val (.ref a4_0), .val (.int p4_1), .val (.int p4_2), .val (.long q4_3), .second, .val (.int v7)] [(.int (lcmpW (q4_3 - q4_3) (2500 : Int64))), (.int w_far_a4_0), (.ref a4_0)])) _
          refine XS.ifNo X41.here hx rfl (hb hby d4_108) rfl ((if0 _ _).trans (flt (fun q => h108_43 ((lw_lt _ _).mp q))).1) ?_
          show Steps p.tables e below (T41.setTop (mkF m 111 #[.val (.ref a4_0), .val (.int p4_1), .val (.int p4_2), .val (.long q4_3), .second, .val (.int v7)] [(.int w_far_a4_0), (.ref a4_0)])) _
          refine XS.iconst X41.here hx rfl (hb hby d4_111) ?_
          show Steps p.tables e below (T41.setTop (mkF m 112 #[.val (.ref a4_0), .val (.int p4_1), .val (.int p4_2), .val (.long q4_3), .second, .val (.int v7)] [(.int (1 : Int32)), (.int w_far_a4_0), (.ref a4_0)])) _
          refine XS.goto X41.here hx rfl (pc0 := 112) (pc' := 116) rfl (hb hby d4_112) (by decide) (by decide) ?_
          exact k)
      have f46 := (f36.wr W37)
      obtain ⟨T47, h47, X47, e47, W47, st47⟩ := putFN X45 hx hZ hown (ow63 hw) Via.refl e45 f38 f46 (Or.inl (ow64 hw)) (ow1 hw) (ty := .boolean) (v' := (.int (nar .boolean (w_far_a4_0 ||| v44)))) (by decide) rfl (fits_nar_bool _) (g := (mkF m 117 #[.val (.ref a4_0), .val (.int p4_1), .val (.int p4_2), .val (.long q4_3), .second, .val (.int v7)] [(.int (w_far_a4_0 ||| v44)), (.ref a4_0)])) rfl rfl (hb hby d4_117)
      have F47 := f38.same W47
      have K47 : Keep h0 h47 [a4_0] := K37.wr W47 (Or.inl (List.mem_of_getElem? (i := 0) rfl))
      have Z47 : n0 ≤ h47.size := Nat.le_trans Z0 K47.1
      have N47 := Fr.snoc X47 N45 g_a4_0
      obtain ⟨fs, hr, hrun, hended, hW, hsame⟩ := X47.leave (v := some (.int (1 : Int32))) (fun h => by rw [Bd.returns] at h; cases h)
      refine ⟨_, _, pre0 _ ?_, hrun, hended, _, _, rfl, ?_, ⟨_, rfl⟩, hW, hsame.mono (by decide) (by decide)⟩
      · refine G2 _ ?_
        refine G8 _ ?_
        refine G9 _ ?_
        refine G34 _ ?_
        refine G42 _ ?_
        refine G45 _ ?_
        show Steps p.tables e below (T45.setTop (mkF m 116 #[.val (.ref a4_0), .val (.int p4_1), .val (.int p4_2), .val (.long q4_3), .second, .val (.int v7)] [(.int v44), (.int w_far_a4_0), (.ref a4_0)])) _
        refine XS.ior X45.here hx rfl (hb hby d4_116) rfl ?_
        show Steps p.tables e below (T45.setTop (mkF m 117 #[.val (.ref a4_0), .val (.int p4_1), .val (.int p4_2), .val (.long q4_3), .second, .val (.int v7)] [(.int (w_far_a4_0 ||| v44)), (.ref a4_0)])) _
        refine st47 _ ?_
        show Steps p.tables e below (T47.setTop (mkF m 120 #[.val (.ref a4_0), .val (.int p4_1), .val (.int p4_2), .val (.long q4_3), .second, .val (.int v7)] [])) _
        refine XS.iload X47.here hx rfl (hb hby d4_120) rfl ?_
        show Steps p.tables e below (T47.setTop (mkF m 122 #[.val (.ref a4_0), .val (.int p4_1), .val (.int p4_2), .val (.long q4_3), .second, .val (.int v7)] [(.int v7)])) _
        rw [show v7 = (1 : Int32) from hv7.trans (if_pos h30_10)]
        show Steps p.tables e below (T47.setTop (mkF m 122 #[.val (.ref a4_0), .val (.int p4_1), .val (.int p4_2), .val (.long q4_3), .second, .val (.int (1 : Int32))] [(.int (1 : Int32))])) _
        exact retN X47 hx (t := .boolean) Bd.returns (by simp) (hb hby d4_122) hr
      · have f92 := ((((f24.other W28 (Or.inr (slot_ne (Or.inl (ow15 hw)) (Or.inl (ow27 hw)) (by decide) (t := .int) (t' := .int) (by decide) (by decide)))).other W31 (Or.inr (slot_ne (Or.inl (ow15 hw)) (Or.inl (ow17 hw)) (by decide) (t := .int) (t' := .long) (by decide) (by decide)))).other W37 (Or.inr (slot_ne (Or.inl (ow15 hw)) (Or.inl (ow13 hw)) (by decide) (t := .int) (t' := .long) (by decide) (by decide)))).other W47 (Or.inr (slot_ne (Or.inl (ow15 hw)) (Or.inl (ow64 hw)) (by decide) (t := .int) (t' := .boolean) (by decide) (by decide))))
        have f93 := (f46.wr W47)
        have f94 := (((((((F12.other W17 (Or.inr (slot_ne (Or.inl (ow10 hw)) (Or.inl (ow35 hw)) (by decide) (t := .int) (t' := .int) (by decide) (by decide)))).other W20 (Or.inr (slot_ne (Or.inl (ow10 hw)) (Or.inl (ow15 hw)) (by decide) (t := .int) (t' := .int) (by decide) (by decide)))).other W23 (Or.inr (slot_ne (Or.inl (ow10 hw)) (Or.inl (ow19 hw)) (by decide) (t := .int) (t' := .long) (by decide) (by decide)))).other W28 (Or.inr (slot_ne (Or.inl (ow10 hw)) (Or.inl (ow27 hw)) (by decide) (t := .int) (t' := .int) (by decide) (by decide)))).other W31 (Or.inr (slot_ne (Or.inl (ow10 hw)) (Or.inl (ow17 hw)) (by decide) (t := .int) (t' := .long) (by decide) (by decide)))).other W37 (Or.inr (slot_ne (Or.inl (ow10 hw)) (Or.inl (ow13 hw)) (by decide) (t := .int) (t' := .long) (by decide) (by decide)))).other W47 (Or.inr (slot_ne (Or.inl (ow10 hw)) (Or.inl (ow64 hw)) (by decide) (t := .int) (t' := .boolean) (by decide) (by decide))))
        have f95 := (((F28.other W31 (Or.inr (slot_ne (Or.inl (ow27 hw)) (Or.inl (ow17 hw)) (by decide) (t := .int) (t' := .long) (by decide) (by decide)))).other W37 (Or.inr (slot_ne (Or.inl (ow27 hw)) (Or.inl (ow13 hw)) (by decide) (t := .int) (t' := .long) (by decide) (by decide)))).other W47 (Or.inr (slot_ne (Or.inl (ow27 hw)) (Or.inl (ow64 hw)) (by decide) (t := .int) (t' := .boolean) (by decide) (by decide))))
        have f96 := ((((((F17.other W20 (Or.inr (slot_ne (Or.inl (ow35 hw)) (Or.inl (ow15 hw)) (by decide) (t := .int) (t' := .int) (by decide) (by decide)))).other W23 (Or.inr (slot_ne (Or.inl (ow35 hw)) (Or.inl (ow19 hw)) (by decide) (t := .int) (t' := .long) (by decide) (by decide)))).other W28 (Or.inr (slot_ne (Or.inl (ow35 hw)) (Or.inl (ow27 hw)) (by decide) (t := .int) (t' := .int) (by decide) (by decide)))).other W31 (Or.inr (slot_ne (Or.inl (ow35 hw)) (Or.inl (ow17 hw)) (by decide) (t := .int) (t' := .long) (by decide) (by decide)))).other W37 (Or.inr (slot_ne (Or.inl (ow35 hw)) (Or.inl (ow13 hw)) (by decide) (t := .int) (t' := .long) (by decide) (by decide)))).other W47 (Or.inr (slot_ne (Or.inl (ow35 hw)) (Or.inl (ow64 hw)) (by decide) (t := .int) (t' := .boolean) (by decide) (by decide))))
        have f97 := ((((F23.other W28 (Or.inr (slot_ne (Or.inl (ow19 hw)) (Or.inl (ow27 hw)) (by decide) (t := .long) (t' := .int) (by decide) (by decide)))).other W31 (Or.inr (slot_ne (Or.inl (ow19 hw)) (Or.inl (ow17 hw)) (by decide) (t := .long) (t' := .long) (by decide) (by decide)))).other W37 (Or.inr (slot_ne (Or.inl (ow19 hw)) (Or.inl (ow13 hw)) (by decide) (t := .long) (t' := .long) (by decide) (by decide)))).other W47 (Or.inr (slot_ne (Or.inl (ow19 hw)) (Or.inl (ow64 hw)) (by decide) (t := .long) (t' := .boolean) (by decide) (by decide))))
        have f98 := (f40.other W47 (Or.inr (slot_ne (Or.inl (ow17 hw)) (Or.inl (ow64 hw)) (by decide) (t := .long) (t' := .boolean) (by decide) (by decide))))
        have f99 := (F37.other W47 (Or.inr (slot_ne (Or.inl (ow13 hw)) (Or.inl (ow64 hw)) (by decide) (t := .long) (t' := .boolean) (by decide) (by decide))))
        show Q_rm4 Z a4_0 p4_1 p4_2 q4_3 w_node_a4_0 w_raisedAt_a4_0 w_dropped_a4_0 w_beat_a4_0 w_droppedBeat_a4_0 w_since_a4_0 w_checkAt_a4_0 w_far_a4_0 h0 n0 _ T47.heap _
        rw [e47]
        subst hv44
        subst hv7
        exact ⟨(congrArg (fun z => some (Value.int z)) (if_pos h30_10).symm), N47, K47, (own_fld f92 (congrArg Value.int (if_pos h30_10))), f93, (own_fld f94 (congrArg Value.int (if_pos h30_10))), (own_fld f95 (congrArg Value.int (if_pos h30_10))), (own_fld f96 (congrArg Value.int (if_pos h30_10))), (own_fld f97 (congrArg Value.long (if_pos h30_10))), (own_fld f98 (congrArg Value.long (if_pos h30_10))), (own_fld f99 (congrArg Value.long (if_neg h83_35))), (own_fld F47 (congrArg Value.int ((if_pos h30_10).trans (if_neg h83_35))))⟩
  · obtain ⟨T48, X48, e48, st48⟩ := getF X8 hx hZ hown (host := "") (Or.inl (ow14 hw)) Via.refl e8 F_node_a4_0 (g := (mkF m 60 #[.val (.ref a4_0), .val (.int p4_1), .val (.int p4_2), .val (.long q4_3), .second, .val (.int v7)] [(.ref a4_0)])) rfl rfl (hb hby d4_60)
    have G49 : ∀ t, Steps p.tables e below (T48.setTop (mkF m 64 #[.val (.ref a4_0), .val (.int p4_1), .val (.int p4_2), .val (.long q4_3), .second, .val (.int v7)] [(.int p4_1), (.int w_node_a4_0)])) t → Steps p.tables e below (T8.setTop (mkF m 30 #[.val (.ref a4_0), .val (.int p4_1), .val (.int p4_2), .val (.long q4_3), .second, .val (.int v7)] [(.int v7)])) t := by
      intro t k
      show Steps p.tables e below (T8.setTop (mkF m 30 #[.val (.ref a4_0), .val (.int p4_1), .val (.int p4_2), .val (.long q4_3), .second, .val (.int v7)] [(.int v7)])) _
      refine XS.ifYes X8.here hx rfl (pc0 := 30) (pc' := 59) rfl (hb hby d4_30) rfl ((if0 _ _).trans (teq (hv7.trans (if_neg h30_10))).1) (by decide) (by decide) ?_
      show Steps p.tables e below (T8.setTop (mkF m 59 #[.val (.ref a4_0), .val (.int p4_1), .val (.int p4_2), .val (.long q4_3), .second, .val (.int v7)] [])) _
      refine XS.aloadN X8.here hx rfl (hb hby d4_59) rfl rfl ?_
      show Steps p.tables e below (T8.setTop (mkF m 60 #[.val (.ref a4_0), .val (.int p4_1), .val (.int p4_2), .val (.long q4_3), .second, .val (.int v7)] [(.ref a4_0)])) _
      refine st48 _ ?_
      show Steps p.tables e below (T48.setTop (mkF m 63 #[.val (.ref a4_0), .val (.int p4_1), .val (.int p4_2), .val (.long q4_3), .second, .val (.int v7)] [(.int w_node_a4_0)])) _
      refine XS.iloadN X48.here hx rfl (hb hby d4_63) rfl ?_
      exact k
    by_cases h64_50 : w_node_a4_0 = p4_1
    · obtain ⟨T51, h51, X51, e51, W51, st51⟩ := putF X48 hx hZ hown (host := "") (Or.inl (ow26 hw)) Via.refl e48 F_beat_a4_0 E_a4_0 (Or.inl (ow27 hw)) (ow1 hw) (ty := .int) (by decide) rfl rfl (g := (mkF m 69 #[.val (.ref a4_0), .val (.int p4_1), .val (.int p4_2), .val (.long q4_3), .second, .val (.int v7)] [(.int p4_2), (.ref a4_0)])) rfl rfl (hb hby d4_69)
      have F51 := F_beat_a4_0.same W51
      have K51 : Keep h0 h51 [a4_0] := (Keep.refl h0 [a4_0]).wr W51 (Or.inl (List.mem_of_getElem? (i := 0) rfl))
      have Z51 : n0 ≤ h51.size := Nat.le_trans Z0 K51.1
      have N51 := Fr.snoc X51 N8 g_a4_0
      have f52 := (E_a4_0.wr W51)
      have f53 := (F_raisedAt_a4_0.other W51 (Or.inr (slot_ne (Or.inl (ow17 hw)) (Or.inl (ow27 hw)) (by decide) (t := .long) (t' := .int) (by decide) (by decide))))
      obtain ⟨T54, h54, X54, e54, W54, st54⟩ := putF X51 hx hZ hown (host := "") (Or.inl (ow16 hw)) Via.refl e51 f53 f52 (Or.inl (ow17 hw)) (ow1 hw) (ty := .long) (by decide) rfl rfl (g := (mkF m 74 #[.val (.ref a4_0), .val (.int p4_1), .val (.int p4_2), .val (.long q4_3), .second, .val (.int v7)] [(.long q4_3), (.ref a4_0)])) rfl rfl (hb hby d4_74)
      have F54 := f53.same W54
      have K54 : Keep h0 h54 [a4_0] := K51.wr W54 (Or.inl (List.mem_of_getElem? (i := 0) rfl))
      have Z54 : n0 ≤ h54.size := Nat.le_trans Z0 K54.1
      have N54 := Fr.snoc X54 N51 g_a4_0
      have f55 := ((F_checkAt_a4_0.other W51 (Or.inr (slot_ne (Or.inl (ow13 hw)) (Or.inl (ow27 hw)) (by decide) (t := .long) (t' := .int) (by decide) (by decide)))).other W54 (Or.inr (slot_ne (Or.inl (ow13 hw)) (Or.inl (ow17 hw)) (by decide) (t := .long) (t' := .long) (by decide) (by decide))))
      obtain ⟨T56, X56, e56, st56⟩ := getF X54 hx hZ hown (host := "") (Or.inl (ow12 hw)) Via.refl e54 f55 (g := (mkF m 79 #[.val (.ref a4_0), .val (.int p4_1), .val (.int p4_2), .val (.long q4_3), .second, .val (.int v7)] [(.ref a4_0), (.long q4_3)])) rfl rfl (hb hby d4_79)
      have G57 : ∀ t, Steps p.tables e below (T56.setTop (mkF m 83 #[.val (.ref a4_0), .val (.int p4_1), .val (.int p4_2), .val (.long q4_3), .second, .val (.int v7)] [(.int (lcmpW q4_3 w_checkAt_a4_0))])) t → Steps p.tables e below (T48.setTop (mkF m 64 #[.val (.ref a4_0), .val (.int p4_1), .val (.int p4_2), .val (.long q4_3), .second, .val (.int v7)] [(.int p4_1), (.int w_node_a4_0)])) t := by
        intro t k
        show Steps p.tables e below (T48.setTop (mkF m 64 #[.val (.ref a4_0), .val (.int p4_1), .val (.int p4_2), .val (.long q4_3), .second, .val (.int v7)] [(.int p4_1), (.int w_node_a4_0)])) _
        refine XS.icmpNo X48.here hx rfl (hb hby d4_64) rfl (teq h64_50).2 ?_
        show Steps p.tables e below (T48.setTop (mkF m 67 #[.val (.ref a4_0), .val (.int p4_1), .val (.int p4_2), .val (.long q4_3), .second, .val (.int v7)] [])) _
        refine XS.aloadN X48.here hx rfl (hb hby d4_67) rfl rfl ?_
        show Steps p.tables e below (T48.setTop (mkF m 68 #[.val (.ref a4_0), .val (.int p4_1), .val (.int p4_2), .val (.long q4_3), .second, .val (.int v7)] [(.ref a4_0)])) _
        refine XS.iloadN X48.here hx rfl (hb hby d4_68) rfl ?_
        show Steps p.tables e below (T48.setTop (mkF m 69 #[.val (.ref a4_0), .val (.int p4_1), .val (.int p4_2), .val (.long q4_3), .second, .val (.int v7)] [(.int p4_2), (.ref a4_0)])) _
        refine st51 _ ?_
        show Steps p.tables e below (T51.setTop (mkF m 72 #[.val (.ref a4_0), .val (.int p4_1), .val (.int p4_2), .val (.long q4_3), .second, .val (.int v7)] [])) _
        refine XS.aloadN X51.here hx rfl (hb hby d4_72) rfl rfl ?_
        show Steps p.tables e below (T51.setTop (mkF m 73 #[.val (.ref a4_0), .val (.int p4_1), .val (.int p4_2), .val (.long q4_3), .second, .val (.int v7)] [(.ref a4_0)])) _
        refine XS.lloadN X51.here hx rfl (hb hby d4_73) rfl ?_
        show Steps p.tables e below (T51.setTop (mkF m 74 #[.val (.ref a4_0), .val (.int p4_1), .val (.int p4_2), .val (.long q4_3), .second, .val (.int v7)] [(.long q4_3), (.ref a4_0)])) _
        refine st54 _ ?_
        show Steps p.tables e below (T54.setTop (mkF m 77 #[.val (.ref a4_0), .val (.int p4_1), .val (.int p4_2), .val (.long q4_3), .second, .val (.int v7)] [])) _
        refine XS.lloadN X54.here hx rfl (hb hby d4_77) rfl ?_
        show Steps p.tables e below (T54.setTop (mkF m 78 #[.val (.ref a4_0), .val (.int p4_1), .val (.int p4_2), .val (.long q4_3), .second, .val (.int v7)] [(.long q4_3)])) _
        refine XS.aloadN X54.here hx rfl (hb hby d4_78) rfl rfl ?_
        show Steps p.tables e below (T54.setTop (mkF m 79 #[.val (.ref a4_0), .val (.int p4_1), .val (.int p4_2), .val (.long q4_3), .second, .val (.int v7)] [(.ref a4_0), (.long q4_3)])) _
        refine st56 _ ?_
        show Steps p.tables e below (T56.setTop (mkF m 82 #[.val (.ref a4_0), .val (.int p4_1), .val (.int p4_2), .val (.long q4_3), .second, .val (.int v7)] [(.long w_checkAt_a4_0), (.long q4_3)])) _
        refine XS.lcmp X56.here hx rfl (hb hby d4_82) rfl ?_
        exact k
      by_cases h83_58 : q4_3 < w_checkAt_a4_0
      · obtain ⟨fs, hr, hrun, hended, hW, hsame⟩ := X56.leave (v := some (.int (0 : Int32))) (fun h => by rw [Bd.returns] at h; cases h)
        refine ⟨_, _, pre0 _ ?_, hrun, hended, _, _, rfl, ?_, ⟨_, rfl⟩, hW, hsame.mono (by decide) (by decide)⟩
        · refine G2 _ ?_
          refine G8 _ ?_
          refine G9 _ ?_
          refine G49 _ ?_
          refine G57 _ ?_
          show Steps p.tables e below (T56.setTop (mkF m 83 #[.val (.ref a4_0), .val (.int p4_1), .val (.int p4_2), .val (.long q4_3), .second, .val (.int v7)] [(.int (lcmpW q4_3 w_checkAt_a4_0))])) _
          refine XS.ifYes X56.here hx rfl (pc0 := 83) (pc' := 120) rfl (hb hby d4_83) rfl ((if0 _ _).trans (tlt ((lw_lt _ _).mpr h83_58)).1) (by decide) (by decide) ?_
          show Steps p.tables e below (T56.setTop (mkF m 120 #[.val (.ref a4_0), .val (.int p4_1), .val (.int p4_2), .val (.long q4_3), .second, .val (.int v7)] [])) _
          refine XS.iload X56.here hx rfl (hb hby d4_120) rfl ?_
          show Steps p.tables e below (T56.setTop (mkF m 122 #[.val (.ref a4_0), .val (.int p4_1), .val (.int p4_2), .val (.long q4_3), .second, .val (.int v7)] [(.int v7)])) _
          rw [show v7 = (0 : Int32) from hv7.trans (if_neg h30_10)]
          show Steps p.tables e below (T56.setTop (mkF m 122 #[.val (.ref a4_0), .val (.int p4_1), .val (.int p4_2), .val (.long q4_3), .second, .val (.int (0 : Int32))] [(.int (0 : Int32))])) _
          exact retN X56 hx (t := .boolean) Bd.returns (by simp) (hb hby d4_122) hr
        · have f100 := ((F_node_a4_0.other W51 (Or.inr (slot_ne (Or.inl (ow15 hw)) (Or.inl (ow27 hw)) (by decide) (t := .int) (t' := .int) (by decide) (by decide)))).other W54 (Or.inr (slot_ne (Or.inl (ow15 hw)) (Or.inl (ow17 hw)) (by decide) (t := .int) (t' := .long) (by decide) (by decide))))
          have f101 := (f52.wr W54)
          have f102 := ((F_dropped_a4_0.other W51 (Or.inr (slot_ne (Or.inl (ow10 hw)) (Or.inl (ow27 hw)) (by decide) (t := .int) (t' := .int) (by decide) (by decide)))).other W54 (Or.inr (slot_ne (Or.inl (ow10 hw)) (Or.inl (ow17 hw)) (by decide) (t := .int) (t' := .long) (by decide) (by decide))))
          have f103 := (F51.other W54 (Or.inr (slot_ne (Or.inl (ow27 hw)) (Or.inl (ow17 hw)) (by decide) (t := .int) (t' := .long) (by decide) (by decide))))
          have f104 := ((F_droppedBeat_a4_0.other W51 (Or.inr (slot_ne (Or.inl (ow35 hw)) (Or.inl (ow27 hw)) (by decide) (t := .int) (t' := .int) (by decide) (by decide)))).other W54 (Or.inr (slot_ne (Or.inl (ow35 hw)) (Or.inl (ow17 hw)) (by decide) (t := .int) (t' := .long) (by decide) (by decide))))
          have f105 := ((F_since_a4_0.other W51 (Or.inr (slot_ne (Or.inl (ow19 hw)) (Or.inl (ow27 hw)) (by decide) (t := .long) (t' := .int) (by decide) (by decide)))).other W54 (Or.inr (slot_ne (Or.inl (ow19 hw)) (Or.inl (ow17 hw)) (by decide) (t := .long) (t' := .long) (by decide) (by decide))))
          have f106 := ((F_far_a4_0.other W51 (Or.inr (slot_ne (Or.inl (ow64 hw)) (Or.inl (ow27 hw)) (by decide) (t := .boolean) (t' := .int) (by decide) (by decide)))).other W54 (Or.inr (slot_ne (Or.inl (ow64 hw)) (Or.inl (ow17 hw)) (by decide) (t := .boolean) (t' := .long) (by decide) (by decide))))
          show Q_rm4 Z a4_0 p4_1 p4_2 q4_3 w_node_a4_0 w_raisedAt_a4_0 w_dropped_a4_0 w_beat_a4_0 w_droppedBeat_a4_0 w_since_a4_0 w_checkAt_a4_0 w_far_a4_0 h0 n0 _ T56.heap _
          rw [e56]
          subst hv7
          exact ⟨(congrArg (fun z => some (Value.int z)) (if_neg h30_10).symm), N54, K54, (own_fld f100 (congrArg Value.int (if_neg h30_10))), f101, (own_fld f102 (congrArg Value.int (if_neg h30_10))), (own_fld f103 (congrArg Value.int ((if_neg h30_10).trans (if_pos h64_50)))), (own_fld f104 (congrArg Value.int (if_neg h30_10))), (own_fld f105 (congrArg Value.long (if_neg h30_10))), (own_fld F54 (congrArg Value.long ((if_neg h30_10).trans (if_pos h64_50)))), (own_fld f55 (congrArg Value.long (if_pos h83_58))), (own_fld f106 (congrArg Value.int ((if_neg h30_10).trans ((if_pos h64_50).trans (if_pos h83_58)))))⟩
      · have f59 := (f52.wr W54)
        obtain ⟨T60, h60, X60, e60, W60, st60⟩ := putF X56 hx hZ hown (host := "") (Or.inl (ow12 hw)) Via.refl e56 f55 f59 (Or.inl (ow13 hw)) (ow1 hw) (ty := .long) (by decide) rfl rfl (g := (mkF m 90 #[.val (.ref a4_0), .val (.int p4_1), .val (.int p4_2), .val (.long q4_3), .second, .val (.int v7)] [(.long (9223372036854775807 : Int64)), (.ref a4_0)])) rfl rfl (hb hby d4_90)
        have F60 := f55.same W60
        have K60 : Keep h0 h60 [a4_0] := K54.wr W60 (Or.inl (List.mem_of_getElem? (i := 0) rfl))
        have Z60 : n0 ≤ h60.size := Nat.le_trans Z0 K60.1
        have N60 := Fr.snoc X60 N54 g_a4_0
        have f61 := (((F_far_a4_0.other W51 (Or.inr (slot_ne (Or.inl (ow64 hw)) (Or.inl (ow27 hw)) (by decide) (t := .boolean) (t' := .int) (by decide) (by decide)))).other W54 (Or.inr (slot_ne (Or.inl (ow64 hw)) (Or.inl (ow17 hw)) (by decide) (t := .boolean) (t' := .long) (by decide) (by decide)))).other W60 (Or.inr (slot_ne (Or.inl (ow64 hw)) (Or.inl (ow13 hw)) (by decide) (t := .boolean) (t' := .long) (by decide) (by decide))))
        obtain ⟨T62, X62, e62, st62⟩ := getF X60 hx hZ hown (host := "") (Or.inl (ow63 hw)) Via.refl e60 f61 (g := (mkF m 95 #[.val (.ref a4_0), .val (.int p4_1), .val (.int p4_2), .val (.long q4_3), .second, .val (.int v7)] [(.ref a4_0), (.ref a4_0)])) rfl rfl (hb hby d4_95)
        have f63 := (F54.other W60 (Or.inr (slot_ne (Or.inl (ow17 hw)) (Or.inl (ow13 hw)) (by decide) (t := .long) (t' := .long) (by decide) (by decide))))
        obtain ⟨T64, X64, e64, st64⟩ := getF X62 hx hZ hown (host := "") (Or.inl (ow16 hw)) Via.refl e62 f63 (g := (mkF m 100 #[.val (.ref a4_0), .val (.int p4_1), .val (.int p4_2), .val (.long q4_3), .second, .val (.int v7)] [(.ref a4_0), (.long q4_3), (.int w_far_a4_0), (.ref a4_0)])) rfl rfl (hb hby d4_100)
        have G65 : ∀ t, Steps p.tables e below (T64.setTop (mkF m 108 #[.val (.ref a4_0), .val (.int p4_1), .val (.int p4_2), .val (.long q4_3), .second, .val (.int v7)] [(.int (lcmpW (q4_3 - q4_3) (2500 : Int64))), (.int w_far_a4_0), (.ref a4_0)])) t → Steps p.tables e below (T56.setTop (mkF m 83 #[.val (.ref a4_0), .val (.int p4_1), .val (.int p4_2), .val (.long q4_3), .second, .val (.int v7)] [(.int (lcmpW q4_3 w_checkAt_a4_0))])) t := by
          intro t k
          show Steps p.tables e below (T56.setTop (mkF m 83 #[.val (.ref a4_0), .val (.int p4_1), .val (.int p4_2), .val (.long q4_3), .second, .val (.int v7)] [(.int (lcmpW q4_3 w_checkAt_a4_0))])) _
          refine XS.ifNo X56.here hx rfl (hb hby d4_83) rfl ((if0 _ _).trans (flt (fun q => h83_58 ((lw_lt _ _).mp q))).1) ?_
          show Steps p.tables e below (T56.setTop (mkF m 86 #[.val (.ref a4_0), .val (.int p4_1), .val (.int p4_2), .val (.long q4_3), .second, .val (.int v7)] [])) _
          refine XS.aloadN X56.here hx rfl (hb hby d4_86) rfl rfl ?_
          show Steps p.tables e below (T56.setTop (mkF m 87 #[.val (.ref a4_0), .val (.int p4_1), .val (.int p4_2), .val (.long q4_3), .second, .val (.int v7)] [(.ref a4_0)])) _
          refine X56.ldc2Long hx hown (mvT hZ (ow11 hw)) (g := (mkF m 87 #[.val (.ref a4_0), .val (.int p4_1), .val (.int p4_2), .val (.long q4_3), .second, .val (.int v7)] [(.ref a4_0)])) rfl (hb hby d4_87) _ ?_
          show Steps p.tables e below (T56.setTop (mkF m 90 #[.val (.ref a4_0), .val (.int p4_1), .val (.int p4_2), .val (.long q4_3), .second, .val (.int v7)] [(.long (9223372036854775807 : Int64)), (.ref a4_0)])) _
          refine st60 _ ?_
          show Steps p.tables e below (T60.setTop (mkF m 93 #[.val (.ref a4_0), .val (.int p4_1), .val (.int p4_2), .val (.long q4_3), .second, .val (.int v7)] [])) _
          refine XS.aloadN X60.here hx rfl (hb hby d4_93) rfl rfl ?_
          show Steps p.tables e below (T60.setTop (mkF m 94 #[.val (.ref a4_0), .val (.int p4_1), .val (.int p4_2), .val (.long q4_3), .second, .val (.int v7)] [(.ref a4_0)])) _
          refine XS.dup X60.here hx rfl (hb hby d4_94) rfl rfl ?_
          show Steps p.tables e below (T60.setTop (mkF m 95 #[.val (.ref a4_0), .val (.int p4_1), .val (.int p4_2), .val (.long q4_3), .second, .val (.int v7)] [(.ref a4_0), (.ref a4_0)])) _
          refine st62 _ ?_
          show Steps p.tables e below (T62.setTop (mkF m 98 #[.val (.ref a4_0), .val (.int p4_1), .val (.int p4_2), .val (.long q4_3), .second, .val (.int v7)] [(.int w_far_a4_0), (.ref a4_0)])) _
          refine XS.lloadN X62.here hx rfl (hb hby d4_98) rfl ?_
          show Steps p.tables e below (T62.setTop (mkF m 99 #[.val (.ref a4_0), .val (.int p4_1), .val (.int p4_2), .val (.long q4_3), .second, .val (.int v7)] [(.long q4_3), (.int w_far_a4_0), (.ref a4_0)])) _
          refine XS.aloadN X62.here hx rfl (hb hby d4_99) rfl rfl ?_
          show Steps p.tables e below (T62.setTop (mkF m 100 #[.val (.ref a4_0), .val (.int p4_1), .val (.int p4_2), .val (.long q4_3), .second, .val (.int v7)] [(.ref a4_0), (.long q4_3), (.int w_far_a4_0), (.ref a4_0)])) _
          refine st64 _ ?_
          show Steps p.tables e below (T64.setTop (mkF m 103 #[.val (.ref a4_0), .val (.int p4_1), .val (.int p4_2), .val (.long q4_3), .second, .val (.int v7)] [(.long q4_3), (.long q4_3), (.int w_far_a4_0), (.ref a4_0)])) _
          refine XS.lsub X64.here hx rfl (hb hby d4_103) rfl ?_
          show Steps p.tables e below (T64.setTop (mkF m 104 #[.val (.ref a4_0), .val (.int p4_1), .val (.int p4_2), .val (.long q4_3), .second, .val (.int v7)] [(.long (q4_3 - q4_3)), (.int w_far_a4_0), (.ref a4_0)])) _
          refine X64.ldc2Long hx hown (mvT hZ (ow67 hw)) (g := (mkF m 104 #[.val (.ref a4_0), .val (.int p4_1), .val (.int p4_2), .val (.long q4_3), .second, .val (.int v7)] [(.long (q4_3 - q4_3)), (.int w_far_a4_0), (.ref a4_0)])) rfl (hb hby d4_104) _ ?_
          show Steps p.tables e below (T64.setTop (mkF m 107 #[.val (.ref a4_0), .val (.int p4_1), .val (.int p4_2), .val (.long q4_3), .second, .val (.int v7)] [(.long (2500 : Int64)), (.long (q4_3 - q4_3)), (.int w_far_a4_0), (.ref a4_0)])) _
          refine XS.lcmp X64.here hx rfl (hb hby d4_107) rfl ?_
          exact k
        obtain ⟨v67, hv67⟩ : ∃ z : Int32, z = (if ¬ ((q4_3 - q4_3) < (2500 : Int64)) then (1 : Int32) else (0 : Int32)) := ⟨_, rfl⟩
        obtain ⟨T68, Lo68, X68, N68, e68, G68⟩ := own_join X64 N60 (h := h60) (mkF m 108 #[.val (.ref a4_0), .val (.int p4_1), .val (.int p4_2), .val (.long q4_3), .second, .val (.int v7)] [(.int (lcmpW (q4_3 - q4_3) (2500 : Int64))), (.int w_far_a4_0), (.ref a4_0)]) (mkF m 116 #[.val (.ref a4_0), .val (.int p4_1), .val (.int p4_2), .val (.long q4_3), .second, .val (.int v7)] [(.int v67), (.int w_far_a4_0), (.ref a4_0)]) (by
          by_cases h108_66 : (q4_3 - q4_3) < (2500 : Int64)
          · refine ⟨T64, _, X64, N60, e64, fun t k => ?_⟩
            rw [show v67 = (0 : Int32) from hv67.trans (if_neg (fun q => q h108_66))] at k
            show Steps p.tables e below (T64.setTop (mkF m 108 #[.val (.ref a4_0), .val (.int p4_1), .val (.int p4_2), .val (.long q4_3), .second, .val (.int v7)] [(.int (lcmpW (q4_3 - q4_3) (2500 : Int64))), (.int w_far_a4_0), (.ref a4_0)])) _
            refine XS.ifYes X64.here hx rfl (pc0 := 108) (pc' := 115) rfl (hb hby d4_108) rfl ((if0 _ _).trans (tlt ((lw_lt _ _).mpr h108_66)).1) (by decide) (by decide) ?_
            show Steps p.tables e below (T64.setTop (mkF m 115 #[.val (.ref a4_0), .val (.int p4_1), .val (.int p4_2), .val (.long q4_3), .second, .val (.int v7)] [(.int w_far_a4_0), (.ref a4_0)])) _
            refine XS.iconst X64.here hx rfl (hb hby d4_115) ?_
            exact k
          · refine ⟨T64, _, X64, N60, e64, fun t k => ?_⟩
            rw [show v67 = (1 : Int32) from hv67.trans (if_pos h108_66)] at k
            show Steps p.tables e below (T64.setTop (mkF m 108 #[.val (.ref a4_0), .val (.int p4_1), .val (.int p4_2), .val (.long q4_3), .second, .val (.int v7)] [(.int (lcmpW (q4_3 - q4_3) (2500 : Int64))), (.int w_far_a4_0), (.ref a4_0)])) _
            refine XS.ifNo X64.here hx rfl (hb hby d4_108) rfl ((if0 _ _).trans (flt (fun q => h108_66 ((lw_lt _ _).mp q))).1) ?_
            show Steps p.tables e below (T64.setTop (mkF m 111 #[.val (.ref a4_0), .val (.int p4_1), .val (.int p4_2), .val (.long q4_3), .second, .val (.int v7)] [(.int w_far_a4_0), (.ref a4_0)])) _
            refine XS.iconst X64.here hx rfl (hb hby d4_111) ?_
            show Steps p.tables e below (T64.setTop (mkF m 112 #[.val (.ref a4_0), .val (.int p4_1), .val (.int p4_2), .val (.long q4_3), .second, .val (.int v7)] [(.int (1 : Int32)), (.int w_far_a4_0), (.ref a4_0)])) _
            refine XS.goto X64.here hx rfl (pc0 := 112) (pc' := 116) rfl (hb hby d4_112) (by decide) (by decide) ?_
            exact k)
        have f69 := (f59.wr W60)
        obtain ⟨T70, h70, X70, e70, W70, st70⟩ := putFN X68 hx hZ hown (ow63 hw) Via.refl e68 f61 f69 (Or.inl (ow64 hw)) (ow1 hw) (ty := .boolean) (v' := (.int (nar .boolean (w_far_a4_0 ||| v67)))) (by decide) rfl (fits_nar_bool _) (g := (mkF m 117 #[.val (.ref a4_0), .val (.int p4_1), .val (.int p4_2), .val (.long q4_3), .second, .val (.int v7)] [(.int (w_far_a4_0 ||| v67)), (.ref a4_0)])) rfl rfl (hb hby d4_117)
        have F70 := f61.same W70
        have K70 : Keep h0 h70 [a4_0] := K60.wr W70 (Or.inl (List.mem_of_getElem? (i := 0) rfl))
        have Z70 : n0 ≤ h70.size := Nat.le_trans Z0 K70.1
        have N70 := Fr.snoc X70 N68 g_a4_0
        obtain ⟨fs, hr, hrun, hended, hW, hsame⟩ := X70.leave (v := some (.int (0 : Int32))) (fun h => by rw [Bd.returns] at h; cases h)
        refine ⟨_, _, pre0 _ ?_, hrun, hended, _, _, rfl, ?_, ⟨_, rfl⟩, hW, hsame.mono (by decide) (by decide)⟩
        · refine G2 _ ?_
          refine G8 _ ?_
          refine G9 _ ?_
          refine G49 _ ?_
          refine G57 _ ?_
          refine G65 _ ?_
          refine G68 _ ?_
          show Steps p.tables e below (T68.setTop (mkF m 116 #[.val (.ref a4_0), .val (.int p4_1), .val (.int p4_2), .val (.long q4_3), .second, .val (.int v7)] [(.int v67), (.int w_far_a4_0), (.ref a4_0)])) _
          refine XS.ior X68.here hx rfl (hb hby d4_116) rfl ?_
          show Steps p.tables e below (T68.setTop (mkF m 117 #[.val (.ref a4_0), .val (.int p4_1), .val (.int p4_2), .val (.long q4_3), .second, .val (.int v7)] [(.int (w_far_a4_0 ||| v67)), (.ref a4_0)])) _
          refine st70 _ ?_
          show Steps p.tables e below (T70.setTop (mkF m 120 #[.val (.ref a4_0), .val (.int p4_1), .val (.int p4_2), .val (.long q4_3), .second, .val (.int v7)] [])) _
          refine XS.iload X70.here hx rfl (hb hby d4_120) rfl ?_
          show Steps p.tables e below (T70.setTop (mkF m 122 #[.val (.ref a4_0), .val (.int p4_1), .val (.int p4_2), .val (.long q4_3), .second, .val (.int v7)] [(.int v7)])) _
          rw [show v7 = (0 : Int32) from hv7.trans (if_neg h30_10)]
          show Steps p.tables e below (T70.setTop (mkF m 122 #[.val (.ref a4_0), .val (.int p4_1), .val (.int p4_2), .val (.long q4_3), .second, .val (.int (0 : Int32))] [(.int (0 : Int32))])) _
          exact retN X70 hx (t := .boolean) Bd.returns (by simp) (hb hby d4_122) hr
        · have f107 := ((((F_node_a4_0.other W51 (Or.inr (slot_ne (Or.inl (ow15 hw)) (Or.inl (ow27 hw)) (by decide) (t := .int) (t' := .int) (by decide) (by decide)))).other W54 (Or.inr (slot_ne (Or.inl (ow15 hw)) (Or.inl (ow17 hw)) (by decide) (t := .int) (t' := .long) (by decide) (by decide)))).other W60 (Or.inr (slot_ne (Or.inl (ow15 hw)) (Or.inl (ow13 hw)) (by decide) (t := .int) (t' := .long) (by decide) (by decide)))).other W70 (Or.inr (slot_ne (Or.inl (ow15 hw)) (Or.inl (ow64 hw)) (by decide) (t := .int) (t' := .boolean) (by decide) (by decide))))
          have f108 := (f69.wr W70)
          have f109 := ((((F_dropped_a4_0.other W51 (Or.inr (slot_ne (Or.inl (ow10 hw)) (Or.inl (ow27 hw)) (by decide) (t := .int) (t' := .int) (by decide) (by decide)))).other W54 (Or.inr (slot_ne (Or.inl (ow10 hw)) (Or.inl (ow17 hw)) (by decide) (t := .int) (t' := .long) (by decide) (by decide)))).other W60 (Or.inr (slot_ne (Or.inl (ow10 hw)) (Or.inl (ow13 hw)) (by decide) (t := .int) (t' := .long) (by decide) (by decide)))).other W70 (Or.inr (slot_ne (Or.inl (ow10 hw)) (Or.inl (ow64 hw)) (by decide) (t := .int) (t' := .boolean) (by decide) (by decide))))
          have f110 := (((F51.other W54 (Or.inr (slot_ne (Or.inl (ow27 hw)) (Or.inl (ow17 hw)) (by decide) (t := .int) (t' := .long) (by decide) (by decide)))).other W60 (Or.inr (slot_ne (Or.inl (ow27 hw)) (Or.inl (ow13 hw)) (by decide) (t := .int) (t' := .long) (by decide) (by decide)))).other W70 (Or.inr (slot_ne (Or.inl (ow27 hw)) (Or.inl (ow64 hw)) (by decide) (t := .int) (t' := .boolean) (by decide) (by decide))))
          have f111 := ((((F_droppedBeat_a4_0.other W51 (Or.inr (slot_ne (Or.inl (ow35 hw)) (Or.inl (ow27 hw)) (by decide) (t := .int) (t' := .int) (by decide) (by decide)))).other W54 (Or.inr (slot_ne (Or.inl (ow35 hw)) (Or.inl (ow17 hw)) (by decide) (t := .int) (t' := .long) (by decide) (by decide)))).other W60 (Or.inr (slot_ne (Or.inl (ow35 hw)) (Or.inl (ow13 hw)) (by decide) (t := .int) (t' := .long) (by decide) (by decide)))).other W70 (Or.inr (slot_ne (Or.inl (ow35 hw)) (Or.inl (ow64 hw)) (by decide) (t := .int) (t' := .boolean) (by decide) (by decide))))
          have f112 := ((((F_since_a4_0.other W51 (Or.inr (slot_ne (Or.inl (ow19 hw)) (Or.inl (ow27 hw)) (by decide) (t := .long) (t' := .int) (by decide) (by decide)))).other W54 (Or.inr (slot_ne (Or.inl (ow19 hw)) (Or.inl (ow17 hw)) (by decide) (t := .long) (t' := .long) (by decide) (by decide)))).other W60 (Or.inr (slot_ne (Or.inl (ow19 hw)) (Or.inl (ow13 hw)) (by decide) (t := .long) (t' := .long) (by decide) (by decide)))).other W70 (Or.inr (slot_ne (Or.inl (ow19 hw)) (Or.inl (ow64 hw)) (by decide) (t := .long) (t' := .boolean) (by decide) (by decide))))
          have f113 := (f63.other W70 (Or.inr (slot_ne (Or.inl (ow17 hw)) (Or.inl (ow64 hw)) (by decide) (t := .long) (t' := .boolean) (by decide) (by decide))))
          have f114 := (F60.other W70 (Or.inr (slot_ne (Or.inl (ow13 hw)) (Or.inl (ow64 hw)) (by decide) (t := .long) (t' := .boolean) (by decide) (by decide))))
          show Q_rm4 Z a4_0 p4_1 p4_2 q4_3 w_node_a4_0 w_raisedAt_a4_0 w_dropped_a4_0 w_beat_a4_0 w_droppedBeat_a4_0 w_since_a4_0 w_checkAt_a4_0 w_far_a4_0 h0 n0 _ T70.heap _
          rw [e70]
          subst hv67
          subst hv7
          exact ⟨(congrArg (fun z => some (Value.int z)) (if_neg h30_10).symm), N70, K70, (own_fld f107 (congrArg Value.int (if_neg h30_10))), f108, (own_fld f109 (congrArg Value.int (if_neg h30_10))), (own_fld f110 (congrArg Value.int ((if_neg h30_10).trans (if_pos h64_50)))), (own_fld f111 (congrArg Value.int (if_neg h30_10))), (own_fld f112 (congrArg Value.long (if_neg h30_10))), (own_fld f113 (congrArg Value.long ((if_neg h30_10).trans (if_pos h64_50)))), (own_fld f114 (congrArg Value.long (if_neg h83_58))), (own_fld F70 (congrArg Value.int ((if_neg h30_10).trans ((if_pos h64_50).trans (if_neg h83_58)))))⟩
    · obtain ⟨T71, X71, e71, st71⟩ := getF X48 hx hZ hown (host := "") (Or.inl (ow12 hw)) Via.refl e48 F_checkAt_a4_0 (g := (mkF m 79 #[.val (.ref a4_0), .val (.int p4_1), .val (.int p4_2), .val (.long q4_3), .second, .val (.int v7)] [(.ref a4_0), (.long q4_3)])) rfl rfl (hb hby d4_79)
      have G72 : ∀ t, Steps p.tables e below (T71.setTop (mkF m 83 #[.val (.ref a4_0), .val (.int p4_1), .val (.int p4_2), .val (.long q4_3), .second, .val (.int v7)] [(.int (lcmpW q4_3 w_checkAt_a4_0))])) t → Steps p.tables e below (T48.setTop (mkF m 64 #[.val (.ref a4_0), .val (.int p4_1), .val (.int p4_2), .val (.long q4_3), .second, .val (.int v7)] [(.int p4_1), (.int w_node_a4_0)])) t := by
        intro t k
        show Steps p.tables e below (T48.setTop (mkF m 64 #[.val (.ref a4_0), .val (.int p4_1), .val (.int p4_2), .val (.long q4_3), .second, .val (.int v7)] [(.int p4_1), (.int w_node_a4_0)])) _
        refine XS.icmpYes X48.here hx rfl (pc0 := 64) (pc' := 77) rfl (hb hby d4_64) rfl (feq h64_50).2 (by decide) (by decide) ?_
        show Steps p.tables e below (T48.setTop (mkF m 77 #[.val (.ref a4_0), .val (.int p4_1), .val (.int p4_2), .val (.long q4_3), .second, .val (.int v7)] [])) _
        refine XS.lloadN X48.here hx rfl (hb hby d4_77) rfl ?_
        show Steps p.tables e below (T48.setTop (mkF m 78 #[.val (.ref a4_0), .val (.int p4_1), .val (.int p4_2), .val (.long q4_3), .second, .val (.int v7)] [(.long q4_3)])) _
        refine XS.aloadN X48.here hx rfl (hb hby d4_78) rfl rfl ?_
        show Steps p.tables e below (T48.setTop (mkF m 79 #[.val (.ref a4_0), .val (.int p4_1), .val (.int p4_2), .val (.long q4_3), .second, .val (.int v7)] [(.ref a4_0), (.long q4_3)])) _
        refine st71 _ ?_
        show Steps p.tables e below (T71.setTop (mkF m 82 #[.val (.ref a4_0), .val (.int p4_1), .val (.int p4_2), .val (.long q4_3), .second, .val (.int v7)] [(.long w_checkAt_a4_0), (.long q4_3)])) _
        refine XS.lcmp X71.here hx rfl (hb hby d4_82) rfl ?_
        exact k
      by_cases h83_73 : q4_3 < w_checkAt_a4_0
      · obtain ⟨fs, hr, hrun, hended, hW, hsame⟩ := X71.leave (v := some (.int (0 : Int32))) (fun h => by rw [Bd.returns] at h; cases h)
        refine ⟨_, _, pre0 _ ?_, hrun, hended, _, _, rfl, ?_, ⟨_, rfl⟩, hW, hsame.mono (by decide) (by decide)⟩
        · refine G2 _ ?_
          refine G8 _ ?_
          refine G9 _ ?_
          refine G49 _ ?_
          refine G72 _ ?_
          show Steps p.tables e below (T71.setTop (mkF m 83 #[.val (.ref a4_0), .val (.int p4_1), .val (.int p4_2), .val (.long q4_3), .second, .val (.int v7)] [(.int (lcmpW q4_3 w_checkAt_a4_0))])) _
          refine XS.ifYes X71.here hx rfl (pc0 := 83) (pc' := 120) rfl (hb hby d4_83) rfl ((if0 _ _).trans (tlt ((lw_lt _ _).mpr h83_73)).1) (by decide) (by decide) ?_
          show Steps p.tables e below (T71.setTop (mkF m 120 #[.val (.ref a4_0), .val (.int p4_1), .val (.int p4_2), .val (.long q4_3), .second, .val (.int v7)] [])) _
          refine XS.iload X71.here hx rfl (hb hby d4_120) rfl ?_
          show Steps p.tables e below (T71.setTop (mkF m 122 #[.val (.ref a4_0), .val (.int p4_1), .val (.int p4_2), .val (.long q4_3), .second, .val (.int v7)] [(.int v7)])) _
          rw [show v7 = (0 : Int32) from hv7.trans (if_neg h30_10)]
          show Steps p.tables e below (T71.setTop (mkF m 122 #[.val (.ref a4_0), .val (.int p4_1), .val (.int p4_2), .val (.long q4_3), .second, .val (.int (0 : Int32))] [(.int (0 : Int32))])) _
          exact retN X71 hx (t := .boolean) Bd.returns (by simp) (hb hby d4_122) hr
        · show Q_rm4 Z a4_0 p4_1 p4_2 q4_3 w_node_a4_0 w_raisedAt_a4_0 w_dropped_a4_0 w_beat_a4_0 w_droppedBeat_a4_0 w_since_a4_0 w_checkAt_a4_0 w_far_a4_0 h0 n0 _ T71.heap _
          rw [e71]
          subst hv7
          exact ⟨(congrArg (fun z => some (Value.int z)) (if_neg h30_10).symm), N8, (Keep.refl h0 [a4_0]), (own_fld F_node_a4_0 (congrArg Value.int (if_neg h30_10))), E_a4_0, (own_fld F_dropped_a4_0 (congrArg Value.int (if_neg h30_10))), (own_fld F_beat_a4_0 (congrArg Value.int ((if_neg h30_10).trans (if_neg h64_50)))), (own_fld F_droppedBeat_a4_0 (congrArg Value.int (if_neg h30_10))), (own_fld F_since_a4_0 (congrArg Value.long (if_neg h30_10))), (own_fld F_raisedAt_a4_0 (congrArg Value.long ((if_neg h30_10).trans (if_neg h64_50)))), (own_fld F_checkAt_a4_0 (congrArg Value.long (if_pos h83_73))), (own_fld F_far_a4_0 (congrArg Value.int ((if_neg h30_10).trans ((if_neg h64_50).trans (if_pos h83_73)))))⟩
      · obtain ⟨T74, h74, X74, e74, W74, st74⟩ := putF X71 hx hZ hown (host := "") (Or.inl (ow12 hw)) Via.refl e71 F_checkAt_a4_0 E_a4_0 (Or.inl (ow13 hw)) (ow1 hw) (ty := .long) (by decide) rfl rfl (g := (mkF m 90 #[.val (.ref a4_0), .val (.int p4_1), .val (.int p4_2), .val (.long q4_3), .second, .val (.int v7)] [(.long (9223372036854775807 : Int64)), (.ref a4_0)])) rfl rfl (hb hby d4_90)
        have F74 := F_checkAt_a4_0.same W74
        have K74 : Keep h0 h74 [a4_0] := (Keep.refl h0 [a4_0]).wr W74 (Or.inl (List.mem_of_getElem? (i := 0) rfl))
        have Z74 : n0 ≤ h74.size := Nat.le_trans Z0 K74.1
        have N74 := Fr.snoc X74 N8 g_a4_0
        have f75 := (F_far_a4_0.other W74 (Or.inr (slot_ne (Or.inl (ow64 hw)) (Or.inl (ow13 hw)) (by decide) (t := .boolean) (t' := .long) (by decide) (by decide))))
        obtain ⟨T76, X76, e76, st76⟩ := getF X74 hx hZ hown (host := "") (Or.inl (ow63 hw)) Via.refl e74 f75 (g := (mkF m 95 #[.val (.ref a4_0), .val (.int p4_1), .val (.int p4_2), .val (.long q4_3), .second, .val (.int v7)] [(.ref a4_0), (.ref a4_0)])) rfl rfl (hb hby d4_95)
        have f77 := (F_raisedAt_a4_0.other W74 (Or.inr (slot_ne (Or.inl (ow17 hw)) (Or.inl (ow13 hw)) (by decide) (t := .long) (t' := .long) (by decide) (by decide))))
        obtain ⟨T78, X78, e78, st78⟩ := getF X76 hx hZ hown (host := "") (Or.inl (ow16 hw)) Via.refl e76 f77 (g := (mkF m 100 #[.val (.ref a4_0), .val (.int p4_1), .val (.int p4_2), .val (.long q4_3), .second, .val (.int v7)] [(.ref a4_0), (.long q4_3), (.int w_far_a4_0), (.ref a4_0)])) rfl rfl (hb hby d4_100)
        have G79 : ∀ t, Steps p.tables e below (T78.setTop (mkF m 108 #[.val (.ref a4_0), .val (.int p4_1), .val (.int p4_2), .val (.long q4_3), .second, .val (.int v7)] [(.int (lcmpW (q4_3 - w_raisedAt_a4_0) (2500 : Int64))), (.int w_far_a4_0), (.ref a4_0)])) t → Steps p.tables e below (T71.setTop (mkF m 83 #[.val (.ref a4_0), .val (.int p4_1), .val (.int p4_2), .val (.long q4_3), .second, .val (.int v7)] [(.int (lcmpW q4_3 w_checkAt_a4_0))])) t := by
          intro t k
          show Steps p.tables e below (T71.setTop (mkF m 83 #[.val (.ref a4_0), .val (.int p4_1), .val (.int p4_2), .val (.long q4_3), .second, .val (.int v7)] [(.int (lcmpW q4_3 w_checkAt_a4_0))])) _
          refine XS.ifNo X71.here hx rfl (hb hby d4_83) rfl ((if0 _ _).trans (flt (fun q => h83_73 ((lw_lt _ _).mp q))).1) ?_
          show Steps p.tables e below (T71.setTop (mkF m 86 #[.val (.ref a4_0), .val (.int p4_1), .val (.int p4_2), .val (.long q4_3), .second, .val (.int v7)] [])) _
          refine XS.aloadN X71.here hx rfl (hb hby d4_86) rfl rfl ?_
          show Steps p.tables e below (T71.setTop (mkF m 87 #[.val (.ref a4_0), .val (.int p4_1), .val (.int p4_2), .val (.long q4_3), .second, .val (.int v7)] [(.ref a4_0)])) _
          refine X71.ldc2Long hx hown (mvT hZ (ow11 hw)) (g := (mkF m 87 #[.val (.ref a4_0), .val (.int p4_1), .val (.int p4_2), .val (.long q4_3), .second, .val (.int v7)] [(.ref a4_0)])) rfl (hb hby d4_87) _ ?_
          show Steps p.tables e below (T71.setTop (mkF m 90 #[.val (.ref a4_0), .val (.int p4_1), .val (.int p4_2), .val (.long q4_3), .second, .val (.int v7)] [(.long (9223372036854775807 : Int64)), (.ref a4_0)])) _
          refine st74 _ ?_
          show Steps p.tables e below (T74.setTop (mkF m 93 #[.val (.ref a4_0), .val (.int p4_1), .val (.int p4_2), .val (.long q4_3), .second, .val (.int v7)] [])) _
          refine XS.aloadN X74.here hx rfl (hb hby d4_93) rfl rfl ?_
          show Steps p.tables e below (T74.setTop (mkF m 94 #[.val (.ref a4_0), .val (.int p4_1), .val (.int p4_2), .val (.long q4_3), .second, .val (.int v7)] [(.ref a4_0)])) _
          refine XS.dup X74.here hx rfl (hb hby d4_94) rfl rfl ?_
          show Steps p.tables e below (T74.setTop (mkF m 95 #[.val (.ref a4_0), .val (.int p4_1), .val (.int p4_2), .val (.long q4_3), .second, .val (.int v7)] [(.ref a4_0), (.ref a4_0)])) _
          refine st76 _ ?_
          show Steps p.tables e below (T76.setTop (mkF m 98 #[.val (.ref a4_0), .val (.int p4_1), .val (.int p4_2), .val (.long q4_3), .second, .val (.int v7)] [(.int w_far_a4_0), (.ref a4_0)])) _
          refine XS.lloadN X76.here hx rfl (hb hby d4_98) rfl ?_
          show Steps p.tables e below (T76.setTop (mkF m 99 #[.val (.ref a4_0), .val (.int p4_1), .val (.int p4_2), .val (.long q4_3), .second, .val (.int v7)] [(.long q4_3), (.int w_far_a4_0), (.ref a4_0)])) _
          refine XS.aloadN X76.here hx rfl (hb hby d4_99) rfl rfl ?_
          show Steps p.tables e below (T76.setTop (mkF m 100 #[.val (.ref a4_0), .val (.int p4_1), .val (.int p4_2), .val (.long q4_3), .second, .val (.int v7)] [(.ref a4_0), (.long q4_3), (.int w_far_a4_0), (.ref a4_0)])) _
          refine st78 _ ?_
          show Steps p.tables e below (T78.setTop (mkF m 103 #[.val (.ref a4_0), .val (.int p4_1), .val (.int p4_2), .val (.long q4_3), .second, .val (.int v7)] [(.long w_raisedAt_a4_0), (.long q4_3), (.int w_far_a4_0), (.ref a4_0)])) _
          refine XS.lsub X78.here hx rfl (hb hby d4_103) rfl ?_
          show Steps p.tables e below (T78.setTop (mkF m 104 #[.val (.ref a4_0), .val (.int p4_1), .val (.int p4_2), .val (.long q4_3), .second, .val (.int v7)] [(.long (q4_3 - w_raisedAt_a4_0)), (.int w_far_a4_0), (.ref a4_0)])) _
          refine X78.ldc2Long hx hown (mvT hZ (ow67 hw)) (g := (mkF m 104 #[.val (.ref a4_0), .val (.int p4_1), .val (.int p4_2), .val (.long q4_3), .second, .val (.int v7)] [(.long (q4_3 - w_raisedAt_a4_0)), (.int w_far_a4_0), (.ref a4_0)])) rfl (hb hby d4_104) _ ?_
          show Steps p.tables e below (T78.setTop (mkF m 107 #[.val (.ref a4_0), .val (.int p4_1), .val (.int p4_2), .val (.long q4_3), .second, .val (.int v7)] [(.long (2500 : Int64)), (.long (q4_3 - w_raisedAt_a4_0)), (.int w_far_a4_0), (.ref a4_0)])) _
          refine XS.lcmp X78.here hx rfl (hb hby d4_107) rfl ?_
          exact k
        obtain ⟨v81, hv81⟩ : ∃ z : Int32, z = (if ¬ ((q4_3 - w_raisedAt_a4_0) < (2500 : Int64)) then (1 : Int32) else (0 : Int32)) := ⟨_, rfl⟩
        obtain ⟨T82, Lo82, X82, N82, e82, G82⟩ := own_join X78 N74 (h := h74) (mkF m 108 #[.val (.ref a4_0), .val (.int p4_1), .val (.int p4_2), .val (.long q4_3), .second, .val (.int v7)] [(.int (lcmpW (q4_3 - w_raisedAt_a4_0) (2500 : Int64))), (.int w_far_a4_0), (.ref a4_0)]) (mkF m 116 #[.val (.ref a4_0), .val (.int p4_1), .val (.int p4_2), .val (.long q4_3), .second, .val (.int v7)] [(.int v81), (.int w_far_a4_0), (.ref a4_0)]) (by
          by_cases h108_80 : (q4_3 - w_raisedAt_a4_0) < (2500 : Int64)
          · refine ⟨T78, _, X78, N74, e78, fun t k => ?_⟩
            rw [show v81 = (0 : Int32) from hv81.trans (if_neg (fun q => q h108_80))] at k
            show Steps p.tables e below (T78.setTop (mkF m 108 #[.val (.ref a4_0), .val (.int p4_1), .val (.int p4_2), .val (.long q4_3), .second, .val (.int v7)] [(.int (lcmpW (q4_3 - w_raisedAt_a4_0) (2500 : Int64))), (.int w_far_a4_0), (.ref a4_0)])) _
            refine XS.ifYes X78.here hx rfl (pc0 := 108) (pc' := 115) rfl (hb hby d4_108) rfl ((if0 _ _).trans (tlt ((lw_lt _ _).mpr h108_80)).1) (by decide) (by decide) ?_
            show Steps p.tables e below (T78.setTop (mkF m 115 #[.val (.ref a4_0), .val (.int p4_1), .val (.int p4_2), .val (.long q4_3), .second, .val (.int v7)] [(.int w_far_a4_0), (.ref a4_0)])) _
            refine XS.iconst X78.here hx rfl (hb hby d4_115) ?_
            exact k
          · refine ⟨T78, _, X78, N74, e78, fun t k => ?_⟩
            rw [show v81 = (1 : Int32) from hv81.trans (if_pos h108_80)] at k
            show Steps p.tables e below (T78.setTop (mkF m 108 #[.val (.ref a4_0), .val (.int p4_1), .val (.int p4_2), .val (.long q4_3), .second, .val (.int v7)] [(.int (lcmpW (q4_3 - w_raisedAt_a4_0) (2500 : Int64))), (.int w_far_a4_0), (.ref a4_0)])) _
            refine XS.ifNo X78.here hx rfl (hb hby d4_108) rfl ((if0 _ _).trans (flt (fun q => h108_80 ((lw_lt _ _).mp q))).1) ?_
            show Steps p.tables e below (T78.setTop (mkF m 111 #[.val (.ref a4_0), .val (.int p4_1), .val (.int p4_2), .val (.long q4_3), .second, .val (.int v7)] [(.int w_far_a4_0), (.ref a4_0)])) _
            refine XS.iconst X78.here hx rfl (hb hby d4_111) ?_
            show Steps p.tables e below (T78.setTop (mkF m 112 #[.val (.ref a4_0), .val (.int p4_1), .val (.int p4_2), .val (.long q4_3), .second, .val (.int v7)] [(.int (1 : Int32)), (.int w_far_a4_0), (.ref a4_0)])) _
            refine XS.goto X78.here hx rfl (pc0 := 112) (pc' := 116) rfl (hb hby d4_112) (by decide) (by decide) ?_
            exact k)
        have f83 := (E_a4_0.wr W74)
        obtain ⟨T84, h84, X84, e84, W84, st84⟩ := putFN X82 hx hZ hown (ow63 hw) Via.refl e82 f75 f83 (Or.inl (ow64 hw)) (ow1 hw) (ty := .boolean) (v' := (.int (nar .boolean (w_far_a4_0 ||| v81)))) (by decide) rfl (fits_nar_bool _) (g := (mkF m 117 #[.val (.ref a4_0), .val (.int p4_1), .val (.int p4_2), .val (.long q4_3), .second, .val (.int v7)] [(.int (w_far_a4_0 ||| v81)), (.ref a4_0)])) rfl rfl (hb hby d4_117)
        have F84 := f75.same W84
        have K84 : Keep h0 h84 [a4_0] := K74.wr W84 (Or.inl (List.mem_of_getElem? (i := 0) rfl))
        have Z84 : n0 ≤ h84.size := Nat.le_trans Z0 K84.1
        have N84 := Fr.snoc X84 N82 g_a4_0
        obtain ⟨fs, hr, hrun, hended, hW, hsame⟩ := X84.leave (v := some (.int (0 : Int32))) (fun h => by rw [Bd.returns] at h; cases h)
        refine ⟨_, _, pre0 _ ?_, hrun, hended, _, _, rfl, ?_, ⟨_, rfl⟩, hW, hsame.mono (by decide) (by decide)⟩
        · refine G2 _ ?_
          refine G8 _ ?_
          refine G9 _ ?_
          refine G49 _ ?_
          refine G72 _ ?_
          refine G79 _ ?_
          refine G82 _ ?_
          show Steps p.tables e below (T82.setTop (mkF m 116 #[.val (.ref a4_0), .val (.int p4_1), .val (.int p4_2), .val (.long q4_3), .second, .val (.int v7)] [(.int v81), (.int w_far_a4_0), (.ref a4_0)])) _
          refine XS.ior X82.here hx rfl (hb hby d4_116) rfl ?_
          show Steps p.tables e below (T82.setTop (mkF m 117 #[.val (.ref a4_0), .val (.int p4_1), .val (.int p4_2), .val (.long q4_3), .second, .val (.int v7)] [(.int (w_far_a4_0 ||| v81)), (.ref a4_0)])) _
          refine st84 _ ?_
          show Steps p.tables e below (T84.setTop (mkF m 120 #[.val (.ref a4_0), .val (.int p4_1), .val (.int p4_2), .val (.long q4_3), .second, .val (.int v7)] [])) _
          refine XS.iload X84.here hx rfl (hb hby d4_120) rfl ?_
          show Steps p.tables e below (T84.setTop (mkF m 122 #[.val (.ref a4_0), .val (.int p4_1), .val (.int p4_2), .val (.long q4_3), .second, .val (.int v7)] [(.int v7)])) _
          rw [show v7 = (0 : Int32) from hv7.trans (if_neg h30_10)]
          show Steps p.tables e below (T84.setTop (mkF m 122 #[.val (.ref a4_0), .val (.int p4_1), .val (.int p4_2), .val (.long q4_3), .second, .val (.int (0 : Int32))] [(.int (0 : Int32))])) _
          exact retN X84 hx (t := .boolean) Bd.returns (by simp) (hb hby d4_122) hr
        · have f115 := ((F_node_a4_0.other W74 (Or.inr (slot_ne (Or.inl (ow15 hw)) (Or.inl (ow13 hw)) (by decide) (t := .int) (t' := .long) (by decide) (by decide)))).other W84 (Or.inr (slot_ne (Or.inl (ow15 hw)) (Or.inl (ow64 hw)) (by decide) (t := .int) (t' := .boolean) (by decide) (by decide))))
          have f116 := (f83.wr W84)
          have f117 := ((F_dropped_a4_0.other W74 (Or.inr (slot_ne (Or.inl (ow10 hw)) (Or.inl (ow13 hw)) (by decide) (t := .int) (t' := .long) (by decide) (by decide)))).other W84 (Or.inr (slot_ne (Or.inl (ow10 hw)) (Or.inl (ow64 hw)) (by decide) (t := .int) (t' := .boolean) (by decide) (by decide))))
          have f118 := ((F_beat_a4_0.other W74 (Or.inr (slot_ne (Or.inl (ow27 hw)) (Or.inl (ow13 hw)) (by decide) (t := .int) (t' := .long) (by decide) (by decide)))).other W84 (Or.inr (slot_ne (Or.inl (ow27 hw)) (Or.inl (ow64 hw)) (by decide) (t := .int) (t' := .boolean) (by decide) (by decide))))
          have f119 := ((F_droppedBeat_a4_0.other W74 (Or.inr (slot_ne (Or.inl (ow35 hw)) (Or.inl (ow13 hw)) (by decide) (t := .int) (t' := .long) (by decide) (by decide)))).other W84 (Or.inr (slot_ne (Or.inl (ow35 hw)) (Or.inl (ow64 hw)) (by decide) (t := .int) (t' := .boolean) (by decide) (by decide))))
          have f120 := ((F_since_a4_0.other W74 (Or.inr (slot_ne (Or.inl (ow19 hw)) (Or.inl (ow13 hw)) (by decide) (t := .long) (t' := .long) (by decide) (by decide)))).other W84 (Or.inr (slot_ne (Or.inl (ow19 hw)) (Or.inl (ow64 hw)) (by decide) (t := .long) (t' := .boolean) (by decide) (by decide))))
          have f121 := (f77.other W84 (Or.inr (slot_ne (Or.inl (ow17 hw)) (Or.inl (ow64 hw)) (by decide) (t := .long) (t' := .boolean) (by decide) (by decide))))
          have f122 := (F74.other W84 (Or.inr (slot_ne (Or.inl (ow13 hw)) (Or.inl (ow64 hw)) (by decide) (t := .long) (t' := .boolean) (by decide) (by decide))))
          show Q_rm4 Z a4_0 p4_1 p4_2 q4_3 w_node_a4_0 w_raisedAt_a4_0 w_dropped_a4_0 w_beat_a4_0 w_droppedBeat_a4_0 w_since_a4_0 w_checkAt_a4_0 w_far_a4_0 h0 n0 _ T84.heap _
          rw [e84]
          subst hv81
          subst hv7
          exact ⟨(congrArg (fun z => some (Value.int z)) (if_neg h30_10).symm), N84, K84, (own_fld f115 (congrArg Value.int (if_neg h30_10))), f116, (own_fld f117 (congrArg Value.int (if_neg h30_10))), (own_fld f118 (congrArg Value.int ((if_neg h30_10).trans (if_neg h64_50)))), (own_fld f119 (congrArg Value.int (if_neg h30_10))), (own_fld f120 (congrArg Value.long (if_neg h30_10))), (own_fld f121 (congrArg Value.long ((if_neg h30_10).trans (if_neg h64_50)))), (own_fld f122 (congrArg Value.long (if_neg h83_73))), (own_fld F84 (congrArg Value.int ((if_neg h30_10).trans ((if_neg h64_50).trans (if_neg h83_73)))))⟩
theorem d5_0 : decode prog_81_method_2_code 0 = .ok (.aload_n 0, 1) := by decide +kernel
theorem d5_1 : decode prog_81_method_2_code 1 = .ok (.getfield 21, 3) := by decide +kernel
theorem d5_4 : decode prog_81_method_2_code 4 = .ok (.ireturn, 1) := by decide +kernel
theorem pn_5 : plainName "com/example/halozat/halozat/node/Leader" = true := by first | (simp [plainName, overriddenIn]; done) | decide +kernel
theorem ef_rm5 (m : MethodId) (y0 : Addr) : entryFrame m #[(.ref y0)] 1 = mkF m 0 #[.val (.ref y0)] [] := by first | (simp [entryFrame, mkF, argsToLocals, Value.category]; done) | rfl
def Q_rm5 (Z : State) (a5_0 : Addr) (w_node_a5_0 : Int32) (h0 : Heap) (n0 : Nat) (v : Option Value) (h : Heap) (L : List Loc) : Prop := v = some (.int w_node_a5_0) ∧ Fr n0 L ∧ h = h0
set_option maxRecDepth 65536 in
set_option maxHeartbeats 40000000 in
theorem rm5 (l : Launch) (Z : State) (a0 : Array Value) (hw : ∀ d ∈ tables_1, d.before a0 Z = true) (ws : List Jvm.Cond) (a5_0 : Addr) (w_node_a5_0 : Int32) (h0 : Heap) (n0 : Nat) (Z0 : n0 ≤ h0.size) (F_node_a5_0 : Fld Z h0 a5_0 "com/example/halozat/halozat/node/Leader" "node" "I" (.int w_node_a5_0)) :
    MetFree l (⟨"com/example/halozat/halozat/node/Leader", "node", "()I"⟩ : MethodName) (head1 (Jvm.Cond.code (⟨"com/example/halozat/halozat/node/Leader", "node", "()I"⟩ : MethodName) prog_81_method_2_code 1 (some .int) :: ws) ({ frames := 0, cells := 0, slots := 0, locals := 0 } : Room)) (fun a U => a = #[(.ref a5_0)] ∧ Z.Warmed39 U.vm ∧ U.heap = h0) (fun _ _ _ _ _ => True) (fun _ U o U' => ∃ v L, o = .returned v ∧ Q_rm5 Z a5_0 w_node_a5_0 h0 n0 v U'.heap L ∧ FrameEnd U o U' L ({ frames := 0, cells := 0, slots := 0, locals := 0 } : Room).cells ({ frames := 0, cells := 0, slots := 0, locals := 0 } : Room).slots) := by
  refine MetFree.of_bodySF (plainFor_of_name pn_5) hisR ?_
  intro p e s m args below meth c s₁ Bd hml0 hP hK
  obtain ⟨rfl, hZ, hh⟩ := hP
  have hx := Bd.exec
  have hby := Bd.bytes
  have hml : c.maxLocals = 1 := hml0
  have hown : s.vm.findClass "com/example/halozat/halozat/node/Leader" = some m.cls := findClass_of_methodNamed Bd.named
  have hnm := (name_of_methodNamed Bd.named Bd.method).1
  have X0 : Stand p l e ({ frames := 0, cells := 0, slots := 0, locals := 0 } : Room) s m #[(.ref a5_0)] below meth c s₁ [] 0 0 := Stand.of_body Bd
  have e0 : s₁.heap = h0 := by rw [← hh, Bd.state]; rfl
  have N0 := Fr.nil n0
  have pre0 : ∀ t, Steps p.tables e below (s₁.setTop (mkF m 0 #[.val (.ref a5_0)] [])) t → Steps p.tables e below (s₁.setTop (entryFrame m #[(.ref a5_0)] 1)) t := fun t k => castTop (ef_rm5 m a5_0) k
  obtain ⟨T1, X1, e1, st1⟩ := getF X0 hx hZ hown (host := "") (Or.inl (ow14 hw)) Via.refl e0 F_node_a5_0 (g := (mkF m 1 #[.val (.ref a5_0)] [(.ref a5_0)])) rfl rfl (hb hby d5_1)
  obtain ⟨fs, hr, hrun, hended, hW, hsame⟩ := X1.leave (v := some (.int w_node_a5_0)) (fun h => by rw [Bd.returns] at h; cases h)
  refine ⟨_, _, pre0 _ ?_, hrun, hended, _, _, rfl, ?_, ⟨_, rfl⟩, hW, hsame.mono (by decide) (by decide)⟩
  · show Steps p.tables e below (s₁.setTop (mkF m 0 #[.val (.ref a5_0)] [])) _
    refine XS.aloadN X0.here hx rfl (hb hby d5_0) rfl rfl ?_
    show Steps p.tables e below (s₁.setTop (mkF m 1 #[.val (.ref a5_0)] [(.ref a5_0)])) _
    refine st1 _ ?_
    show Steps p.tables e below (T1.setTop (mkF m 4 #[.val (.ref a5_0)] [(.int w_node_a5_0)])) _
    exact retI X1 hx Bd.returns (hb hby d5_4) hr
  · show Q_rm5 Z a5_0 w_node_a5_0 h0 n0 _ T1.heap _
    rw [e1]
    exact ⟨rfl, N0, rfl⟩
theorem d6_0 : decode prog_81_method_3_code 0 = .ok (.aload_n 0, 1) := by decide +kernel
theorem d6_1 : decode prog_81_method_3_code 1 = .ok (.getfield 30, 3) := by decide +kernel
theorem d6_4 : decode prog_81_method_3_code 4 = .ok (.ireturn, 1) := by decide +kernel
theorem pn_6 : plainName "com/example/halozat/halozat/node/Leader" = true := by first | (simp [plainName, overriddenIn]; done) | decide +kernel
theorem ef_rm6 (m : MethodId) (y0 : Addr) : entryFrame m #[(.ref y0)] 1 = mkF m 0 #[.val (.ref y0)] [] := by first | (simp [entryFrame, mkF, argsToLocals, Value.category]; done) | rfl
def Q_rm6 (Z : State) (a6_0 : Addr) (w_beat_a6_0 : Int32) (h0 : Heap) (n0 : Nat) (v : Option Value) (h : Heap) (L : List Loc) : Prop := v = some (.int w_beat_a6_0) ∧ Fr n0 L ∧ h = h0
set_option maxRecDepth 65536 in
set_option maxHeartbeats 40000000 in
theorem rm6 (l : Launch) (Z : State) (a0 : Array Value) (hw : ∀ d ∈ tables_1, d.before a0 Z = true) (ws : List Jvm.Cond) (a6_0 : Addr) (w_beat_a6_0 : Int32) (h0 : Heap) (n0 : Nat) (Z0 : n0 ≤ h0.size) (F_beat_a6_0 : Fld Z h0 a6_0 "com/example/halozat/halozat/node/Leader" "beat" "I" (.int w_beat_a6_0)) :
    MetFree l (⟨"com/example/halozat/halozat/node/Leader", "beat", "()I"⟩ : MethodName) (head1 (Jvm.Cond.code (⟨"com/example/halozat/halozat/node/Leader", "beat", "()I"⟩ : MethodName) prog_81_method_3_code 1 (some .int) :: ws) ({ frames := 0, cells := 0, slots := 0, locals := 0 } : Room)) (fun a U => a = #[(.ref a6_0)] ∧ Z.Warmed39 U.vm ∧ U.heap = h0) (fun _ _ _ _ _ => True) (fun _ U o U' => ∃ v L, o = .returned v ∧ Q_rm6 Z a6_0 w_beat_a6_0 h0 n0 v U'.heap L ∧ FrameEnd U o U' L ({ frames := 0, cells := 0, slots := 0, locals := 0 } : Room).cells ({ frames := 0, cells := 0, slots := 0, locals := 0 } : Room).slots) := by
  refine MetFree.of_bodySF (plainFor_of_name pn_6) hisR ?_
  intro p e s m args below meth c s₁ Bd hml0 hP hK
  obtain ⟨rfl, hZ, hh⟩ := hP
  have hx := Bd.exec
  have hby := Bd.bytes
  have hml : c.maxLocals = 1 := hml0
  have hown : s.vm.findClass "com/example/halozat/halozat/node/Leader" = some m.cls := findClass_of_methodNamed Bd.named
  have hnm := (name_of_methodNamed Bd.named Bd.method).1
  have X0 : Stand p l e ({ frames := 0, cells := 0, slots := 0, locals := 0 } : Room) s m #[(.ref a6_0)] below meth c s₁ [] 0 0 := Stand.of_body Bd
  have e0 : s₁.heap = h0 := by rw [← hh, Bd.state]; rfl
  have N0 := Fr.nil n0
  have pre0 : ∀ t, Steps p.tables e below (s₁.setTop (mkF m 0 #[.val (.ref a6_0)] [])) t → Steps p.tables e below (s₁.setTop (entryFrame m #[(.ref a6_0)] 1)) t := fun t k => castTop (ef_rm6 m a6_0) k
  obtain ⟨T1, X1, e1, st1⟩ := getF X0 hx hZ hown (host := "") (Or.inl (ow26 hw)) Via.refl e0 F_beat_a6_0 (g := (mkF m 1 #[.val (.ref a6_0)] [(.ref a6_0)])) rfl rfl (hb hby d6_1)
  obtain ⟨fs, hr, hrun, hended, hW, hsame⟩ := X1.leave (v := some (.int w_beat_a6_0)) (fun h => by rw [Bd.returns] at h; cases h)
  refine ⟨_, _, pre0 _ ?_, hrun, hended, _, _, rfl, ?_, ⟨_, rfl⟩, hW, hsame.mono (by decide) (by decide)⟩
  · show Steps p.tables e below (s₁.setTop (mkF m 0 #[.val (.ref a6_0)] [])) _
    refine XS.aloadN X0.here hx rfl (hb hby d6_0) rfl rfl ?_
    show Steps p.tables e below (s₁.setTop (mkF m 1 #[.val (.ref a6_0)] [(.ref a6_0)])) _
    refine st1 _ ?_
    show Steps p.tables e below (T1.setTop (mkF m 4 #[.val (.ref a6_0)] [(.int w_beat_a6_0)])) _
    exact retI X1 hx Bd.returns (hb hby d6_4) hr
  · show Q_rm6 Z a6_0 w_beat_a6_0 h0 n0 _ T1.heap _
    rw [e1]
    exact ⟨rfl, N0, rfl⟩
theorem d7_0 : decode prog_81_method_4_code 0 = .ok (.lload_n 1, 1) := by decide +kernel
theorem d7_1 : decode prog_81_method_4_code 1 = .ok (.aload_n 0, 1) := by decide +kernel
theorem d7_2 : decode prog_81_method_4_code 2 = .ok (.getfield 24, 3) := by decide +kernel
theorem d7_5 : decode prog_81_method_4_code 5 = .ok (.lsub, 1) := by decide +kernel
theorem d7_6 : decode prog_81_method_4_code 6 = .ok (.lreturn, 1) := by decide +kernel
theorem pn_7 : plainName "com/example/halozat/halozat/node/Leader" = true := by first | (simp [plainName, overriddenIn]; done) | decide +kernel
theorem ef_rm7 (m : MethodId) (y0 : Addr) (y1 : Int64) : entryFrame m #[(.ref y0), (.long y1)] 3 = mkF m 0 #[.val (.ref y0), .val (.long y1), .second] [] := by first | (simp [entryFrame, mkF, argsToLocals, Value.category]; done) | rfl
def Q_rm7 (Z : State) (a7_0 : Addr) (q7_1 : Int64) (w_raisedAt_a7_0 : Int64) (h0 : Heap) (n0 : Nat) (v : Option Value) (h : Heap) (L : List Loc) : Prop := v = some (.long (q7_1 - w_raisedAt_a7_0)) ∧ Fr n0 L ∧ h = h0
set_option maxRecDepth 65536 in
set_option maxHeartbeats 40000000 in
theorem rm7 (l : Launch) (Z : State) (a0 : Array Value) (hw : ∀ d ∈ tables_1, d.before a0 Z = true) (ws : List Jvm.Cond) (a7_0 : Addr) (q7_1 : Int64) (w_raisedAt_a7_0 : Int64) (h0 : Heap) (n0 : Nat) (Z0 : n0 ≤ h0.size) (F_raisedAt_a7_0 : Fld Z h0 a7_0 "com/example/halozat/halozat/node/Leader" "raisedAt" "J" (.long w_raisedAt_a7_0)) :
    MetFree l (⟨"com/example/halozat/halozat/node/Leader", "age", "(J)J"⟩ : MethodName) (head1 (Jvm.Cond.code (⟨"com/example/halozat/halozat/node/Leader", "age", "(J)J"⟩ : MethodName) prog_81_method_4_code 3 (some .long) :: ws) ({ frames := 0, cells := 0, slots := 0, locals := 0 } : Room)) (fun a U => a = #[(.ref a7_0), (.long q7_1)] ∧ Z.Warmed39 U.vm ∧ U.heap = h0) (fun _ _ _ _ _ => True) (fun _ U o U' => ∃ v L, o = .returned v ∧ Q_rm7 Z a7_0 q7_1 w_raisedAt_a7_0 h0 n0 v U'.heap L ∧ FrameEnd U o U' L ({ frames := 0, cells := 0, slots := 0, locals := 0 } : Room).cells ({ frames := 0, cells := 0, slots := 0, locals := 0 } : Room).slots) := by
  refine MetFree.of_bodySF (plainFor_of_name pn_7) hisR ?_
  intro p e s m args below meth c s₁ Bd hml0 hP hK
  obtain ⟨rfl, hZ, hh⟩ := hP
  have hx := Bd.exec
  have hby := Bd.bytes
  have hml : c.maxLocals = 3 := hml0
  have hown : s.vm.findClass "com/example/halozat/halozat/node/Leader" = some m.cls := findClass_of_methodNamed Bd.named
  have hnm := (name_of_methodNamed Bd.named Bd.method).1
  have X0 : Stand p l e ({ frames := 0, cells := 0, slots := 0, locals := 0 } : Room) s m #[(.ref a7_0), (.long q7_1)] below meth c s₁ [] 0 0 := Stand.of_body Bd
  have e0 : s₁.heap = h0 := by rw [← hh, Bd.state]; rfl
  have N0 := Fr.nil n0
  have pre0 : ∀ t, Steps p.tables e below (s₁.setTop (mkF m 0 #[.val (.ref a7_0), .val (.long q7_1), .second] [])) t → Steps p.tables e below (s₁.setTop (entryFrame m #[(.ref a7_0), (.long q7_1)] 3)) t := fun t k => castTop (ef_rm7 m a7_0 q7_1) k
  obtain ⟨T1, X1, e1, st1⟩ := getF X0 hx hZ hown (host := "") (Or.inl (ow16 hw)) Via.refl e0 F_raisedAt_a7_0 (g := (mkF m 2 #[.val (.ref a7_0), .val (.long q7_1), .second] [(.ref a7_0), (.long q7_1)])) rfl rfl (hb hby d7_2)
  obtain ⟨fs, hr, hrun, hended, hW, hsame⟩ := X1.leave (v := some (.long (q7_1 - w_raisedAt_a7_0))) (fun h => by rw [Bd.returns] at h; cases h)
  refine ⟨_, _, pre0 _ ?_, hrun, hended, _, _, rfl, ?_, ⟨_, rfl⟩, hW, hsame.mono (by decide) (by decide)⟩
  · show Steps p.tables e below (s₁.setTop (mkF m 0 #[.val (.ref a7_0), .val (.long q7_1), .second] [])) _
    refine XS.lloadN X0.here hx rfl (hb hby d7_0) rfl ?_
    show Steps p.tables e below (s₁.setTop (mkF m 1 #[.val (.ref a7_0), .val (.long q7_1), .second] [(.long q7_1)])) _
    refine XS.aloadN X0.here hx rfl (hb hby d7_1) rfl rfl ?_
    show Steps p.tables e below (s₁.setTop (mkF m 2 #[.val (.ref a7_0), .val (.long q7_1), .second] [(.ref a7_0), (.long q7_1)])) _
    refine st1 _ ?_
    show Steps p.tables e below (T1.setTop (mkF m 5 #[.val (.ref a7_0), .val (.long q7_1), .second] [(.long w_raisedAt_a7_0), (.long q7_1)])) _
    refine XS.lsub X1.here hx rfl (hb hby d7_5) rfl ?_
    show Steps p.tables e below (T1.setTop (mkF m 6 #[.val (.ref a7_0), .val (.long q7_1), .second] [(.long (q7_1 - w_raisedAt_a7_0))])) _
    jvm_step X1.here [X1.here.top, hx, (hb hby d7_6), X1.method', Bd.returns, narrow]
    first | (intro acts; rw [hr _ acts rfl rfl rfl]) | rw [hr _ _ rfl rfl rfl]
    exact Steps.refl _
  · show Q_rm7 Z a7_0 q7_1 w_raisedAt_a7_0 h0 n0 _ T1.heap _
    rw [e1]
    exact ⟨rfl, N0, rfl⟩
theorem d8_0 : decode prog_81_method_5_code 0 = .ok (.aload_n 0, 1) := by decide +kernel
theorem d8_1 : decode prog_81_method_5_code 1 = .ok (.getfield 27, 3) := by decide +kernel
theorem d8_4 : decode prog_81_method_5_code 4 = .ok (.lreturn, 1) := by decide +kernel
theorem pn_8 : plainName "com/example/halozat/halozat/node/Leader" = true := by first | (simp [plainName, overriddenIn]; done) | decide +kernel
theorem ef_rm8 (m : MethodId) (y0 : Addr) : entryFrame m #[(.ref y0)] 1 = mkF m 0 #[.val (.ref y0)] [] := by first | (simp [entryFrame, mkF, argsToLocals, Value.category]; done) | rfl
def Q_rm8 (Z : State) (a8_0 : Addr) (w_since_a8_0 : Int64) (h0 : Heap) (n0 : Nat) (v : Option Value) (h : Heap) (L : List Loc) : Prop := v = some (.long w_since_a8_0) ∧ Fr n0 L ∧ h = h0
set_option maxRecDepth 65536 in
set_option maxHeartbeats 40000000 in
theorem rm8 (l : Launch) (Z : State) (a0 : Array Value) (hw : ∀ d ∈ tables_1, d.before a0 Z = true) (ws : List Jvm.Cond) (a8_0 : Addr) (w_since_a8_0 : Int64) (h0 : Heap) (n0 : Nat) (Z0 : n0 ≤ h0.size) (F_since_a8_0 : Fld Z h0 a8_0 "com/example/halozat/halozat/node/Leader" "since" "J" (.long w_since_a8_0)) :
    MetFree l (⟨"com/example/halozat/halozat/node/Leader", "since", "()J"⟩ : MethodName) (head1 (Jvm.Cond.code (⟨"com/example/halozat/halozat/node/Leader", "since", "()J"⟩ : MethodName) prog_81_method_5_code 1 (some .long) :: ws) ({ frames := 0, cells := 0, slots := 0, locals := 0 } : Room)) (fun a U => a = #[(.ref a8_0)] ∧ Z.Warmed39 U.vm ∧ U.heap = h0) (fun _ _ _ _ _ => True) (fun _ U o U' => ∃ v L, o = .returned v ∧ Q_rm8 Z a8_0 w_since_a8_0 h0 n0 v U'.heap L ∧ FrameEnd U o U' L ({ frames := 0, cells := 0, slots := 0, locals := 0 } : Room).cells ({ frames := 0, cells := 0, slots := 0, locals := 0 } : Room).slots) := by
  refine MetFree.of_bodySF (plainFor_of_name pn_8) hisR ?_
  intro p e s m args below meth c s₁ Bd hml0 hP hK
  obtain ⟨rfl, hZ, hh⟩ := hP
  have hx := Bd.exec
  have hby := Bd.bytes
  have hml : c.maxLocals = 1 := hml0
  have hown : s.vm.findClass "com/example/halozat/halozat/node/Leader" = some m.cls := findClass_of_methodNamed Bd.named
  have hnm := (name_of_methodNamed Bd.named Bd.method).1
  have X0 : Stand p l e ({ frames := 0, cells := 0, slots := 0, locals := 0 } : Room) s m #[(.ref a8_0)] below meth c s₁ [] 0 0 := Stand.of_body Bd
  have e0 : s₁.heap = h0 := by rw [← hh, Bd.state]; rfl
  have N0 := Fr.nil n0
  have pre0 : ∀ t, Steps p.tables e below (s₁.setTop (mkF m 0 #[.val (.ref a8_0)] [])) t → Steps p.tables e below (s₁.setTop (entryFrame m #[(.ref a8_0)] 1)) t := fun t k => castTop (ef_rm8 m a8_0) k
  obtain ⟨T1, X1, e1, st1⟩ := getF X0 hx hZ hown (host := "") (Or.inl (ow18 hw)) Via.refl e0 F_since_a8_0 (g := (mkF m 1 #[.val (.ref a8_0)] [(.ref a8_0)])) rfl rfl (hb hby d8_1)
  obtain ⟨fs, hr, hrun, hended, hW, hsame⟩ := X1.leave (v := some (.long w_since_a8_0)) (fun h => by rw [Bd.returns] at h; cases h)
  refine ⟨_, _, pre0 _ ?_, hrun, hended, _, _, rfl, ?_, ⟨_, rfl⟩, hW, hsame.mono (by decide) (by decide)⟩
  · show Steps p.tables e below (s₁.setTop (mkF m 0 #[.val (.ref a8_0)] [])) _
    refine XS.aloadN X0.here hx rfl (hb hby d8_0) rfl rfl ?_
    show Steps p.tables e below (s₁.setTop (mkF m 1 #[.val (.ref a8_0)] [(.ref a8_0)])) _
    refine st1 _ ?_
    show Steps p.tables e below (T1.setTop (mkF m 4 #[.val (.ref a8_0)] [(.long w_since_a8_0)])) _
    jvm_step X1.here [X1.here.top, hx, (hb hby d8_4), X1.method', Bd.returns, narrow]
    first | (intro acts; rw [hr _ acts rfl rfl rfl]) | rw [hr _ _ rfl rfl rfl]
    exact Steps.refl _
  · show Q_rm8 Z a8_0 w_since_a8_0 h0 n0 _ T1.heap _
    rw [e1]
    exact ⟨rfl, N0, rfl⟩
theorem d9_0 : decode prog_81_method_6_code 0 = .ok (.aload_n 0, 1) := by decide +kernel
theorem d9_1 : decode prog_81_method_6_code 1 = .ok (.getfield 33, 3) := by decide +kernel
theorem d9_4 : decode prog_81_method_6_code 4 = .ok (.ireturn, 1) := by decide +kernel
theorem pn_9 : plainName "com/example/halozat/halozat/node/Leader" = true := by first | (simp [plainName, overriddenIn]; done) | decide +kernel
theorem ef_rm9 (m : MethodId) (y0 : Addr) : entryFrame m #[(.ref y0)] 1 = mkF m 0 #[.val (.ref y0)] [] := by first | (simp [entryFrame, mkF, argsToLocals, Value.category]; done) | rfl
def Q_rm9 (Z : State) (a9_0 : Addr) (w_far_a9_0 : Int32) (h0 : Heap) (n0 : Nat) (v : Option Value) (h : Heap) (L : List Loc) : Prop := v = some (.int (nar .boolean w_far_a9_0)) ∧ Fr n0 L ∧ h = h0
set_option maxRecDepth 65536 in
set_option maxHeartbeats 40000000 in
theorem rm9 (l : Launch) (Z : State) (a0 : Array Value) (hw : ∀ d ∈ tables_1, d.before a0 Z = true) (ws : List Jvm.Cond) (a9_0 : Addr) (w_far_a9_0 : Int32) (h0 : Heap) (n0 : Nat) (Z0 : n0 ≤ h0.size) (F_far_a9_0 : Fld Z h0 a9_0 "com/example/halozat/halozat/node/Leader" "far" "Z" (.int w_far_a9_0)) :
    MetFree l (⟨"com/example/halozat/halozat/node/Leader", "far", "()Z"⟩ : MethodName) (head1 (Jvm.Cond.code (⟨"com/example/halozat/halozat/node/Leader", "far", "()Z"⟩ : MethodName) prog_81_method_6_code 1 (some .boolean) :: ws) ({ frames := 0, cells := 0, slots := 0, locals := 0 } : Room)) (fun a U => a = #[(.ref a9_0)] ∧ Z.Warmed39 U.vm ∧ U.heap = h0) (fun _ _ _ _ _ => True) (fun _ U o U' => ∃ v L, o = .returned v ∧ Q_rm9 Z a9_0 w_far_a9_0 h0 n0 v U'.heap L ∧ FrameEnd U o U' L ({ frames := 0, cells := 0, slots := 0, locals := 0 } : Room).cells ({ frames := 0, cells := 0, slots := 0, locals := 0 } : Room).slots) := by
  refine MetFree.of_bodySF (plainFor_of_name pn_9) hisR ?_
  intro p e s m args below meth c s₁ Bd hml0 hP hK
  obtain ⟨rfl, hZ, hh⟩ := hP
  have hx := Bd.exec
  have hby := Bd.bytes
  have hml : c.maxLocals = 1 := hml0
  have hown : s.vm.findClass "com/example/halozat/halozat/node/Leader" = some m.cls := findClass_of_methodNamed Bd.named
  have hnm := (name_of_methodNamed Bd.named Bd.method).1
  have X0 : Stand p l e ({ frames := 0, cells := 0, slots := 0, locals := 0 } : Room) s m #[(.ref a9_0)] below meth c s₁ [] 0 0 := Stand.of_body Bd
  have e0 : s₁.heap = h0 := by rw [← hh, Bd.state]; rfl
  have N0 := Fr.nil n0
  have pre0 : ∀ t, Steps p.tables e below (s₁.setTop (mkF m 0 #[.val (.ref a9_0)] [])) t → Steps p.tables e below (s₁.setTop (entryFrame m #[(.ref a9_0)] 1)) t := fun t k => castTop (ef_rm9 m a9_0) k
  obtain ⟨T1, X1, e1, st1⟩ := getF X0 hx hZ hown (host := "") (Or.inl (ow63 hw)) Via.refl e0 F_far_a9_0 (g := (mkF m 1 #[.val (.ref a9_0)] [(.ref a9_0)])) rfl rfl (hb hby d9_1)
  obtain ⟨fs, hr, hrun, hended, hW, hsame⟩ := X1.leave (v := some (.int (nar .boolean w_far_a9_0))) (fun h => by rw [Bd.returns] at h; cases h)
  refine ⟨_, _, pre0 _ ?_, hrun, hended, _, _, rfl, ?_, ⟨_, rfl⟩, hW, hsame.mono (by decide) (by decide)⟩
  · show Steps p.tables e below (s₁.setTop (mkF m 0 #[.val (.ref a9_0)] [])) _
    refine XS.aloadN X0.here hx rfl (hb hby d9_0) rfl rfl ?_
    show Steps p.tables e below (s₁.setTop (mkF m 1 #[.val (.ref a9_0)] [(.ref a9_0)])) _
    refine st1 _ ?_
    show Steps p.tables e below (T1.setTop (mkF m 4 #[.val (.ref a9_0)] [(.int w_far_a9_0)])) _
    exact retN X1 hx (t := .boolean) Bd.returns (by simp) (hb hby d9_4) hr
  · show Q_rm9 Z a9_0 w_far_a9_0 h0 n0 _ T1.heap _
    rw [e1]
    exact ⟨rfl, N0, rfl⟩
theorem own_nx (x : Int32) : ¬ x = x + (1 : Int32) := by
  intro e
  have := congrArg (fun z => -x + z) e
  simp only [← Int32.add_assoc, Int32.add_left_neg, Int32.zero_add] at this
  exact absurd this (by decide)
theorem own_nn {A B : Prop} [Decidable A] [Decidable B] : ¬ (A ∧ ¬ B) ↔ (¬ A ∨ B) := by
  by_cases a : A <;> by_cases b : B <;> simp [a, b]
theorem own_max {t : Int64} (h : ¬ t = (9223372036854775807 : Int64)) : t < (9223372036854775807 : Int64) := by
  rw [Int64.lt_iff_toInt_lt, show (9223372036854775807 : Int64).toInt = 9223372036854775807 from by decide]
  have r := rng64 t
  have : t.toInt ≠ 9223372036854775807 := fun q => h (Int64.toInt_inj.mp (by rw [q]; decide))
  omega
/-- what 'far' holds in the end -/
theorem own_far (T : Prop) [Decidable T] (t2 rE : Int64) (n : Int32) (f : Int32) (hf : f = 0) (cA : Int64) (hc : cA = if T then t2 else (9223372036854775807 : Int64)) :
    nar .boolean (if (¬ (n = (n + (1 : Int32))) ∧ ¬ ((t2 - rE) < (5000 : Int64))) then (if t2 < cA then f else (nar .boolean (f ||| (if ¬ ((t2 - t2) < (2500 : Int64)) then (1 : Int32) else (0 : Int32))))) else (if n = (n + (1 : Int32)) then (if t2 < cA then f else (nar .boolean (f ||| (if ¬ ((t2 - t2) < (2500 : Int64)) then (1 : Int32) else (0 : Int32))))) else (if t2 < cA then f else (nar .boolean (f ||| (if ¬ ((t2 - rE) < (2500 : Int64)) then (1 : Int32) else (0 : Int32))))))) =
    (if ((T ∧ (¬ (¬ ((t2 - rE) < (5000 : Int64))) ∧ ¬ ((t2 - rE) < (2500 : Int64)))) ∨ (¬ (T) ∧ (t2 = (9223372036854775807 : Int64) ∧ (¬ (¬ ((t2 - rE) < (5000 : Int64))) ∧ ¬ ((t2 - rE) < (2500 : Int64)))))) then (1 : Int32) else (0 : Int32)) := by
  subst hf
  have n1 := own_nx n
  have z0 : (t2 - t2) < (2500 : Int64) := by rw [Int64.sub_self]; decide
  have w0 : nar .boolean (0 : Int32) = 0 := rfl
  have w1 : nar .boolean (1 : Int32) = 1 := rfl
  have o0 : (0 : Int32) ||| (0 : Int32) = 0 := rfl
  have o1 : (0 : Int32) ||| (1 : Int32) = 1 := rfl
  have key : ∀ (X : Int32), (if t2 < cA then (0 : Int32) else X) = (if (T ∨ t2 = (9223372036854775807 : Int64)) then X else 0) := by
    intro X
    by_cases t : T
    · rw [hc, if_pos t, if_neg Int64.lt_irrefl, if_pos (Or.inl t)]
    · by_cases q : t2 = (9223372036854775807 : Int64)
      · rw [hc, if_neg t, if_pos (Or.inr q), if_neg (by rw [q]; exact Int64.lt_irrefl)]
      · rw [hc, if_neg t, if_pos (own_max q), if_neg (fun r => r.elim t q)]
  simp only [key, n1, z0, not_true_eq_false, not_false_eq_true, true_and, if_false, if_true, o0, w0, ite_self]
  have r : ((T ∧ (¬ (¬ ((t2 - rE) < (5000 : Int64))) ∧ ¬ ((t2 - rE) < (2500 : Int64)))) ∨ (¬ (T) ∧ (t2 = (9223372036854775807 : Int64) ∧ (¬ (¬ ((t2 - rE) < (5000 : Int64))) ∧ ¬ ((t2 - rE) < (2500 : Int64)))))) ↔ ((T ∨ t2 = (9223372036854775807 : Int64)) ∧ ((t2 - rE) < (5000 : Int64) ∧ ¬ ((t2 - rE) < (2500 : Int64)))) := by
    rw [Classical.not_not]
    by_cases t : T
    · exact ⟨fun q => q.elim (fun q => ⟨Or.inl t, q.2⟩) (fun q => absurd t q.1), fun q => Or.inl ⟨t, q.2⟩⟩
    · exact ⟨fun q => q.elim (fun q => absurd q.1 t) (fun q => ⟨Or.inr q.2.1, q.2.2⟩), fun q => Or.inr ⟨t, q.1.elim (fun u => absurd u t) id, q.2⟩⟩
  refine Eq.trans ?_ (own_ifc (jd := inferInstance) r rfl rfl).symm
  by_cases c : (T ∨ t2 = (9223372036854775807 : Int64)) <;> by_cases g : (t2 - rE) < (5000 : Int64) <;> by_cases d : (t2 - rE) < (2500 : Int64) <;> simp [c, g, d, w0, w1]
theorem pd__IJ_V : parseMethodDescriptor "(IJ)V" = some ⟨[.int, .long], none⟩ := by decide +kernel
theorem pd__IIJJ_Z : parseMethodDescriptor "(IIJJ)Z" = some ⟨[.int, .int, .long, .long], some .boolean⟩ := by decide +kernel
theorem pd__IIJ_Z : parseMethodDescriptor "(IIJ)Z" = some ⟨[.int, .int, .long], some .boolean⟩ := by decide +kernel
theorem pd___I : parseMethodDescriptor "()I" = some ⟨[], some .int⟩ := by decide +kernel
theorem pd__J_J : parseMethodDescriptor "(J)J" = some ⟨[.long], some .long⟩ := by decide +kernel
theorem pd___J : parseMethodDescriptor "()J" = some ⟨[], some .long⟩ := by decide +kernel
theorem pd___Z : parseMethodDescriptor "()Z" = some ⟨[], some .boolean⟩ := by decide +kernel
theorem own_fin1 (p0_0 : Int32) (p0_1 : Int32) (p0_2 : Int32) (q0_3 : Int64) (q0_4 : Int64) (p0_5 : Int32) (v4 : Int32) (hv4 : v4 = (if ¬ ((p0_5 &&& (1 : Int32)) = (0 : Int32)) then (1 : Int32) else (0 : Int32))) (x7 : Int32) (hx7 : x7 = (p0_2 + (((p0_5 >>> ((1 : Int32) &&& 31)) &&& (3 : Int32)) - (1 : Int32)))) (v11 : Int32) (hv11 : v11 = (if (0 : Int32) < x7 then x7 else (0 : Int32))) (v16 : Int32) (hv16 : v16 = (if ¬ ((p0_5 &&& (1 : Int32)) = (0 : Int32)) then p0_1 else p0_0)) (y23 : Int32) (hy23 : y23 = (if ((0 : Int64) < (5000 : Int64) ∧ (v16 < v16 ∧ ¬ ((v16 = (-1 : Int32) ∧ ¬ ((0 : Int32) < x7))))) then v16 else (if (v16 = v16 ∧ (0 : Int32) < x7) then v16 else v16))) (y24 : Int32) (hy24 : y24 = (if ((0 : Int64) < (5000 : Int64) ∧ (v16 < v16 ∧ ¬ ((v16 = (-1 : Int32) ∧ ¬ ((0 : Int32) < x7))))) then x7 else (if (v16 = v16 ∧ (0 : Int32) < x7) then x7 else (0 : Int32)))) (y25 : Int64) (hy25 : y25 = (if ((0 : Int64) < (5000 : Int64) ∧ (v16 < v16 ∧ ¬ ((v16 = (-1 : Int32) ∧ ¬ ((0 : Int32) < x7))))) then ((0 : Int64) - (0 : Int64)) else (if (v16 = v16 ∧ (0 : Int32) < x7) then ((0 : Int64) - (0 : Int64)) else (0 : Int64)))) (y26 : Int64) (hy26 : y26 = (if ((0 : Int64) < (5000 : Int64) ∧ (v16 < v16 ∧ ¬ ((v16 = (-1 : Int32) ∧ ¬ ((0 : Int32) < x7))))) then (0 : Int64) else (0 : Int64))) (y27 : Int64) (hy27 : y27 = (if ((0 : Int64) < (5000 : Int64) ∧ (v16 < v16 ∧ ¬ ((v16 = (-1 : Int32) ∧ ¬ ((0 : Int32) < x7))))) then ((0 : Int64) + (1000 : Int64)) else (9223372036854775807 : Int64))) (x28 : Int32) (hx28 : x28 = (if ((0 : Int64) < (5000 : Int64) ∧ (v16 < v16 ∧ ¬ ((v16 = (-1 : Int32) ∧ ¬ ((0 : Int32) < x7))))) then (1 : Int32) else (0 : Int32))) (y32 : Int32) (hy32 : y32 = (if (¬ (y23 = p0_0) ∧ ¬ (((5000 : Int64) - y25) < (5000 : Int64))) then p0_0 else y23)) (y33 : Int32) (hy33 : y33 = (if (¬ (y23 = p0_0) ∧ ¬ (((5000 : Int64) - y25) < (5000 : Int64))) then y23 else (-1 : Int32))) (y34 : Int32) (hy34 : y34 = (if (¬ (y23 = p0_0) ∧ ¬ (((5000 : Int64) - y25) < (5000 : Int64))) then (7 : Int32) else (if y23 = p0_0 then (7 : Int32) else y24))) (y35 : Int32) (hy35 : y35 = (if (¬ (y23 = p0_0) ∧ ¬ (((5000 : Int64) - y25) < (5000 : Int64))) then y24 else (0 : Int32))) (y36 : Int64) (hy36 : y36 = (if (¬ (y23 = p0_0) ∧ ¬ (((5000 : Int64) - y25) < (5000 : Int64))) then (5000 : Int64) else y26)) (y37 : Int64) (hy37 : y37 = (if (¬ (y23 = p0_0) ∧ ¬ (((5000 : Int64) - y25) < (5000 : Int64))) then (5000 : Int64) else (if y23 = p0_0 then (5000 : Int64) else y25))) (y38 : Int64) (hy38 : y38 = (if (5000 : Int64) < y27 then y27 else (9223372036854775807 : Int64))) (y39 : Int32) (hy39 : y39 = (if (¬ (y23 = p0_0) ∧ ¬ (((5000 : Int64) - y25) < (5000 : Int64))) then (if (5000 : Int64) < y27 then (0 : Int32) else (nar .boolean ((0 : Int32) ||| (if ¬ (((5000 : Int64) - (5000 : Int64)) < (2500 : Int64)) then (1 : Int32) else (0 : Int32))))) else (if y23 = p0_0 then (if (5000 : Int64) < y27 then (0 : Int32) else (nar .boolean ((0 : Int32) ||| (if ¬ (((5000 : Int64) - (5000 : Int64)) < (2500 : Int64)) then (1 : Int32) else (0 : Int32))))) else (if (5000 : Int64) < y27 then (0 : Int32) else (nar .boolean ((0 : Int32) ||| (if ¬ (((5000 : Int64) - y25) < (2500 : Int64)) then (1 : Int32) else (0 : Int32)))))))) (x40 : Int32) (hx40 : x40 = (if (¬ (y23 = p0_0) ∧ ¬ (((5000 : Int64) - y25) < (5000 : Int64))) then (1 : Int32) else (0 : Int32))) (v43 : Int32) (hv43 : v43 = (if q0_3 < (5000 : Int64) then (1 : Int32) else (0 : Int32))) (v50 : Int64) (hv50 : v50 = (if p0_1 = p0_0 then (0 : Int64) else (5000 : Int64))) (v59 : Int32) (hv59 : v59 = (if (q0_3 < (5000 : Int64) ∧ (p0_1 < p0_0 ∧ v11 < p0_2)) then (1 : Int32) else (0 : Int32))) (v66 : Int32) (hv66 : v66 = (if (p0_1 = p0_0 ∧ (7 : Int32) < p0_2) then (1 : Int32) else (0 : Int32))) (v73 : Int32) (hv73 : v73 = (if ((q0_3 < (5000 : Int64) ∧ (p0_1 < p0_0 ∧ v11 < p0_2)) ∨ (p0_1 = p0_0 ∧ (7 : Int32) < p0_2)) then (1 : Int32) else (0 : Int32))) (v78 : Int32) (hv78 : v78 = (if ((q0_3 < (5000 : Int64) ∧ (p0_1 < p0_0 ∧ v11 < p0_2)) ∨ (p0_1 = p0_0 ∧ (7 : Int32) < p0_2)) then p0_1 else p0_0)) (v83 : Int32) (hv83 : v83 = (if ((q0_3 < (5000 : Int64) ∧ (p0_1 < p0_0 ∧ v11 < p0_2)) ∨ (p0_1 = p0_0 ∧ (7 : Int32) < p0_2)) then p0_2 else (7 : Int32))) (v88 : Int64) (hv88 : v88 = (if ((q0_3 < (5000 : Int64) ∧ (p0_1 < p0_0 ∧ v11 < p0_2)) ∨ (p0_1 = p0_0 ∧ (7 : Int32) < p0_2)) then (q0_4 - q0_3) else (5000 : Int64))) (v93 : Int64) (hv93 : v93 = (if (q0_3 < (5000 : Int64) ∧ (p0_1 < p0_0 ∧ v11 < p0_2)) then q0_4 else v50)) (y97 : Int32) (hy97 : y97 = (if (q0_3 < (5000 : Int64) ∧ (p0_1 < y32 ∧ ¬ ((p0_1 = y33 ∧ ¬ (y35 < p0_2))))) then p0_1 else (if (p0_1 = y32 ∧ y34 < p0_2) then p0_1 else y32))) (y98 : Int32) (hy98 : y98 = (if (q0_3 < (5000 : Int64) ∧ (p0_1 < y32 ∧ ¬ ((p0_1 = y33 ∧ ¬ (y35 < p0_2))))) then p0_2 else (if (p0_1 = y32 ∧ y34 < p0_2) then p0_2 else y34))) (y99 : Int64) (hy99 : y99 = (if (q0_3 < (5000 : Int64) ∧ (p0_1 < y32 ∧ ¬ ((p0_1 = y33 ∧ ¬ (y35 < p0_2))))) then (q0_4 - q0_3) else (if (p0_1 = y32 ∧ y34 < p0_2) then (q0_4 - q0_3) else y37))) (y100 : Int64) (hy100 : y100 = (if (q0_3 < (5000 : Int64) ∧ (p0_1 < y32 ∧ ¬ ((p0_1 = y33 ∧ ¬ (y35 < p0_2))))) then q0_4 else y36)) (y101 : Int64) (hy101 : y101 = (if (q0_3 < (5000 : Int64) ∧ (p0_1 < y32 ∧ ¬ ((p0_1 = y33 ∧ ¬ (y35 < p0_2))))) then (q0_4 + (1000 : Int64)) else y38)) (x102 : Int32) (hx102 : x102 = (if (q0_3 < (5000 : Int64) ∧ (p0_1 < y32 ∧ ¬ ((p0_1 = y33 ∧ ¬ (y35 < p0_2))))) then (1 : Int32) else (0 : Int32))) (v118 : Int32) (hv118 : v118 = (if (x102 = v59 ∧ (y97 = v78 ∧ (y98 = v83 ∧ ((q0_4 - y99) = (q0_4 - v88) ∧ y100 = v93)))) then (1 : Int32) else (0 : Int32))) (v125 : Int32) (hv125 : v125 = (if ¬ (((q0_4 + (1000 : Int64)) - v88) < (5000 : Int64)) then (1 : Int32) else (0 : Int32))) (v140 : Int32) (hv140 : v140 = (if (((q0_3 < (5000 : Int64) ∧ (p0_1 < p0_0 ∧ v11 < p0_2)) ∧ (¬ (¬ (((q0_4 + (1000 : Int64)) - v88) < (5000 : Int64))) ∧ ¬ (((q0_4 + (1000 : Int64)) - v88) < (2500 : Int64)))) ∨ (¬ ((q0_3 < (5000 : Int64) ∧ (p0_1 < p0_0 ∧ v11 < p0_2))) ∧ ((q0_4 + (1000 : Int64)) = (9223372036854775807 : Int64) ∧ (¬ (¬ (((q0_4 + (1000 : Int64)) - v88) < (5000 : Int64))) ∧ ¬ (((q0_4 + (1000 : Int64)) - v88) < (2500 : Int64)))))) then (1 : Int32) else (0 : Int32))) (y144 : Int32) (hy144 : y144 = (if (¬ (y97 = (v78 + (1 : Int32))) ∧ ¬ (((q0_4 + (1000 : Int64)) - y99) < (5000 : Int64))) then (v78 + (1 : Int32)) else y97)) (y145 : Int32) (hy145 : y145 = (if (¬ (y97 = (v78 + (1 : Int32))) ∧ ¬ (((q0_4 + (1000 : Int64)) - y99) < (5000 : Int64))) then y97 else y33)) (y146 : Int32) (hy146 : y146 = (if (¬ (y97 = (v78 + (1 : Int32))) ∧ ¬ (((q0_4 + (1000 : Int64)) - y99) < (5000 : Int64))) then (3 : Int32) else (if y97 = (v78 + (1 : Int32)) then (3 : Int32) else y98))) (y147 : Int32) (hy147 : y147 = (if (¬ (y97 = (v78 + (1 : Int32))) ∧ ¬ (((q0_4 + (1000 : Int64)) - y99) < (5000 : Int64))) then y98 else y35)) (y148 : Int64) (hy148 : y148 = (if (¬ (y97 = (v78 + (1 : Int32))) ∧ ¬ (((q0_4 + (1000 : Int64)) - y99) < (5000 : Int64))) then (q0_4 + (1000 : Int64)) else y100)) (y149 : Int64) (hy149 : y149 = (if (¬ (y97 = (v78 + (1 : Int32))) ∧ ¬ (((q0_4 + (1000 : Int64)) - y99) < (5000 : Int64))) then (q0_4 + (1000 : Int64)) else (if y97 = (v78 + (1 : Int32)) then (q0_4 + (1000 : Int64)) else y99))) (y150 : Int64) (hy150 : y150 = (if (q0_4 + (1000 : Int64)) < y101 then y101 else (9223372036854775807 : Int64))) (y151 : Int32) (hy151 : y151 = (if (¬ (y97 = (v78 + (1 : Int32))) ∧ ¬ (((q0_4 + (1000 : Int64)) - y99) < (5000 : Int64))) then (if (q0_4 + (1000 : Int64)) < y101 then y39 else (nar .boolean (y39 ||| (if ¬ (((q0_4 + (1000 : Int64)) - (q0_4 + (1000 : Int64))) < (2500 : Int64)) then (1 : Int32) else (0 : Int32))))) else (if y97 = (v78 + (1 : Int32)) then (if (q0_4 + (1000 : Int64)) < y101 then y39 else (nar .boolean (y39 ||| (if ¬ (((q0_4 + (1000 : Int64)) - (q0_4 + (1000 : Int64))) < (2500 : Int64)) then (1 : Int32) else (0 : Int32))))) else (if (q0_4 + (1000 : Int64)) < y101 then y39 else (nar .boolean (y39 ||| (if ¬ (((q0_4 + (1000 : Int64)) - y99) < (2500 : Int64)) then (1 : Int32) else (0 : Int32)))))))) (x152 : Int32) (hx152 : x152 = (if (¬ (y97 = (v78 + (1 : Int32))) ∧ ¬ (((q0_4 + (1000 : Int64)) - y99) < (5000 : Int64))) then (1 : Int32) else (0 : Int32))) (v161 : Int32) (hv161 : v161 = (if ((x102 = v59 ∧ (y97 = v78 ∧ (y98 = v83 ∧ ((q0_4 - y99) = (q0_4 - v88) ∧ y100 = v93)))) ∧ (x152 = v125 ∧ (nar .boolean y151) = v140)) then (1 : Int32) else (0 : Int32))) (h77_30 : ¬ ((p0_5 &&& (1 : Int32)) = (0 : Int32))) : v161 = (1 : Int32) := by
  have l0 : ¬ v16 < v16 := Int32.lt_irrefl
  have eb : v16 = p0_1 := by rw [hv16]; exact if_pos h77_30
  have nc : ¬ ((0 : Int64) < (5000 : Int64) ∧ (v16 < v16 ∧ ¬ ((v16 = (-1 : Int32) ∧ ¬ ((0 : Int32) < x7))))) := fun q => l0 q.2.1
  have n1 : y23 = p0_1 := by rw [hy23, if_neg nc]; simp only [ite_self]; exact eb
  have b1 : y24 = v11 := by
    rw [hy24, if_neg nc, hv11]
    by_cases h : (0 : Int32) < x7
    · rw [if_pos ⟨rfl, h⟩, if_pos h]
    · rw [if_neg (fun q => h q.2), if_neg h]
  have r1 : y25 = (0 : Int64) := by
    rw [hy25, if_neg nc]
    split <;> decide
  have s1 : y26 = (0 : Int64) := by rw [hy26]; simp only [ite_self]
  have c1 : y27 = (9223372036854775807 : Int64) := by rw [hy27, if_neg nc]
  have g0 : ¬ (((5000 : Int64) - y25) < (5000 : Int64)) := by rw [r1]; decide
  have n2 : y32 = p0_0 := by
    rw [hy32]
    by_cases h : p0_1 = p0_0
    · rw [if_neg (fun q => q.1 (n1.trans h)), n1, h]
    · rw [if_pos ⟨fun q => h (n1.symm.trans q), g0⟩]
  have b2 : y34 = (7 : Int32) := by
    rw [hy34]
    by_cases h : p0_1 = p0_0
    · rw [if_neg (fun q => q.1 (n1.trans h)), if_pos (n1.trans h)]
    · rw [if_pos ⟨fun q => h (n1.symm.trans q), g0⟩]
  have r2 : y37 = (5000 : Int64) := by
    rw [hy37]
    by_cases h : p0_1 = p0_0
    · rw [if_neg (fun q => q.1 (n1.trans h)), if_pos (n1.trans h)]
    · rw [if_pos ⟨fun q => h (n1.symm.trans q), g0⟩]
  have s2 : y36 = v50 := by
    rw [hy36, hv50]
    by_cases h : p0_1 = p0_0
    · rw [if_neg (fun q => q.1 (n1.trans h)), if_pos h, s1]
    · rw [if_pos ⟨fun q => h (n1.symm.trans q), g0⟩, if_neg h]
  have d2 : ¬ p0_1 = p0_0 → y33 = p0_1 ∧ y35 = v11 := by
    intro h
    rw [hy33, hy35, if_pos ⟨fun q => h (n1.symm.trans q), g0⟩, if_pos ⟨fun q => h (n1.symm.trans q), g0⟩]
    exact ⟨n1, b1⟩
  have c2 : y38 = (9223372036854775807 : Int64) := by rw [hy38, c1]; decide
  have f2 : y39 = (0 : Int32) := by
    have q : (5000 : Int64) < y27 := by rw [c1]; decide
    rw [hy39]
    simp only [q, if_true, ite_self]
  have ct : (q0_3 < (5000 : Int64) ∧ (p0_1 < y32 ∧ ¬ ((p0_1 = y33 ∧ ¬ (y35 < p0_2))))) ↔ (q0_3 < (5000 : Int64) ∧ (p0_1 < p0_0 ∧ v11 < p0_2)) := by
    rw [n2]
    constructor
    · intro q
      have h : ¬ p0_1 = p0_0 := fun e => Int32.lt_irrefl (e ▸ q.2.1 : p0_0 < p0_0)
      obtain ⟨e1, e2⟩ := d2 h
      refine ⟨q.1, q.2.1, ?_⟩
      have w := q.2.2
      rw [e1, e2] at w
      exact Decidable.byContradiction fun x => w ⟨rfl, x⟩
    · intro q
      have h : ¬ p0_1 = p0_0 := fun e => Int32.lt_irrefl (e ▸ q.2.1 : p0_0 < p0_0)
      obtain ⟨e1, e2⟩ := d2 h
      refine ⟨q.1, q.2.1, ?_⟩
      rw [e1, e2]
      exact fun w => w.2 q.2.2
  have cr : (p0_1 = y32 ∧ y34 < p0_2) ↔ (p0_1 = p0_0 ∧ (7 : Int32) < p0_2) := by rw [n2, b2]
  have E1 : y97 = v78 := by
    rw [hy97, hv78]
    by_cases t : (q0_3 < (5000 : Int64) ∧ (p0_1 < p0_0 ∧ v11 < p0_2))
    · rw [if_pos (ct.mpr t), if_pos (Or.inl t)]
    · rw [if_neg (fun q => t (ct.mp q))]
      by_cases r : (p0_1 = p0_0 ∧ (7 : Int32) < p0_2)
      · rw [if_pos (cr.mpr r), if_pos (Or.inr r)]
      · rw [if_neg (fun q => r (cr.mp q)), if_neg (fun q => q.elim t r), n2]
  have E2 : y98 = v83 := by
    rw [hy98, hv83]
    by_cases t : (q0_3 < (5000 : Int64) ∧ (p0_1 < p0_0 ∧ v11 < p0_2))
    · rw [if_pos (ct.mpr t), if_pos (Or.inl t)]
    · rw [if_neg (fun q => t (ct.mp q))]
      by_cases r : (p0_1 = p0_0 ∧ (7 : Int32) < p0_2)
      · rw [if_pos (cr.mpr r), if_pos (Or.inr r)]
      · rw [if_neg (fun q => r (cr.mp q)), if_neg (fun q => q.elim t r), b2]
  have E3 : y99 = v88 := by
    rw [hy99, hv88]
    by_cases t : (q0_3 < (5000 : Int64) ∧ (p0_1 < p0_0 ∧ v11 < p0_2))
    · rw [if_pos (ct.mpr t), if_pos (Or.inl t)]
    · rw [if_neg (fun q => t (ct.mp q))]
      by_cases r : (p0_1 = p0_0 ∧ (7 : Int32) < p0_2)
      · rw [if_pos (cr.mpr r), if_pos (Or.inr r)]
      · rw [if_neg (fun q => r (cr.mp q)), if_neg (fun q => q.elim t r), r2]
  have E4 : y100 = v93 := by
    rw [hy100, hv93]
    by_cases t : (q0_3 < (5000 : Int64) ∧ (p0_1 < p0_0 ∧ v11 < p0_2))
    · rw [if_pos (ct.mpr t), if_pos t]
    · rw [if_neg (fun q => t (ct.mp q)), if_neg t, s2]
  have E5 : x102 = v59 := by rw [hx102, hv59]; exact own_ifc ct rfl rfl
  have E6 : y101 = (if (q0_3 < (5000 : Int64) ∧ (p0_1 < p0_0 ∧ v11 < p0_2)) then (q0_4 + (1000 : Int64)) else (9223372036854775807 : Int64)) := by
    rw [hy101, c2]
    exact own_ifc ct rfl rfl
  rw [hv161]
  refine if_pos ⟨⟨E5, E1, E2, by rw [E3], E4⟩, ?_, ?_⟩
  · rw [hx152, hv125, E1, E3]
    exact own_ifc ⟨fun q => q.2, fun q => ⟨own_nx _, q⟩⟩ rfl rfl
  · rw [hy151, hv140, E1, E3]
    exact own_far (q0_3 < (5000 : Int64) ∧ (p0_1 < p0_0 ∧ v11 < p0_2)) (q0_4 + (1000 : Int64)) v88 v78 y39 f2 y101 E6
theorem own_fin2 (p0_0 : Int32) (p0_1 : Int32) (p0_2 : Int32) (q0_3 : Int64) (q0_4 : Int64) (p0_5 : Int32) (v4 : Int32) (hv4 : v4 = (if ¬ ((p0_5 &&& (1 : Int32)) = (0 : Int32)) then (1 : Int32) else (0 : Int32))) (x7 : Int32) (hx7 : x7 = (p0_2 + (((p0_5 >>> ((1 : Int32) &&& 31)) &&& (3 : Int32)) - (1 : Int32)))) (v11 : Int32) (hv11 : v11 = (if (0 : Int32) < x7 then x7 else (0 : Int32))) (v16 : Int32) (hv16 : v16 = (if ¬ ((p0_5 &&& (1 : Int32)) = (0 : Int32)) then p0_1 else p0_0)) (y23 : Int32) (hy23 : y23 = (if ((0 : Int64) < (5000 : Int64) ∧ (v16 < v16 ∧ ¬ ((v16 = (-1 : Int32) ∧ ¬ ((0 : Int32) < x7))))) then v16 else (if (v16 = v16 ∧ (0 : Int32) < x7) then v16 else v16))) (y24 : Int32) (hy24 : y24 = (if ((0 : Int64) < (5000 : Int64) ∧ (v16 < v16 ∧ ¬ ((v16 = (-1 : Int32) ∧ ¬ ((0 : Int32) < x7))))) then x7 else (if (v16 = v16 ∧ (0 : Int32) < x7) then x7 else (0 : Int32)))) (y25 : Int64) (hy25 : y25 = (if ((0 : Int64) < (5000 : Int64) ∧ (v16 < v16 ∧ ¬ ((v16 = (-1 : Int32) ∧ ¬ ((0 : Int32) < x7))))) then ((0 : Int64) - (0 : Int64)) else (if (v16 = v16 ∧ (0 : Int32) < x7) then ((0 : Int64) - (0 : Int64)) else (0 : Int64)))) (y26 : Int64) (hy26 : y26 = (if ((0 : Int64) < (5000 : Int64) ∧ (v16 < v16 ∧ ¬ ((v16 = (-1 : Int32) ∧ ¬ ((0 : Int32) < x7))))) then (0 : Int64) else (0 : Int64))) (y27 : Int64) (hy27 : y27 = (if ((0 : Int64) < (5000 : Int64) ∧ (v16 < v16 ∧ ¬ ((v16 = (-1 : Int32) ∧ ¬ ((0 : Int32) < x7))))) then ((0 : Int64) + (1000 : Int64)) else (9223372036854775807 : Int64))) (x28 : Int32) (hx28 : x28 = (if ((0 : Int64) < (5000 : Int64) ∧ (v16 < v16 ∧ ¬ ((v16 = (-1 : Int32) ∧ ¬ ((0 : Int32) < x7))))) then (1 : Int32) else (0 : Int32))) (v165 : Int32) (hv165 : v165 = (if q0_3 < (5000 : Int64) then (1 : Int32) else (0 : Int32))) (v179 : Int32) (hv179 : v179 = (if (q0_3 < (5000 : Int64) ∧ (p0_1 < p0_0 ∧ (¬ (p0_1 = (-1 : Int32)) ∨ (0 : Int32) < p0_2))) then (1 : Int32) else (0 : Int32))) (v186 : Int32) (hv186 : v186 = (if (p0_1 = p0_0 ∧ v11 < p0_2) then (1 : Int32) else (0 : Int32))) (v193 : Int32) (hv193 : v193 = (if ((q0_3 < (5000 : Int64) ∧ (p0_1 < p0_0 ∧ (¬ (p0_1 = (-1 : Int32)) ∨ (0 : Int32) < p0_2))) ∨ (p0_1 = p0_0 ∧ v11 < p0_2)) then (1 : Int32) else (0 : Int32))) (v198 : Int32) (hv198 : v198 = (if ((q0_3 < (5000 : Int64) ∧ (p0_1 < p0_0 ∧ (¬ (p0_1 = (-1 : Int32)) ∨ (0 : Int32) < p0_2))) ∨ (p0_1 = p0_0 ∧ v11 < p0_2)) then p0_1 else p0_0)) (v203 : Int32) (hv203 : v203 = (if ((q0_3 < (5000 : Int64) ∧ (p0_1 < p0_0 ∧ (¬ (p0_1 = (-1 : Int32)) ∨ (0 : Int32) < p0_2))) ∨ (p0_1 = p0_0 ∧ v11 < p0_2)) then p0_2 else v11)) (v208 : Int64) (hv208 : v208 = (if ((q0_3 < (5000 : Int64) ∧ (p0_1 < p0_0 ∧ (¬ (p0_1 = (-1 : Int32)) ∨ (0 : Int32) < p0_2))) ∨ (p0_1 = p0_0 ∧ v11 < p0_2)) then (q0_4 - q0_3) else (0 : Int64))) (v213 : Int64) (hv213 : v213 = (if (q0_3 < (5000 : Int64) ∧ (p0_1 < p0_0 ∧ (¬ (p0_1 = (-1 : Int32)) ∨ (0 : Int32) < p0_2))) then q0_4 else (0 : Int64))) (y217 : Int32) (hy217 : y217 = (if (q0_3 < (5000 : Int64) ∧ (p0_1 < y23 ∧ ¬ ((p0_1 = (-1 : Int32) ∧ ¬ ((0 : Int32) < p0_2))))) then p0_1 else (if (p0_1 = y23 ∧ y24 < p0_2) then p0_1 else y23))) (y218 : Int32) (hy218 : y218 = (if (q0_3 < (5000 : Int64) ∧ (p0_1 < y23 ∧ ¬ ((p0_1 = (-1 : Int32) ∧ ¬ ((0 : Int32) < p0_2))))) then p0_2 else (if (p0_1 = y23 ∧ y24 < p0_2) then p0_2 else y24))) (y219 : Int64) (hy219 : y219 = (if (q0_3 < (5000 : Int64) ∧ (p0_1 < y23 ∧ ¬ ((p0_1 = (-1 : Int32) ∧ ¬ ((0 : Int32) < p0_2))))) then (q0_4 - q0_3) else (if (p0_1 = y23 ∧ y24 < p0_2) then (q0_4 - q0_3) else y25))) (y220 : Int64) (hy220 : y220 = (if (q0_3 < (5000 : Int64) ∧ (p0_1 < y23 ∧ ¬ ((p0_1 = (-1 : Int32) ∧ ¬ ((0 : Int32) < p0_2))))) then q0_4 else y26)) (y221 : Int64) (hy221 : y221 = (if (q0_3 < (5000 : Int64) ∧ (p0_1 < y23 ∧ ¬ ((p0_1 = (-1 : Int32) ∧ ¬ ((0 : Int32) < p0_2))))) then (q0_4 + (1000 : Int64)) else y27)) (x222 : Int32) (hx222 : x222 = (if (q0_3 < (5000 : Int64) ∧ (p0_1 < y23 ∧ ¬ ((p0_1 = (-1 : Int32) ∧ ¬ ((0 : Int32) < p0_2))))) then (1 : Int32) else (0 : Int32))) (v238 : Int32) (hv238 : v238 = (if (x222 = v179 ∧ (y217 = v198 ∧ (y218 = v203 ∧ ((q0_4 - y219) = (q0_4 - v208) ∧ y220 = v213)))) then (1 : Int32) else (0 : Int32))) (v245 : Int32) (hv245 : v245 = (if ¬ (((q0_4 + (1000 : Int64)) - v208) < (5000 : Int64)) then (1 : Int32) else (0 : Int32))) (v260 : Int32) (hv260 : v260 = (if (((q0_3 < (5000 : Int64) ∧ (p0_1 < p0_0 ∧ (¬ (p0_1 = (-1 : Int32)) ∨ (0 : Int32) < p0_2))) ∧ (¬ (¬ (((q0_4 + (1000 : Int64)) - v208) < (5000 : Int64))) ∧ ¬ (((q0_4 + (1000 : Int64)) - v208) < (2500 : Int64)))) ∨ (¬ ((q0_3 < (5000 : Int64) ∧ (p0_1 < p0_0 ∧ (¬ (p0_1 = (-1 : Int32)) ∨ (0 : Int32) < p0_2)))) ∧ ((q0_4 + (1000 : Int64)) = (9223372036854775807 : Int64) ∧ (¬ (¬ (((q0_4 + (1000 : Int64)) - v208) < (5000 : Int64))) ∧ ¬ (((q0_4 + (1000 : Int64)) - v208) < (2500 : Int64)))))) then (1 : Int32) else (0 : Int32))) (y264 : Int32) (hy264 : y264 = (if (¬ (y217 = (v198 + (1 : Int32))) ∧ ¬ (((q0_4 + (1000 : Int64)) - y219) < (5000 : Int64))) then (v198 + (1 : Int32)) else y217)) (y265 : Int32) (hy265 : y265 = (if (¬ (y217 = (v198 + (1 : Int32))) ∧ ¬ (((q0_4 + (1000 : Int64)) - y219) < (5000 : Int64))) then y217 else (-1 : Int32))) (y266 : Int32) (hy266 : y266 = (if (¬ (y217 = (v198 + (1 : Int32))) ∧ ¬ (((q0_4 + (1000 : Int64)) - y219) < (5000 : Int64))) then (3 : Int32) else (if y217 = (v198 + (1 : Int32)) then (3 : Int32) else y218))) (y267 : Int32) (hy267 : y267 = (if (¬ (y217 = (v198 + (1 : Int32))) ∧ ¬ (((q0_4 + (1000 : Int64)) - y219) < (5000 : Int64))) then y218 else (0 : Int32))) (y268 : Int64) (hy268 : y268 = (if (¬ (y217 = (v198 + (1 : Int32))) ∧ ¬ (((q0_4 + (1000 : Int64)) - y219) < (5000 : Int64))) then (q0_4 + (1000 : Int64)) else y220)) (y269 : Int64) (hy269 : y269 = (if (¬ (y217 = (v198 + (1 : Int32))) ∧ ¬ (((q0_4 + (1000 : Int64)) - y219) < (5000 : Int64))) then (q0_4 + (1000 : Int64)) else (if y217 = (v198 + (1 : Int32)) then (q0_4 + (1000 : Int64)) else y219))) (y270 : Int64) (hy270 : y270 = (if (q0_4 + (1000 : Int64)) < y221 then y221 else (9223372036854775807 : Int64))) (y271 : Int32) (hy271 : y271 = (if (¬ (y217 = (v198 + (1 : Int32))) ∧ ¬ (((q0_4 + (1000 : Int64)) - y219) < (5000 : Int64))) then (if (q0_4 + (1000 : Int64)) < y221 then (0 : Int32) else (nar .boolean ((0 : Int32) ||| (if ¬ (((q0_4 + (1000 : Int64)) - (q0_4 + (1000 : Int64))) < (2500 : Int64)) then (1 : Int32) else (0 : Int32))))) else (if y217 = (v198 + (1 : Int32)) then (if (q0_4 + (1000 : Int64)) < y221 then (0 : Int32) else (nar .boolean ((0 : Int32) ||| (if ¬ (((q0_4 + (1000 : Int64)) - (q0_4 + (1000 : Int64))) < (2500 : Int64)) then (1 : Int32) else (0 : Int32))))) else (if (q0_4 + (1000 : Int64)) < y221 then (0 : Int32) else (nar .boolean ((0 : Int32) ||| (if ¬ (((q0_4 + (1000 : Int64)) - y219) < (2500 : Int64)) then (1 : Int32) else (0 : Int32)))))))) (x272 : Int32) (hx272 : x272 = (if (¬ (y217 = (v198 + (1 : Int32))) ∧ ¬ (((q0_4 + (1000 : Int64)) - y219) < (5000 : Int64))) then (1 : Int32) else (0 : Int32))) (v281 : Int32) (hv281 : v281 = (if ((x222 = v179 ∧ (y217 = v198 ∧ (y218 = v203 ∧ ((q0_4 - y219) = (q0_4 - v208) ∧ y220 = v213)))) ∧ (x272 = v245 ∧ (nar .boolean y271) = v260)) then (1 : Int32) else (0 : Int32))) (h77_30 : ¬ (¬ ((p0_5 &&& (1 : Int32)) = (0 : Int32)))) : v281 = (1 : Int32) := by
  have l0 : ¬ v16 < v16 := Int32.lt_irrefl
  have eb : v16 = p0_0 := by rw [hv16]; exact if_neg h77_30
  have nc : ¬ ((0 : Int64) < (5000 : Int64) ∧ (v16 < v16 ∧ ¬ ((v16 = (-1 : Int32) ∧ ¬ ((0 : Int32) < x7))))) := fun q => l0 q.2.1
  have n1 : y23 = p0_0 := by rw [hy23, if_neg nc]; simp only [ite_self]; exact eb
  have b1 : y24 = v11 := by
    rw [hy24, if_neg nc, hv11]
    by_cases h : (0 : Int32) < x7
    · rw [if_pos ⟨rfl, h⟩, if_pos h]
    · rw [if_neg (fun q => h q.2), if_neg h]
  have r1 : y25 = (0 : Int64) := by
    rw [hy25, if_neg nc]
    split <;> decide
  have s1 : y26 = (0 : Int64) := by rw [hy26]; simp only [ite_self]
  have c1 : y27 = (9223372036854775807 : Int64) := by rw [hy27, if_neg nc]
  have ct : (q0_3 < (5000 : Int64) ∧ (p0_1 < y23 ∧ ¬ ((p0_1 = (-1 : Int32) ∧ ¬ ((0 : Int32) < p0_2))))) ↔ (q0_3 < (5000 : Int64) ∧ (p0_1 < p0_0 ∧ (¬ (p0_1 = (-1 : Int32)) ∨ (0 : Int32) < p0_2))) := by
    rw [n1, own_nn]
  have cr : (p0_1 = y23 ∧ y24 < p0_2) ↔ (p0_1 = p0_0 ∧ v11 < p0_2) := by rw [n1, b1]
  have E1 : y217 = v198 := by
    rw [hy217, hv198]
    by_cases t : (q0_3 < (5000 : Int64) ∧ (p0_1 < p0_0 ∧ (¬ (p0_1 = (-1 : Int32)) ∨ (0 : Int32) < p0_2)))
    · rw [if_pos (ct.mpr t), if_pos (Or.inl t)]
    · rw [if_neg (fun q => t (ct.mp q))]
      by_cases r : (p0_1 = p0_0 ∧ v11 < p0_2)
      · rw [if_pos (cr.mpr r), if_pos (Or.inr r)]
      · rw [if_neg (fun q => r (cr.mp q)), if_neg (fun q => q.elim t r), n1]
  have E2 : y218 = v203 := by
    rw [hy218, hv203]
    by_cases t : (q0_3 < (5000 : Int64) ∧ (p0_1 < p0_0 ∧ (¬ (p0_1 = (-1 : Int32)) ∨ (0 : Int32) < p0_2)))
    · rw [if_pos (ct.mpr t), if_pos (Or.inl t)]
    · rw [if_neg (fun q => t (ct.mp q))]
      by_cases r : (p0_1 = p0_0 ∧ v11 < p0_2)
      · rw [if_pos (cr.mpr r), if_pos (Or.inr r)]
      · rw [if_neg (fun q => r (cr.mp q)), if_neg (fun q => q.elim t r), b1]
  have E3 : y219 = v208 := by
    rw [hy219, hv208]
    by_cases t : (q0_3 < (5000 : Int64) ∧ (p0_1 < p0_0 ∧ (¬ (p0_1 = (-1 : Int32)) ∨ (0 : Int32) < p0_2)))
    · rw [if_pos (ct.mpr t), if_pos (Or.inl t)]
    · rw [if_neg (fun q => t (ct.mp q))]
      by_cases r : (p0_1 = p0_0 ∧ v11 < p0_2)
      · rw [if_pos (cr.mpr r), if_pos (Or.inr r)]
      · rw [if_neg (fun q => r (cr.mp q)), if_neg (fun q => q.elim t r), r1]
  have E4 : y220 = v213 := by
    rw [hy220, hv213]
    by_cases t : (q0_3 < (5000 : Int64) ∧ (p0_1 < p0_0 ∧ (¬ (p0_1 = (-1 : Int32)) ∨ (0 : Int32) < p0_2)))
    · rw [if_pos (ct.mpr t), if_pos t]
    · rw [if_neg (fun q => t (ct.mp q)), if_neg t, s1]
  have E5 : x222 = v179 := by rw [hx222, hv179]; exact own_ifc ct rfl rfl
  have E6 : y221 = (if (q0_3 < (5000 : Int64) ∧ (p0_1 < p0_0 ∧ (¬ (p0_1 = (-1 : Int32)) ∨ (0 : Int32) < p0_2))) then (q0_4 + (1000 : Int64)) else (9223372036854775807 : Int64)) := by
    rw [hy221, c1]
    exact own_ifc ct rfl rfl
  rw [hv281]
  refine if_pos ⟨⟨E5, E1, E2, by rw [E3], E4⟩, ?_, ?_⟩
  · rw [hx272, hv245, E1, E3]
    exact own_ifc ⟨fun q => q.2, fun q => ⟨own_nx _, q⟩⟩ rfl rfl
  · rw [hy271, hv260, E1, E3]
    exact own_far (q0_3 < (5000 : Int64) ∧ (p0_1 < p0_0 ∧ (¬ (p0_1 = (-1 : Int32)) ∨ (0 : Int32) < p0_2))) (q0_4 + (1000 : Int64)) v208 v198 (0 : Int32) rfl y221 E6
theorem pn_0 : plainName "com/example/halozat/halozat/node/LeaderHearPinLaw" = true := by first | (simp [plainName, overriddenIn]; done) | decide +kernel
theorem ef_rm0 (m : MethodId) (y0 : Int32) (y1 : Int32) (y2 : Int32) (y3 : Int64) (y4 : Int64) (y5 : Int32) : entryFrame m #[(.int y0), (.int y1), (.int y2), (.long y3), (.long y4), (.int y5)] maxLocals = mkF m 0 #[.val (.int y0), .val (.int y1), .val (.int y2), .val (.long y3), .second, .val (.long y4), .second, .val (.int y5), .unset, .unset, .unset, .unset, .unset, .unset, .unset, .unset, .unset, .unset, .unset, .unset, .unset, .unset, .unset, .unset, .unset, .unset, .unset, .unset, .unset, .unset, .unset, .unset, .unset, .unset, .unset, .unset, .unset] [] := by first | (simp [entryFrame, mkF, argsToLocals, Value.category, maxLocals]; done) | rfl
def Q_rm0 (Z : State) (p0_0 : Int32) (p0_1 : Int32) (p0_2 : Int32) (q0_3 : Int64) (q0_4 : Int64) (p0_5 : Int32) (h0 : Heap) (n0 : Nat) (v : Option Value) (h : Heap) (L : List Loc) : Prop := v = some (.int (1 : Int32)) ∧ Fr n0 L
set_option maxRecDepth 65536 in
set_option maxHeartbeats 40000000 in
theorem rm0 (l : Launch) (Z : State) (a0 : Array Value) (hw : ∀ d ∈ tables_1, d.before a0 Z = true) (ws : List Jvm.Cond) (p0_0 : Int32) (p0_1 : Int32) (p0_2 : Int32) (q0_3 : Int64) (q0_4 : Int64) (p0_5 : Int32) (h0 : Heap) (n0 : Nat) (Z0 : n0 ≤ h0.size) :
    MetFree l x (head1 (Jvm.Cond.code x code maxLocals ret :: ws) room_1) (fun a U => a = #[(.int p0_0), (.int p0_1), (.int p0_2), (.long q0_3), (.long q0_4), (.int p0_5)] ∧ Z.Warmed39 U.vm ∧ U.heap = h0) (fun _ _ _ _ _ => True) (fun _ U o U' => ∃ v L, o = .returned v ∧ Q_rm0 Z p0_0 p0_1 p0_2 q0_3 q0_4 p0_5 h0 n0 v U'.heap L ∧ FrameEnd U o U' L 16 128) := by
  refine MetFree.of_bodySF (plainFor_of_name pn_0) hisR ?_
  intro p e s m args below meth c s₁ Bd hml0 hP hK
  obtain ⟨rfl, hZ, hh⟩ := hP
  have hx := Bd.exec
  have hby := Bd.bytes
  have hml : c.maxLocals = 37 := hml0
  have hown : s.vm.findClass "com/example/halozat/halozat/node/LeaderHearPinLaw" = some m.cls := findClass_of_methodNamed Bd.named
  have hnm := (name_of_methodNamed Bd.named Bd.method).1
  have X0 : Stand p l e room_1 s m #[(.int p0_0), (.int p0_1), (.int p0_2), (.long q0_3), (.long q0_4), (.int p0_5)] below meth c s₁ [] 0 0 := Stand.of_body Bd
  have e0 : s₁.heap = h0 := by rw [← hh, Bd.state]; rfl
  have N0 := Fr.nil n0
  have pre0 : ∀ t, Steps p.tables e below (s₁.setTop (mkF m 0 #[.val (.int p0_0), .val (.int p0_1), .val (.int p0_2), .val (.long q0_3), .second, .val (.long q0_4), .second, .val (.int p0_5), .unset, .unset, .unset, .unset, .unset, .unset, .unset, .unset, .unset, .unset, .unset, .unset, .unset, .unset, .unset, .unset, .unset, .unset, .unset, .unset, .unset, .unset, .unset, .unset, .unset, .unset, .unset, .unset, .unset] [])) t → Steps p.tables e below (s₁.setTop (entryFrame m #[(.int p0_0), (.int p0_1), (.int p0_2), (.long q0_3), (.long q0_4), (.int p0_5)] maxLocals)) t := fun t k => castTop (ef_rm0 m p0_0 p0_1 p0_2 q0_3 q0_4 p0_5) k
  let A1 : Array Slot := #[.val (.int p0_0), .val (.int p0_1), .val (.int p0_2), .val (.long q0_3), .second, .val (.long q0_4), .second, .val (.int p0_5), .unset, .unset, .unset, .unset, .unset, .unset, .unset, .unset, .unset, .unset, .unset, .unset, .unset, .unset, .unset, .unset, .unset, .unset, .unset, .unset, .unset, .unset, .unset, .unset, .unset, .unset, .unset, .unset, .unset]
  have G2 : ∀ t, Steps p.tables e below (s₁.setTop (mkF m 4 A1 [(.int (p0_5 &&& (1 : Int32)))])) t → Steps p.tables e below (s₁.setTop (mkF m 0 A1 [])) t := by
    intro t k
    show Steps p.tables e below (s₁.setTop (mkF m 0 A1 [])) _
    refine XS.iload X0.here hx rfl (hb hby at_0) rfl ?_
    show Steps p.tables e below (s₁.setTop (mkF m 2 A1 [(.int p0_5)])) _
    refine XS.iconst X0.here hx rfl (hb hby at_2) ?_
    show Steps p.tables e below (s₁.setTop (mkF m 3 A1 [(.int (1 : Int32)), (.int p0_5)])) _
    refine XS.iand X0.here hx rfl (hb hby at_3) rfl ?_
    exact k
  obtain ⟨v4, hv4⟩ : ∃ z : Int32, z = (if ¬ ((p0_5 &&& (1 : Int32)) = (0 : Int32)) then (1 : Int32) else (0 : Int32)) := ⟨_, rfl⟩
  obtain ⟨T5, Lo5, X5, N5, e5, G5⟩ := own_join X0 N0 (h := h0) (mkF m 4 A1 [(.int (p0_5 &&& (1 : Int32)))]) (mkF m 12 A1 [(.int v4)]) (by
    by_cases h4_3 : (p0_5 &&& (1 : Int32)) = (0 : Int32)
    · refine ⟨s₁, _, X0, N0, e0, fun t k => ?_⟩
      rw [show v4 = (0 : Int32) from hv4.trans (if_neg (fun q => q h4_3))] at k
      show Steps p.tables e below (s₁.setTop (mkF m 4 A1 [(.int (p0_5 &&& (1 : Int32)))])) _
      refine XS.ifYes X0.here hx rfl (pc0 := 4) (pc' := 11) rfl (hb hby at_4) rfl ((if0 _ _).trans (teq h4_3).1) (by decide) (by decide) ?_
      show Steps p.tables e below (s₁.setTop (mkF m 11 A1 [])) _
      refine XS.iconst X0.here hx rfl (hb hby at_11) ?_
      exact k
    · refine ⟨s₁, _, X0, N0, e0, fun t k => ?_⟩
      rw [show v4 = (1 : Int32) from hv4.trans (if_pos h4_3)] at k
      show Steps p.tables e below (s₁.setTop (mkF m 4 A1 [(.int (p0_5 &&& (1 : Int32)))])) _
      refine XS.ifNo X0.here hx rfl (hb hby at_4) rfl ((if0 _ _).trans (feq h4_3).1) ?_
      show Steps p.tables e below (s₁.setTop (mkF m 7 A1 [])) _
      refine XS.iconst X0.here hx rfl (hb hby at_7) ?_
      show Steps p.tables e below (s₁.setTop (mkF m 8 A1 [(.int (1 : Int32))])) _
      refine XS.goto X0.here hx rfl (pc0 := 8) (pc' := 12) rfl (hb hby at_8) (by decide) (by decide) ?_
      exact k)
  let A6 : Array Slot := #[.val (.int p0_0), .val (.int p0_1), .val (.int p0_2), .val (.long q0_3), .second, .val (.long q0_4), .second, .val (.int p0_5), .val (.int v4), .unset, .unset, .unset, .unset, .unset, .unset, .unset, .unset, .unset, .unset, .unset, .unset, .unset, .unset, .unset, .unset, .unset, .unset, .unset, .unset, .unset, .unset, .unset, .unset, .unset, .unset, .unset, .unset]
  obtain ⟨x7, hx7⟩ : ∃ z : Int32, z = (p0_2 + (((p0_5 >>> ((1 : Int32) &&& 31)) &&& (3 : Int32)) - (1 : Int32))) := ⟨_, rfl⟩
  let A8 : Array Slot := #[.val (.int p0_0), .val (.int p0_1), .val (.int p0_2), .val (.long q0_3), .second, .val (.long q0_4), .second, .val (.int p0_5), .val (.int v4), .val (.int x7), .unset, .unset, .unset, .unset, .unset, .unset, .unset, .unset, .unset, .unset, .unset, .unset, .unset, .unset, .unset, .unset, .unset, .unset, .unset, .unset, .unset, .unset, .unset, .unset, .unset, .unset, .unset]
  have G9 : ∀ t, Steps p.tables e below (T5.setTop (mkF m 28 A8 [(.int x7)])) t → Steps p.tables e below (T5.setTop (mkF m 12 A1 [(.int v4)])) t := by
    intro t k
    show Steps p.tables e below (T5.setTop (mkF m 12 A1 [(.int v4)])) _
    refine XS.istore X5.here hx rfl (hb hby at_12) rfl (l' := A6) rfl ?_
    show Steps p.tables e below (T5.setTop (mkF m 14 A6 [])) _
    refine XS.iloadN X5.here hx rfl (hb hby at_14) rfl ?_
    show Steps p.tables e below (T5.setTop (mkF m 15 A6 [(.int p0_2)])) _
    refine XS.iload X5.here hx rfl (hb hby at_15) rfl ?_
    show Steps p.tables e below (T5.setTop (mkF m 17 A6 [(.int p0_5), (.int p0_2)])) _
    refine XS.iconst X5.here hx rfl (hb hby at_17) ?_
    show Steps p.tables e below (T5.setTop (mkF m 18 A6 [(.int (1 : Int32)), (.int p0_5), (.int p0_2)])) _
    refine XS.ishr X5.here hx rfl (hb hby at_18) rfl ?_
    show Steps p.tables e below (T5.setTop (mkF m 19 A6 [(.int (p0_5 >>> ((1 : Int32) &&& 31))), (.int p0_2)])) _
    refine XS.iconst X5.here hx rfl (hb hby at_19) ?_
    show Steps p.tables e below (T5.setTop (mkF m 20 A6 [(.int (3 : Int32)), (.int (p0_5 >>> ((1 : Int32) &&& 31))), (.int p0_2)])) _
    refine XS.iand X5.here hx rfl (hb hby at_20) rfl ?_
    show Steps p.tables e below (T5.setTop (mkF m 21 A6 [(.int ((p0_5 >>> ((1 : Int32) &&& 31)) &&& (3 : Int32))), (.int p0_2)])) _
    refine XS.iconst X5.here hx rfl (hb hby at_21) ?_
    show Steps p.tables e below (T5.setTop (mkF m 22 A6 [(.int (1 : Int32)), (.int ((p0_5 >>> ((1 : Int32) &&& 31)) &&& (3 : Int32))), (.int p0_2)])) _
    refine XS.isub X5.here hx rfl (hb hby at_22) rfl ?_
    show Steps p.tables e below (T5.setTop (mkF m 23 A6 [(.int (((p0_5 >>> ((1 : Int32) &&& 31)) &&& (3 : Int32)) - (1 : Int32))), (.int p0_2)])) _
    refine XS.iadd X5.here hx rfl (hb hby at_23) rfl ?_
    show Steps p.tables e below (T5.setTop (mkF m 24 A6 [(.int (p0_2 + (((p0_5 >>> ((1 : Int32) &&& 31)) &&& (3 : Int32)) - (1 : Int32))))])) _
    refine XS.istore X5.here hx rfl (hb hby at_24) rfl (l' := #[.val (.int p0_0), .val (.int p0_1), .val (.int p0_2), .val (.long q0_3), .second, .val (.long q0_4), .second, .val (.int p0_5), .val (.int v4), .val (.int (p0_2 + (((p0_5 >>> ((1 : Int32) &&& 31)) &&& (3 : Int32)) - (1 : Int32)))), .unset, .unset, .unset, .unset, .unset, .unset, .unset, .unset, .unset, .unset, .unset, .unset, .unset, .unset, .unset, .unset, .unset, .unset, .unset, .unset, .unset, .unset, .unset, .unset, .unset, .unset, .unset]) rfl ?_
    show Steps p.tables e below (T5.setTop (mkF m 26 #[.val (.int p0_0), .val (.int p0_1), .val (.int p0_2), .val (.long q0_3), .second, .val (.long q0_4), .second, .val (.int p0_5), .val (.int v4), .val (.int (p0_2 + (((p0_5 >>> ((1 : Int32) &&& 31)) &&& (3 : Int32)) - (1 : Int32)))), .unset, .unset, .unset, .unset, .unset, .unset, .unset, .unset, .unset, .unset, .unset, .unset, .unset, .unset, .unset, .unset, .unset, .unset, .unset, .unset, .unset, .unset, .unset, .unset, .unset, .unset, .unset] [])) _
    rw [← hx7]
    show Steps p.tables e below (T5.setTop (mkF m 26 A8 [])) _
    refine XS.iload X5.here hx rfl (hb hby at_26) rfl ?_
    exact k
  obtain ⟨v11, hv11⟩ : ∃ z : Int32, z = (if (0 : Int32) < x7 then x7 else (0 : Int32)) := ⟨_, rfl⟩
  obtain ⟨T12, Lo12, X12, N12, e12, G12⟩ := own_join X5 N5 (h := h0) (mkF m 28 A8 [(.int x7)]) (mkF m 37 A8 [(.int v11)]) (by
    by_cases h28_10 : (0 : Int32) < x7
    · refine ⟨T5, _, X5, N5, e5, fun t k => ?_⟩
      rw [show v11 = x7 from hv11.trans (if_pos h28_10)] at k
      show Steps p.tables e below (T5.setTop (mkF m 28 A8 [(.int x7)])) _
      refine XS.ifNo X5.here hx rfl (hb hby at_28) rfl ((if0 _ _).trans (tlt h28_10).2.2.2) ?_
      show Steps p.tables e below (T5.setTop (mkF m 31 A8 [])) _
      refine XS.iload X5.here hx rfl (hb hby at_31) rfl ?_
      show Steps p.tables e below (T5.setTop (mkF m 33 A8 [(.int x7)])) _
      refine XS.goto X5.here hx rfl (pc0 := 33) (pc' := 37) rfl (hb hby at_33) (by decide) (by decide) ?_
      exact k
    · refine ⟨T5, _, X5, N5, e5, fun t k => ?_⟩
      rw [show v11 = (0 : Int32) from hv11.trans (if_neg h28_10)] at k
      show Steps p.tables e below (T5.setTop (mkF m 28 A8 [(.int x7)])) _
      refine XS.ifYes X5.here hx rfl (pc0 := 28) (pc' := 36) rfl (hb hby at_28) rfl ((if0 _ _).trans (flt h28_10).2.2.2) (by decide) (by decide) ?_
      show Steps p.tables e below (T5.setTop (mkF m 36 A8 [])) _
      refine XS.iconst X5.here hx rfl (hb hby at_36) ?_
      exact k)
  let A13 : Array Slot := #[.val (.int p0_0), .val (.int p0_1), .val (.int p0_2), .val (.long q0_3), .second, .val (.long q0_4), .second, .val (.int p0_5), .val (.int v4), .val (.int x7), .val (.int v11), .unset, .unset, .unset, .unset, .unset, .unset, .unset, .unset, .unset, .unset, .unset, .unset, .unset, .unset, .unset, .unset, .unset, .unset, .unset, .unset, .unset, .unset, .unset, .unset, .unset, .unset]
  have G14 : ∀ t, Steps p.tables e below (T12.setTop (mkF m 41 A13 [(.int v4)])) t → Steps p.tables e below (T12.setTop (mkF m 37 A8 [(.int v11)])) t := by
    intro t k
    show Steps p.tables e below (T12.setTop (mkF m 37 A8 [(.int v11)])) _
    refine XS.istore X12.here hx rfl (hb hby at_37) rfl (l' := A13) rfl ?_
    show Steps p.tables e below (T12.setTop (mkF m 39 A13 [])) _
    refine XS.iload X12.here hx rfl (hb hby at_39) rfl ?_
    exact k
  obtain ⟨v16, hv16⟩ : ∃ z : Int32, z = (if ¬ ((p0_5 &&& (1 : Int32)) = (0 : Int32)) then p0_1 else p0_0) := ⟨_, rfl⟩
  obtain ⟨T17, Lo17, X17, N17, e17, G17⟩ := own_join X12 N12 (h := h0) (mkF m 41 A13 [(.int v4)]) (mkF m 49 A13 [(.int v16)]) (by
    by_cases h41_15 : ¬ ((p0_5 &&& (1 : Int32)) = (0 : Int32))
    · refine ⟨T12, _, X12, N12, e12, fun t k => ?_⟩
      rw [show v16 = p0_1 from hv16.trans (if_pos h41_15)] at k
      show Steps p.tables e below (T12.setTop (mkF m 41 A13 [(.int v4)])) _
      refine XS.ifNo X12.here hx rfl (hb hby at_41) rfl ((if0 _ _).trans (feq (own_b1 (hv4.trans (if_pos h41_15)))).1) ?_
      show Steps p.tables e below (T12.setTop (mkF m 44 A13 [])) _
      refine XS.iloadN X12.here hx rfl (hb hby at_44) rfl ?_
      show Steps p.tables e below (T12.setTop (mkF m 45 A13 [(.int p0_1)])) _
      refine XS.goto X12.here hx rfl (pc0 := 45) (pc' := 49) rfl (hb hby at_45) (by decide) (by decide) ?_
      exact k
    · refine ⟨T12, _, X12, N12, e12, fun t k => ?_⟩
      rw [show v16 = p0_0 from hv16.trans (if_neg h41_15)] at k
      show Steps p.tables e below (T12.setTop (mkF m 41 A13 [(.int v4)])) _
      refine XS.ifYes X12.here hx rfl (pc0 := 41) (pc' := 48) rfl (hb hby at_41) rfl ((if0 _ _).trans (teq (hv4.trans (if_neg h41_15))).1) (by decide) (by decide) ?_
      show Steps p.tables e below (T12.setTop (mkF m 48 A13 [])) _
      refine XS.iloadN X12.here hx rfl (hb hby at_48) rfl ?_
      exact k)
  let A18 : Array Slot := #[.val (.int p0_0), .val (.int p0_1), .val (.int p0_2), .val (.long q0_3), .second, .val (.long q0_4), .second, .val (.int p0_5), .val (.int v4), .val (.int x7), .val (.int v11), .val (.int v16), .unset, .unset, .unset, .unset, .unset, .unset, .unset, .unset, .unset, .unset, .unset, .unset, .unset, .unset, .unset, .unset, .unset, .unset, .unset, .unset, .unset, .unset, .unset, .unset, .unset]
  obtain ⟨T19, h19, X19, e19, E19, A19, D19, -, st19⟩ := newO X17 hx hZ hown (ow0 hw) (ow1 hw) (ow2 hw) e17 (g := (mkF m 51 A18 [])) rfl (hb hby at_51) (by decide) (by decide)
  obtain ⟨b19, g19⟩ : ∃ z, z = h0.size := ⟨_, rfl⟩
  rw [← g19] at A19 D19 st19
  have F_dropped_b19 : Fld Z h19 b19 "com/example/halozat/halozat/node/Leader" "dropped" "I" (.int (0 : Int32)) := D19 (Or.inl (ow10 hw)) (ty := .int) (by decide)
  have F_checkAt_b19 : Fld Z h19 b19 "com/example/halozat/halozat/node/Leader" "checkAt" "J" (.long (0 : Int64)) := D19 (Or.inl (ow13 hw)) (ty := .long) (by decide)
  have F_node_b19 : Fld Z h19 b19 "com/example/halozat/halozat/node/Leader" "node" "I" (.int (0 : Int32)) := D19 (Or.inl (ow15 hw)) (ty := .int) (by decide)
  have F_raisedAt_b19 : Fld Z h19 b19 "com/example/halozat/halozat/node/Leader" "raisedAt" "J" (.long (0 : Int64)) := D19 (Or.inl (ow17 hw)) (ty := .long) (by decide)
  have F_since_b19 : Fld Z h19 b19 "com/example/halozat/halozat/node/Leader" "since" "J" (.long (0 : Int64)) := D19 (Or.inl (ow19 hw)) (ty := .long) (by decide)
  have F_beat_b19 : Fld Z h19 b19 "com/example/halozat/halozat/node/Leader" "beat" "I" (.int (0 : Int32)) := D19 (Or.inl (ow27 hw)) (ty := .int) (by decide)
  have F_droppedBeat_b19 : Fld Z h19 b19 "com/example/halozat/halozat/node/Leader" "droppedBeat" "I" (.int (0 : Int32)) := D19 (Or.inl (ow35 hw)) (ty := .int) (by decide)
  have F_far_b19 : Fld Z h19 b19 "com/example/halozat/halozat/node/Leader" "far" "Z" (.int (0 : Int32)) := D19 (Or.inl (ow64 hw)) (ty := .boolean) (by decide)
  have g_b19 : n0 ≤ b19 := Nat.le_trans Z0 (Nat.le_of_eq g19.symm)
  have sz_b19 : h0.size ≤ b19 := Nat.le_trans (Nat.le_refl _) (Nat.le_of_eq g19.symm)
  have K19 : Keep h0 h19 [] := (Keep.refl h0 []).ext E19
  have Z19 : n0 ≤ h19.size := Nat.le_trans Z0 K19.1
  obtain ⟨_, _, ⟨T20, L20, k20, n20⟩, -, X20, ⟨Lc20, hQ20, l20, y20, z20⟩, st20⟩ := X19.specialBack hx (y := (⟨"com/example/halozat/halozat/node/Leader", "<init>", "(IJ)V"⟩ : MethodName)) rfl hown (mvT hZ (ow3 hw)) (mvT hZ (ow4 hw)) (mvT hZ (ow5 hw)) (by decide) (backOf (W := 1) (rm1 l Z a0 hw [] b19 v16 (0 : Int64) (0 : Int32) (0 : Int64) (0 : Int32) (0 : Int64) (0 : Int64) (0 : Int32) (0 : Int32) (0 : Int32) h19 n0 Z19 A19 F_dropped_b19 g_b19 F_checkAt_b19 F_node_b19 F_raisedAt_b19 F_since_b19 F_beat_b19 F_droppedBeat_b19 F_far_b19) hZ (ow5 hw) (ow2 hw) (by decide) (by decide)) (g := (mkF m 58 A18 [(.long (0 : Int64)), (.int v16), (.ref b19), (.ref b19)])) rfl (by rw [hml]; rfl) (Steps.refl _) (a := b19) (argsL := [(.int v16), (.long (0 : Int64))]) (rest := [(.ref b19)]) (lenOf pd__IJ_V rfl) rfl (by show 2 * 0 + _ ≤ _; exact Nat.le_of_eq rfl) (hb hby at_58) (fun _ _ => ⟨rfl, e19, (by decide : 1 + 0 ≤ _), (by decide : 8 + 0 ≤ _)⟩)
  dsimp only [Pt.U, Pt.locs, Pt.cells, Pt.slots] at X20 l20 y20 z20 st20 hQ20
  subst l20 y20 z20
  obtain ⟨rfl, Nq20, Kc20, P20_0, P20_1, P20_2, P20_3, P20_4, P20_5, P20_6, P20_7, P20_8⟩ := hQ20
  have K20 : Keep h0 T20.heap [] := Keep.trans K19 Kc20 (allS (P := fun x => x ∈ ([] : List Addr) ∨ h0.size ≤ x) (Or.inr sz_b19) all0)
  have Z20 : n0 ≤ T20.heap.size := Nat.le_trans Z0 K20.1
  have N20 := Fr.app N17 Nq20
  let A21 : Array Slot := #[.val (.int p0_0), .val (.int p0_1), .val (.int p0_2), .val (.long q0_3), .second, .val (.long q0_4), .second, .val (.int p0_5), .val (.int v4), .val (.int x7), .val (.int v11), .val (.int v16), .val (.ref b19), .unset, .unset, .unset, .unset, .unset, .unset, .unset, .unset, .unset, .unset, .unset, .unset, .unset, .unset, .unset, .unset, .unset, .unset, .unset, .unset, .unset, .unset, .unset, .unset]
  obtain ⟨cq22, kq22, q22a, q22b, q22c⟩ := isOf hZ rfl P20_0
  obtain ⟨_, _, ⟨T22, L22, k22, n22⟩, -, X22, ⟨Lc22, hQ22, l22, y22, z22⟩, st22⟩ := X20.virtualBack hx (y := (⟨"com/example/halozat/halozat/node/Leader", "hear", "(IIJJ)Z"⟩ : MethodName)) (z := (⟨"com/example/halozat/halozat/node/Leader", "hear", "(IIJJ)Z"⟩ : MethodName)) hown (mvT hZ (ow20 hw)) (mvT hZ (ow21 hw)) (notFace_of_selects (args := #[]) (mvT hZ (ow23 hw))) (mvT hZ (ow23 hw)) (mvT hZ (ow22 hw)) (by decide) (backOf (W := 0) (rm3 l Z a0 hw [] b19 v16 x7 (0 : Int64) (0 : Int64) (-1 : Int32) (0 : Int32) v16 (0 : Int32) (0 : Int64) (0 : Int64) (9223372036854775807 : Int64) (0 : Int32) T20.heap n0 Z20 P20_1 P20_7 P20_3 P20_6 P20_0 g_b19 P20_4 P20_5 P20_2 P20_8) hZ (ow24 hw) (ow2 hw) (by decide) (by decide)) q22a q22c (g := (mkF m 71 A21 [(.long (0 : Int64)), (.long (0 : Int64)), (.int x7), (.int v16), (.ref b19)])) rfl (by rw [hml]; rfl) (Steps.refl _) (argsL := [(.int v16), (.int x7), (.long (0 : Int64)), (.long (0 : Int64))]) (rest := []) (lenOf pd__IIJJ_Z rfl) rfl (by show 2 * 0 + _ ≤ _; exact Nat.le_of_eq rfl) (hb hby at_71) (fun _ _ => ⟨rfl, rfl, (by decide : 1 + 0 ≤ _), (by decide : 8 + 0 ≤ _)⟩)
  dsimp only [Pt.U, Pt.locs, Pt.cells, Pt.slots] at X22 l22 y22 z22 st22 hQ22
  subst l22 y22 z22
  obtain ⟨rfl, Nq22, Kc22, P22_0, P22_1, P22_2, P22_3, P22_4, P22_5, P22_6, P22_7, P22_8⟩ := hQ22
  have K22 : Keep h0 T22.heap [] := Keep.trans K20 Kc22 (allS (P := fun x => x ∈ ([] : List Addr) ∨ h0.size ≤ x) (Or.inr sz_b19) all0)
  have Z22 : n0 ≤ T22.heap.size := Nat.le_trans Z0 K22.1
  obtain ⟨y23, hy23⟩ : ∃ z : Int32, z = (if ((0 : Int64) < (5000 : Int64) ∧ (v16 < v16 ∧ ¬ ((v16 = (-1 : Int32) ∧ ¬ ((0 : Int32) < x7))))) then v16 else (if (v16 = v16 ∧ (0 : Int32) < x7) then v16 else v16)) := ⟨_, rfl⟩
  rw [← hy23] at P22_1
  obtain ⟨y24, hy24⟩ : ∃ z : Int32, z = (if ((0 : Int64) < (5000 : Int64) ∧ (v16 < v16 ∧ ¬ ((v16 = (-1 : Int32) ∧ ¬ ((0 : Int32) < x7))))) then x7 else (if (v16 = v16 ∧ (0 : Int32) < x7) then x7 else (0 : Int32))) := ⟨_, rfl⟩
  rw [← hy24] at P22_3
  obtain ⟨y25, hy25⟩ : ∃ z : Int64, z = (if ((0 : Int64) < (5000 : Int64) ∧ (v16 < v16 ∧ ¬ ((v16 = (-1 : Int32) ∧ ¬ ((0 : Int32) < x7))))) then ((0 : Int64) - (0 : Int64)) else (if (v16 = v16 ∧ (0 : Int32) < x7) then ((0 : Int64) - (0 : Int64)) else (0 : Int64))) := ⟨_, rfl⟩
  rw [← hy25] at P22_4
  obtain ⟨y26, hy26⟩ : ∃ z : Int64, z = (if ((0 : Int64) < (5000 : Int64) ∧ (v16 < v16 ∧ ¬ ((v16 = (-1 : Int32) ∧ ¬ ((0 : Int32) < x7))))) then (0 : Int64) else (0 : Int64)) := ⟨_, rfl⟩
  rw [← hy26] at P22_5
  obtain ⟨y27, hy27⟩ : ∃ z : Int64, z = (if ((0 : Int64) < (5000 : Int64) ∧ (v16 < v16 ∧ ¬ ((v16 = (-1 : Int32) ∧ ¬ ((0 : Int32) < x7))))) then ((0 : Int64) + (1000 : Int64)) else (9223372036854775807 : Int64)) := ⟨_, rfl⟩
  rw [← hy27] at P22_6
  have N22 := Fr.app N20 Nq22
  obtain ⟨x28, hx28⟩ : ∃ z : Int32, z = (if ((0 : Int64) < (5000 : Int64) ∧ (v16 < v16 ∧ ¬ ((v16 = (-1 : Int32) ∧ ¬ ((0 : Int32) < x7))))) then (1 : Int32) else (0 : Int32)) := ⟨_, rfl⟩
  have G29 : ∀ t, Steps p.tables e below (T22.setTop (mkF m 77 A21 [(.int v4)])) t → Steps p.tables e below (T17.setTop (mkF m 49 A13 [(.int v16)])) t := by
    intro t k
    show Steps p.tables e below (T17.setTop (mkF m 49 A13 [(.int v16)])) _
    refine XS.istore X17.here hx rfl (hb hby at_49) rfl (l' := A18) rfl ?_
    show Steps p.tables e below (T17.setTop (mkF m 51 A18 [])) _
    refine st19 _ ?_
    show Steps p.tables e below (T19.setTop (mkF m 54 A18 [(.ref b19)])) _
    refine XS.dup X19.here hx rfl (hb hby at_54) rfl rfl ?_
    show Steps p.tables e below (T19.setTop (mkF m 55 A18 [(.ref b19), (.ref b19)])) _
    refine XS.iload X19.here hx rfl (hb hby at_55) rfl ?_
    show Steps p.tables e below (T19.setTop (mkF m 57 A18 [(.int v16), (.ref b19), (.ref b19)])) _
    refine XS.lconst X19.here hx rfl (hb hby at_57) ?_
    show Steps p.tables e below (T19.setTop (mkF m 58 A18 [(.long (0 : Int64)), (.int v16), (.ref b19), (.ref b19)])) _
    refine st20.trans ?_
    show Steps p.tables e below (T20.setTop (mkF m 61 A18 [(.ref b19)])) _
    refine XS.astore X20.here hx rfl (hb hby at_61) rfl rfl (l' := A21) rfl ?_
    show Steps p.tables e below (T20.setTop (mkF m 63 A21 [])) _
    refine XS.aload X20.here hx rfl (hb hby at_63) rfl rfl ?_
    show Steps p.tables e below (T20.setTop (mkF m 65 A21 [(.ref b19)])) _
    refine XS.iload X20.here hx rfl (hb hby at_65) rfl ?_
    show Steps p.tables e below (T20.setTop (mkF m 67 A21 [(.int v16), (.ref b19)])) _
    refine XS.iload X20.here hx rfl (hb hby at_67) rfl ?_
    show Steps p.tables e below (T20.setTop (mkF m 69 A21 [(.int x7), (.int v16), (.ref b19)])) _
    refine XS.lconst X20.here hx rfl (hb hby at_69) ?_
    show Steps p.tables e below (T20.setTop (mkF m 70 A21 [(.long (0 : Int64)), (.int x7), (.int v16), (.ref b19)])) _
    refine XS.lconst X20.here hx rfl (hb hby at_70) ?_
    show Steps p.tables e below (T20.setTop (mkF m 71 A21 [(.long (0 : Int64)), (.long (0 : Int64)), (.int x7), (.int v16), (.ref b19)])) _
    refine st22.trans ?_
    show Steps p.tables e below (T22.setTop (mkF m 74 A21 [(.int (if ((0 : Int64) < (5000 : Int64) ∧ (v16 < v16 ∧ ¬ ((v16 = (-1 : Int32) ∧ ¬ ((0 : Int32) < x7))))) then (1 : Int32) else (0 : Int32)))])) _
    rw [← hx28]
    show Steps p.tables e below (T22.setTop (mkF m 74 A21 [(.int x28)])) _
    refine XS.pop X22.here hx rfl (hb hby at_74) rfl rfl ?_
    show Steps p.tables e below (T22.setTop (mkF m 75 A21 [])) _
    refine XS.iload X22.here hx rfl (hb hby at_75) rfl ?_
    exact k
  by_cases h77_30 : ¬ ((p0_5 &&& (1 : Int32)) = (0 : Int32))
  · obtain ⟨cq31, kq31, q31a, q31b, q31c⟩ := isOf hZ rfl P22_2
    obtain ⟨_, _, ⟨T31, L31, k31, n31⟩, -, X31, ⟨Lc31, hQ31, l31, y31, z31⟩, st31⟩ := X22.virtualBack hx (y := (⟨"com/example/halozat/halozat/node/Leader", "heartbeat", "(IIJ)Z"⟩ : MethodName)) (z := (⟨"com/example/halozat/halozat/node/Leader", "heartbeat", "(IIJ)Z"⟩ : MethodName)) hown (mvT hZ (ow29 hw)) (mvT hZ (ow30 hw)) (notFace_of_selects (args := #[]) (mvT hZ (ow32 hw))) (mvT hZ (ow32 hw)) (mvT hZ (ow31 hw)) (by decide) (backOf (W := 0) (rm4 l Z a0 hw [] b19 p0_0 (7 : Int32) (5000 : Int64) y23 y25 (-1 : Int32) y24 (0 : Int32) y26 y27 (0 : Int32) T22.heap n0 Z22 P22_1 P22_4 P22_2 P22_0 g_b19 P22_3 P22_7 P22_5 P22_6 P22_8) hZ (ow33 hw) (ow2 hw) (by decide) (by decide)) q31a q31c (g := (mkF m 88 A21 [(.long (5000 : Int64)), (.int (7 : Int32)), (.int p0_0), (.ref b19)])) rfl (by rw [hml]; rfl) (Steps.refl _) (argsL := [(.int p0_0), (.int (7 : Int32)), (.long (5000 : Int64))]) (rest := []) (lenOf pd__IIJ_Z rfl) rfl (by show 2 * 0 + _ ≤ _; exact Nat.le_of_eq rfl) (hb hby at_88) (fun _ _ => ⟨rfl, rfl, (by decide : 1 + 0 ≤ _), (by decide : 8 + 0 ≤ _)⟩)
    dsimp only [Pt.U, Pt.locs, Pt.cells, Pt.slots] at X31 l31 y31 z31 st31 hQ31
    subst l31 y31 z31
    obtain ⟨rfl, Nq31, Kc31, P31_0, P31_1, P31_2, P31_3, P31_4, P31_5, P31_6, P31_7, P31_8⟩ := hQ31
    have K31 : Keep h0 T31.heap [] := Keep.trans K22 Kc31 (allS (P := fun x => x ∈ ([] : List Addr) ∨ h0.size ≤ x) (Or.inr sz_b19) all0)
    have Z31 : n0 ≤ T31.heap.size := Nat.le_trans Z0 K31.1
    obtain ⟨y32, hy32⟩ : ∃ z : Int32, z = (if (¬ (y23 = p0_0) ∧ ¬ (((5000 : Int64) - y25) < (5000 : Int64))) then p0_0 else y23) := ⟨_, rfl⟩
    rw [← hy32] at P31_0
    obtain ⟨y33, hy33⟩ : ∃ z : Int32, z = (if (¬ (y23 = p0_0) ∧ ¬ (((5000 : Int64) - y25) < (5000 : Int64))) then y23 else (-1 : Int32)) := ⟨_, rfl⟩
    rw [← hy33] at P31_2
    obtain ⟨y34, hy34⟩ : ∃ z : Int32, z = (if (¬ (y23 = p0_0) ∧ ¬ (((5000 : Int64) - y25) < (5000 : Int64))) then (7 : Int32) else (if y23 = p0_0 then (7 : Int32) else y24)) := ⟨_, rfl⟩
    rw [← hy34] at P31_3
    obtain ⟨y35, hy35⟩ : ∃ z : Int32, z = (if (¬ (y23 = p0_0) ∧ ¬ (((5000 : Int64) - y25) < (5000 : Int64))) then y24 else (0 : Int32)) := ⟨_, rfl⟩
    rw [← hy35] at P31_4
    obtain ⟨y36, hy36⟩ : ∃ z : Int64, z = (if (¬ (y23 = p0_0) ∧ ¬ (((5000 : Int64) - y25) < (5000 : Int64))) then (5000 : Int64) else y26) := ⟨_, rfl⟩
    rw [← hy36] at P31_5
    obtain ⟨y37, hy37⟩ : ∃ z : Int64, z = (if (¬ (y23 = p0_0) ∧ ¬ (((5000 : Int64) - y25) < (5000 : Int64))) then (5000 : Int64) else (if y23 = p0_0 then (5000 : Int64) else y25)) := ⟨_, rfl⟩
    rw [← hy37] at P31_6
    obtain ⟨y38, hy38⟩ : ∃ z : Int64, z = (if (5000 : Int64) < y27 then y27 else (9223372036854775807 : Int64)) := ⟨_, rfl⟩
    rw [← hy38] at P31_7
    obtain ⟨y39, hy39⟩ : ∃ z : Int32, z = (if (¬ (y23 = p0_0) ∧ ¬ (((5000 : Int64) - y25) < (5000 : Int64))) then (if (5000 : Int64) < y27 then (0 : Int32) else (nar .boolean ((0 : Int32) ||| (if ¬ (((5000 : Int64) - (5000 : Int64)) < (2500 : Int64)) then (1 : Int32) else (0 : Int32))))) else (if y23 = p0_0 then (if (5000 : Int64) < y27 then (0 : Int32) else (nar .boolean ((0 : Int32) ||| (if ¬ (((5000 : Int64) - (5000 : Int64)) < (2500 : Int64)) then (1 : Int32) else (0 : Int32))))) else (if (5000 : Int64) < y27 then (0 : Int32) else (nar .boolean ((0 : Int32) ||| (if ¬ (((5000 : Int64) - y25) < (2500 : Int64)) then (1 : Int32) else (0 : Int32))))))) := ⟨_, rfl⟩
    rw [← hy39] at P31_8
    have N31 := Fr.app N22 Nq31
    obtain ⟨x40, hx40⟩ : ∃ z : Int32, z = (if (¬ (y23 = p0_0) ∧ ¬ (((5000 : Int64) - y25) < (5000 : Int64))) then (1 : Int32) else (0 : Int32)) := ⟨_, rfl⟩
    have G41 : ∀ t, Steps p.tables e below (T31.setTop (mkF m 97 A21 [(.int (lcmpW q0_3 (5000 : Int64)))])) t → Steps p.tables e below (T22.setTop (mkF m 77 A21 [(.int v4)])) t := by
      intro t k
      show Steps p.tables e below (T22.setTop (mkF m 77 A21 [(.int v4)])) _
      refine XS.ifNo X22.here hx rfl (hb hby at_77) rfl ((if0 _ _).trans (feq (own_b1 (hv4.trans (if_pos h77_30)))).1) ?_
      show Steps p.tables e below (T22.setTop (mkF m 80 A21 [])) _
      refine XS.aload X22.here hx rfl (hb hby at_80) rfl rfl ?_
      show Steps p.tables e below (T22.setTop (mkF m 82 A21 [(.ref b19)])) _
      refine XS.iloadN X22.here hx rfl (hb hby at_82) rfl ?_
      show Steps p.tables e below (T22.setTop (mkF m 83 A21 [(.int p0_0), (.ref b19)])) _
      refine XS.bipush X22.here hx rfl (hb hby at_83) ?_
      show Steps p.tables e below (T22.setTop (mkF m 85 A21 [(.int (7 : Int32)), (.int p0_0), (.ref b19)])) _
      refine X22.ldc2Long hx hown (mvT hZ (ow28 hw)) (g := (mkF m 85 A21 [(.int (7 : Int32)), (.int p0_0), (.ref b19)])) rfl (hb hby at_85) _ ?_
      show Steps p.tables e below (T22.setTop (mkF m 88 A21 [(.long (5000 : Int64)), (.int (7 : Int32)), (.int p0_0), (.ref b19)])) _
      refine st31.trans ?_
      show Steps p.tables e below (T31.setTop (mkF m 91 A21 [(.int (if (¬ (y23 = p0_0) ∧ ¬ (((5000 : Int64) - y25) < (5000 : Int64))) then (1 : Int32) else (0 : Int32)))])) _
      rw [← hx40]
      show Steps p.tables e below (T31.setTop (mkF m 91 A21 [(.int x40)])) _
      refine XS.pop X31.here hx rfl (hb hby at_91) rfl rfl ?_
      show Steps p.tables e below (T31.setTop (mkF m 92 A21 [])) _
      refine XS.lloadN X31.here hx rfl (hb hby at_92) rfl ?_
      show Steps p.tables e below (T31.setTop (mkF m 93 A21 [(.long q0_3)])) _
      refine X31.ldc2Long hx hown (mvT hZ (ow28 hw)) (g := (mkF m 93 A21 [(.long q0_3)])) rfl (hb hby at_93) _ ?_
      show Steps p.tables e below (T31.setTop (mkF m 96 A21 [(.long (5000 : Int64)), (.long q0_3)])) _
      refine XS.lcmp X31.here hx rfl (hb hby at_96) rfl ?_
      exact k
    obtain ⟨v43, hv43⟩ : ∃ z : Int32, z = (if q0_3 < (5000 : Int64) then (1 : Int32) else (0 : Int32)) := ⟨_, rfl⟩
    obtain ⟨T44, Lo44, X44, N44, e44, G44⟩ := own_join X31 N31 (h := T31.heap) (mkF m 97 A21 [(.int (lcmpW q0_3 (5000 : Int64)))]) (mkF m 105 A21 [(.int v43)]) (by
      by_cases h97_42 : q0_3 < (5000 : Int64)
      · refine ⟨T31, _, X31, N31, rfl, fun t k => ?_⟩
        rw [show v43 = (1 : Int32) from hv43.trans (if_pos h97_42)] at k
        show Steps p.tables e below (T31.setTop (mkF m 97 A21 [(.int (lcmpW q0_3 (5000 : Int64)))])) _
        refine XS.ifNo X31.here hx rfl (hb hby at_97) rfl ((if0 _ _).trans (tlt ((lw_lt _ _).mpr h97_42)).2.1) ?_
        show Steps p.tables e below (T31.setTop (mkF m 100 A21 [])) _
        refine XS.iconst X31.here hx rfl (hb hby at_100) ?_
        show Steps p.tables e below (T31.setTop (mkF m 101 A21 [(.int (1 : Int32))])) _
        refine XS.goto X31.here hx rfl (pc0 := 101) (pc' := 105) rfl (hb hby at_101) (by decide) (by decide) ?_
        exact k
      · refine ⟨T31, _, X31, N31, rfl, fun t k => ?_⟩
        rw [show v43 = (0 : Int32) from hv43.trans (if_neg h97_42)] at k
        show Steps p.tables e below (T31.setTop (mkF m 97 A21 [(.int (lcmpW q0_3 (5000 : Int64)))])) _
        refine XS.ifYes X31.here hx rfl (pc0 := 97) (pc' := 104) rfl (hb hby at_97) rfl ((if0 _ _).trans (flt (fun q => h97_42 ((lw_lt _ _).mp q))).2.1) (by decide) (by decide) ?_
        show Steps p.tables e below (T31.setTop (mkF m 104 A21 [])) _
        refine XS.iconst X31.here hx rfl (hb hby at_104) ?_
        exact k)
    let A45 : Array Slot := #[.val (.int p0_0), .val (.int p0_1), .val (.int p0_2), .val (.long q0_3), .second, .val (.long q0_4), .second, .val (.int p0_5), .val (.int v4), .val (.int x7), .val (.int v11), .val (.int v16), .val (.ref b19), .unset, .unset, .unset, .unset, .unset, .unset, .val (.int v43), .unset, .unset, .unset, .unset, .unset, .unset, .unset, .unset, .unset, .unset, .unset, .unset, .unset, .unset, .unset, .unset, .unset]
    let A46 : Array Slot := #[.val (.int p0_0), .val (.int p0_1), .val (.int p0_2), .val (.long q0_3), .second, .val (.long q0_4), .second, .val (.int p0_5), .val (.int v4), .val (.int x7), .val (.int v11), .val (.int v16), .val (.ref b19), .val (.int (7 : Int32)), .unset, .unset, .unset, .unset, .unset, .val (.int v43), .unset, .unset, .unset, .unset, .unset, .unset, .unset, .unset, .unset, .unset, .unset, .unset, .unset, .unset, .unset, .unset, .unset]
    let A47 : Array Slot := #[.val (.int p0_0), .val (.int p0_1), .val (.int p0_2), .val (.long q0_3), .second, .val (.long q0_4), .second, .val (.int p0_5), .val (.int v4), .val (.int x7), .val (.int v11), .val (.int v16), .val (.ref b19), .val (.int (7 : Int32)), .val (.long (5000 : Int64)), .second, .unset, .unset, .unset, .val (.int v43), .unset, .unset, .unset, .unset, .unset, .unset, .unset, .unset, .unset, .unset, .unset, .unset, .unset, .unset, .unset, .unset, .unset]
    have G48 : ∀ t, Steps p.tables e below (T44.setTop (mkF m 123 A47 [(.int p0_0), (.int p0_1)])) t → Steps p.tables e below (T44.setTop (mkF m 105 A21 [(.int v43)])) t := by
      intro t k
      show Steps p.tables e below (T44.setTop (mkF m 105 A21 [(.int v43)])) _
      refine XS.istore X44.here hx rfl (hb hby at_105) rfl (l' := A45) rfl ?_
      show Steps p.tables e below (T44.setTop (mkF m 107 A45 [])) _
      refine XS.iload X44.here hx rfl (hb hby at_107) rfl ?_
      show Steps p.tables e below (T44.setTop (mkF m 109 A45 [(.int v4)])) _
      refine XS.ifNo X44.here hx rfl (hb hby at_109) rfl ((if0 _ _).trans (feq (own_b1 (hv4.trans (if_pos h77_30)))).1) ?_
      show Steps p.tables e below (T44.setTop (mkF m 112 A45 [])) _
      refine XS.bipush X44.here hx rfl (hb hby at_112) ?_
      show Steps p.tables e below (T44.setTop (mkF m 114 A45 [(.int (7 : Int32))])) _
      refine XS.istore X44.here hx rfl (hb hby at_114) rfl (l' := A46) rfl ?_
      show Steps p.tables e below (T44.setTop (mkF m 116 A46 [])) _
      refine X44.ldc2Long hx hown (mvT hZ (ow28 hw)) (g := (mkF m 116 A46 [])) rfl (hb hby at_116) _ ?_
      show Steps p.tables e below (T44.setTop (mkF m 119 A46 [(.long (5000 : Int64))])) _
      refine XS.lstore X44.here hx rfl (hb hby at_119) rfl (l' := A47) rfl ?_
      show Steps p.tables e below (T44.setTop (mkF m 121 A47 [])) _
      refine XS.iloadN X44.here hx rfl (hb hby at_121) rfl ?_
      show Steps p.tables e below (T44.setTop (mkF m 122 A47 [(.int p0_1)])) _
      refine XS.iloadN X44.here hx rfl (hb hby at_122) rfl ?_
      exact k
    obtain ⟨v50, hv50⟩ : ∃ z : Int64, z = (if p0_1 = p0_0 then (0 : Int64) else (5000 : Int64)) := ⟨_, rfl⟩
    obtain ⟨T51, Lo51, X51, N51, e51, G51⟩ := own_join X44 N44 (h := T31.heap) (mkF m 123 A47 [(.int p0_0), (.int p0_1)]) (mkF m 133 A47 [(.long v50)]) (by
      by_cases h123_49 : p0_1 = p0_0
      · refine ⟨T44, _, X44, N44, e44, fun t k => ?_⟩
        rw [show v50 = (0 : Int64) from hv50.trans (if_pos h123_49)] at k
        show Steps p.tables e below (T44.setTop (mkF m 123 A47 [(.int p0_0), (.int p0_1)])) _
        refine XS.icmpYes X44.here hx rfl (pc0 := 123) (pc' := 132) rfl (hb hby at_123) rfl (teq h123_49).1 (by decide) (by decide) ?_
        show Steps p.tables e below (T44.setTop (mkF m 132 A47 [])) _
        refine XS.lconst X44.here hx rfl (hb hby at_132) ?_
        exact k
      · refine ⟨T44, _, X44, N44, e44, fun t k => ?_⟩
        rw [show v50 = (5000 : Int64) from hv50.trans (if_neg h123_49)] at k
        show Steps p.tables e below (T44.setTop (mkF m 123 A47 [(.int p0_0), (.int p0_1)])) _
        refine XS.icmpNo X44.here hx rfl (hb hby at_123) rfl (feq h123_49).1 ?_
        show Steps p.tables e below (T44.setTop (mkF m 126 A47 [])) _
        refine X44.ldc2Long hx hown (mvT hZ (ow28 hw)) (g := (mkF m 126 A47 [])) rfl (hb hby at_126) _ ?_
        show Steps p.tables e below (T44.setTop (mkF m 129 A47 [(.long (5000 : Int64))])) _
        refine XS.goto X44.here hx rfl (pc0 := 129) (pc' := 133) rfl (hb hby at_129) (by decide) (by decide) ?_
        exact k)
    let A52 : Array Slot := #[.val (.int p0_0), .val (.int p0_1), .val (.int p0_2), .val (.long q0_3), .second, .val (.long q0_4), .second, .val (.int p0_5), .val (.int v4), .val (.int x7), .val (.int v11), .val (.int v16), .val (.ref b19), .val (.int (7 : Int32)), .val (.long (5000 : Int64)), .second, .val (.long v50), .second, .unset, .val (.int v43), .unset, .unset, .unset, .unset, .unset, .unset, .unset, .unset, .unset, .unset, .unset, .unset, .unset, .unset, .unset, .unset, .unset]
    have G53 : ∀ t, Steps p.tables e below (T51.setTop (mkF m 137 A52 [(.int v43)])) t → Steps p.tables e below (T51.setTop (mkF m 133 A47 [(.long v50)])) t := by
      intro t k
      show Steps p.tables e below (T51.setTop (mkF m 133 A47 [(.long v50)])) _
      refine XS.lstore X51.here hx rfl (hb hby at_133) rfl (l' := A52) rfl ?_
      show Steps p.tables e below (T51.setTop (mkF m 135 A52 [])) _
      refine XS.iload X51.here hx rfl (hb hby at_135) rfl ?_
      exact k
    obtain ⟨v59, hv59⟩ : ∃ z : Int32, z = (if (q0_3 < (5000 : Int64) ∧ (p0_1 < p0_0 ∧ v11 < p0_2)) then (1 : Int32) else (0 : Int32)) := ⟨_, rfl⟩
    obtain ⟨T60, Lo60, X60, N60, e60, G60⟩ := own_join X51 N51 (h := T31.heap) (mkF m 137 A52 [(.int v43)]) (mkF m 156 A52 [(.int v59)]) (by
      by_cases h137_54 : q0_3 < (5000 : Int64)
      · have G55 : ∀ t, Steps p.tables e below (T51.setTop (mkF m 142 A52 [(.int p0_0), (.int p0_1)])) t → Steps p.tables e below (T51.setTop (mkF m 137 A52 [(.int v43)])) t := by
          intro t k
          show Steps p.tables e below (T51.setTop (mkF m 137 A52 [(.int v43)])) _
          refine XS.ifNo X51.here hx rfl (hb hby at_137) rfl ((if0 _ _).trans (feq (own_b1 (hv43.trans (if_pos h137_54)))).1) ?_
          show Steps p.tables e below (T51.setTop (mkF m 140 A52 [])) _
          refine XS.iloadN X51.here hx rfl (hb hby at_140) rfl ?_
          show Steps p.tables e below (T51.setTop (mkF m 141 A52 [(.int p0_1)])) _
          refine XS.iloadN X51.here hx rfl (hb hby at_141) rfl ?_
          exact k
        by_cases h142_56 : p0_1 < p0_0
        · have G57 : ∀ t, Steps p.tables e below (T51.setTop (mkF m 148 A52 [(.int v11), (.int p0_2)])) t → Steps p.tables e below (T51.setTop (mkF m 142 A52 [(.int p0_0), (.int p0_1)])) t := by
            intro t k
            show Steps p.tables e below (T51.setTop (mkF m 142 A52 [(.int p0_0), (.int p0_1)])) _
            refine XS.icmpNo X51.here hx rfl (hb hby at_142) rfl (tlt h142_56).2.1 ?_
            show Steps p.tables e below (T51.setTop (mkF m 145 A52 [])) _
            refine XS.iloadN X51.here hx rfl (hb hby at_145) rfl ?_
            show Steps p.tables e below (T51.setTop (mkF m 146 A52 [(.int p0_2)])) _
            refine XS.iload X51.here hx rfl (hb hby at_146) rfl ?_
            exact k
          by_cases h148_58 : v11 < p0_2
          · refine ⟨T51, _, X51, N51, e51, fun t k => ?_⟩
            rw [show v59 = (1 : Int32) from hv59.trans (if_pos ⟨h137_54, ⟨h142_56, h148_58⟩⟩)] at k
            refine G55 _ ?_
            refine G57 _ ?_
            show Steps p.tables e below (T51.setTop (mkF m 148 A52 [(.int v11), (.int p0_2)])) _
            refine XS.icmpNo X51.here hx rfl (hb hby at_148) rfl (tlt h148_58).2.2.2 ?_
            show Steps p.tables e below (T51.setTop (mkF m 151 A52 [])) _
            refine XS.iconst X51.here hx rfl (hb hby at_151) ?_
            show Steps p.tables e below (T51.setTop (mkF m 152 A52 [(.int (1 : Int32))])) _
            refine XS.goto X51.here hx rfl (pc0 := 152) (pc' := 156) rfl (hb hby at_152) (by decide) (by decide) ?_
            exact k
          · refine ⟨T51, _, X51, N51, e51, fun t k => ?_⟩
            rw [show v59 = (0 : Int32) from hv59.trans (if_neg (fun q => (fun q => h148_58 q.2) q.2))] at k
            refine G55 _ ?_
            refine G57 _ ?_
            show Steps p.tables e below (T51.setTop (mkF m 148 A52 [(.int v11), (.int p0_2)])) _
            refine XS.icmpYes X51.here hx rfl (pc0 := 148) (pc' := 155) rfl (hb hby at_148) rfl (flt h148_58).2.2.2 (by decide) (by decide) ?_
            show Steps p.tables e below (T51.setTop (mkF m 155 A52 [])) _
            refine XS.iconst X51.here hx rfl (hb hby at_155) ?_
            exact k
        · refine ⟨T51, _, X51, N51, e51, fun t k => ?_⟩
          rw [show v59 = (0 : Int32) from hv59.trans (if_neg (fun q => (fun q => h142_56 q.1) q.2))] at k
          refine G55 _ ?_
          show Steps p.tables e below (T51.setTop (mkF m 142 A52 [(.int p0_0), (.int p0_1)])) _
          refine XS.icmpYes X51.here hx rfl (pc0 := 142) (pc' := 155) rfl (hb hby at_142) rfl (flt h142_56).2.1 (by decide) (by decide) ?_
          show Steps p.tables e below (T51.setTop (mkF m 155 A52 [])) _
          refine XS.iconst X51.here hx rfl (hb hby at_155) ?_
          exact k
      · refine ⟨T51, _, X51, N51, e51, fun t k => ?_⟩
        rw [show v59 = (0 : Int32) from hv59.trans (if_neg (fun q => h137_54 q.1))] at k
        show Steps p.tables e below (T51.setTop (mkF m 137 A52 [(.int v43)])) _
        refine XS.ifYes X51.here hx rfl (pc0 := 137) (pc' := 155) rfl (hb hby at_137) rfl ((if0 _ _).trans (teq (hv43.trans (if_neg h137_54))).1) (by decide) (by decide) ?_
        show Steps p.tables e below (T51.setTop (mkF m 155 A52 [])) _
        refine XS.iconst X51.here hx rfl (hb hby at_155) ?_
        exact k)
    let A61 : Array Slot := #[.val (.int p0_0), .val (.int p0_1), .val (.int p0_2), .val (.long q0_3), .second, .val (.long q0_4), .second, .val (.int p0_5), .val (.int v4), .val (.int x7), .val (.int v11), .val (.int v16), .val (.ref b19), .val (.int (7 : Int32)), .val (.long (5000 : Int64)), .second, .val (.long v50), .second, .val (.int v59), .val (.int v43), .unset, .unset, .unset, .unset, .unset, .unset, .unset, .unset, .unset, .unset, .unset, .unset, .unset, .unset, .unset, .unset, .unset]
    have G62 : ∀ t, Steps p.tables e below (T60.setTop (mkF m 199 A61 [(.int p0_0), (.int p0_1)])) t → Steps p.tables e below (T60.setTop (mkF m 156 A52 [(.int v59)])) t := by
      intro t k
      show Steps p.tables e below (T60.setTop (mkF m 156 A52 [(.int v59)])) _
      refine XS.istore X60.here hx rfl (hb hby at_156) rfl (l' := A61) rfl ?_
      show Steps p.tables e below (T60.setTop (mkF m 158 A61 [])) _
      refine XS.goto X60.here hx rfl (pc0 := 158) (pc' := 197) rfl (hb hby at_158) (by decide) (by decide) ?_
      show Steps p.tables e below (T60.setTop (mkF m 197 A61 [])) _
      refine XS.iloadN X60.here hx rfl (hb hby at_197) rfl ?_
      show Steps p.tables e below (T60.setTop (mkF m 198 A61 [(.int p0_1)])) _
      refine XS.iloadN X60.here hx rfl (hb hby at_198) rfl ?_
      exact k
    obtain ⟨v66, hv66⟩ : ∃ z : Int32, z = (if (p0_1 = p0_0 ∧ (7 : Int32) < p0_2) then (1 : Int32) else (0 : Int32)) := ⟨_, rfl⟩
    obtain ⟨T67, Lo67, X67, N67, e67, G67⟩ := own_join X60 N60 (h := T31.heap) (mkF m 199 A61 [(.int p0_0), (.int p0_1)]) (mkF m 213 A61 [(.int v66)]) (by
      by_cases h199_63 : p0_1 = p0_0
      · have G64 : ∀ t, Steps p.tables e below (T60.setTop (mkF m 205 A61 [(.int (7 : Int32)), (.int p0_2)])) t → Steps p.tables e below (T60.setTop (mkF m 199 A61 [(.int p0_0), (.int p0_1)])) t := by
          intro t k
          show Steps p.tables e below (T60.setTop (mkF m 199 A61 [(.int p0_0), (.int p0_1)])) _
          refine XS.icmpNo X60.here hx rfl (hb hby at_199) rfl (teq h199_63).2 ?_
          show Steps p.tables e below (T60.setTop (mkF m 202 A61 [])) _
          refine XS.iloadN X60.here hx rfl (hb hby at_202) rfl ?_
          show Steps p.tables e below (T60.setTop (mkF m 203 A61 [(.int p0_2)])) _
          refine XS.iload X60.here hx rfl (hb hby at_203) rfl ?_
          exact k
        by_cases h205_65 : (7 : Int32) < p0_2
        · refine ⟨T60, _, X60, N60, e60, fun t k => ?_⟩
          rw [show v66 = (1 : Int32) from hv66.trans (if_pos ⟨h199_63, h205_65⟩)] at k
          refine G64 _ ?_
          show Steps p.tables e below (T60.setTop (mkF m 205 A61 [(.int (7 : Int32)), (.int p0_2)])) _
          refine XS.icmpNo X60.here hx rfl (hb hby at_205) rfl (tlt h205_65).2.2.2 ?_
          show Steps p.tables e below (T60.setTop (mkF m 208 A61 [])) _
          refine XS.iconst X60.here hx rfl (hb hby at_208) ?_
          show Steps p.tables e below (T60.setTop (mkF m 209 A61 [(.int (1 : Int32))])) _
          refine XS.goto X60.here hx rfl (pc0 := 209) (pc' := 213) rfl (hb hby at_209) (by decide) (by decide) ?_
          exact k
        · refine ⟨T60, _, X60, N60, e60, fun t k => ?_⟩
          rw [show v66 = (0 : Int32) from hv66.trans (if_neg (fun q => h205_65 q.2))] at k
          refine G64 _ ?_
          show Steps p.tables e below (T60.setTop (mkF m 205 A61 [(.int (7 : Int32)), (.int p0_2)])) _
          refine XS.icmpYes X60.here hx rfl (pc0 := 205) (pc' := 212) rfl (hb hby at_205) rfl (flt h205_65).2.2.2 (by decide) (by decide) ?_
          show Steps p.tables e below (T60.setTop (mkF m 212 A61 [])) _
          refine XS.iconst X60.here hx rfl (hb hby at_212) ?_
          exact k
      · refine ⟨T60, _, X60, N60, e60, fun t k => ?_⟩
        rw [show v66 = (0 : Int32) from hv66.trans (if_neg (fun q => h199_63 q.1))] at k
        show Steps p.tables e below (T60.setTop (mkF m 199 A61 [(.int p0_0), (.int p0_1)])) _
        refine XS.icmpYes X60.here hx rfl (pc0 := 199) (pc' := 212) rfl (hb hby at_199) rfl (feq h199_63).2 (by decide) (by decide) ?_
        show Steps p.tables e below (T60.setTop (mkF m 212 A61 [])) _
        refine XS.iconst X60.here hx rfl (hb hby at_212) ?_
        exact k)
    let A68 : Array Slot := #[.val (.int p0_0), .val (.int p0_1), .val (.int p0_2), .val (.long q0_3), .second, .val (.long q0_4), .second, .val (.int p0_5), .val (.int v4), .val (.int x7), .val (.int v11), .val (.int v16), .val (.ref b19), .val (.int (7 : Int32)), .val (.long (5000 : Int64)), .second, .val (.long v50), .second, .val (.int v59), .val (.int v43), .val (.int v66), .unset, .unset, .unset, .unset, .unset, .unset, .unset, .unset, .unset, .unset, .unset, .unset, .unset, .unset, .unset, .unset]
    have G69 : ∀ t, Steps p.tables e below (T67.setTop (mkF m 217 A68 [(.int v59)])) t → Steps p.tables e below (T67.setTop (mkF m 213 A61 [(.int v66)])) t := by
      intro t k
      show Steps p.tables e below (T67.setTop (mkF m 213 A61 [(.int v66)])) _
      refine XS.istore X67.here hx rfl (hb hby at_213) rfl (l' := A68) rfl ?_
      show Steps p.tables e below (T67.setTop (mkF m 215 A68 [])) _
      refine XS.iload X67.here hx rfl (hb hby at_215) rfl ?_
      exact k
    obtain ⟨v73, hv73⟩ : ∃ z : Int32, z = (if ((q0_3 < (5000 : Int64) ∧ (p0_1 < p0_0 ∧ v11 < p0_2)) ∨ (p0_1 = p0_0 ∧ (7 : Int32) < p0_2)) then (1 : Int32) else (0 : Int32)) := ⟨_, rfl⟩
    obtain ⟨T74, Lo74, X74, N74, e74, G74⟩ := own_join X67 N67 (h := T31.heap) (mkF m 217 A68 [(.int v59)]) (mkF m 230 A68 [(.int v73)]) (by
      by_cases h217_70 : (q0_3 < (5000 : Int64) ∧ (p0_1 < p0_0 ∧ v11 < p0_2))
      · refine ⟨T67, _, X67, N67, e67, fun t k => ?_⟩
        rw [show v73 = (1 : Int32) from hv73.trans (if_pos (Or.inl h217_70))] at k
        show Steps p.tables e below (T67.setTop (mkF m 217 A68 [(.int v59)])) _
        refine XS.ifYes X67.here hx rfl (pc0 := 217) (pc' := 225) rfl (hb hby at_217) rfl ((if0 _ _).trans (feq (own_b1 (hv59.trans (if_pos h217_70)))).2) (by decide) (by decide) ?_
        show Steps p.tables e below (T67.setTop (mkF m 225 A68 [])) _
        refine XS.iconst X67.here hx rfl (hb hby at_225) ?_
        show Steps p.tables e below (T67.setTop (mkF m 226 A68 [(.int (1 : Int32))])) _
        refine XS.goto X67.here hx rfl (pc0 := 226) (pc' := 230) rfl (hb hby at_226) (by decide) (by decide) ?_
        exact k
      · have G71 : ∀ t, Steps p.tables e below (T67.setTop (mkF m 222 A68 [(.int v66)])) t → Steps p.tables e below (T67.setTop (mkF m 217 A68 [(.int v59)])) t := by
          intro t k
          show Steps p.tables e below (T67.setTop (mkF m 217 A68 [(.int v59)])) _
          refine XS.ifNo X67.here hx rfl (hb hby at_217) rfl ((if0 _ _).trans (teq (hv59.trans (if_neg h217_70))).2) ?_
          show Steps p.tables e below (T67.setTop (mkF m 220 A68 [])) _
          refine XS.iload X67.here hx rfl (hb hby at_220) rfl ?_
          exact k
        by_cases h222_72 : (p0_1 = p0_0 ∧ (7 : Int32) < p0_2)
        · refine ⟨T67, _, X67, N67, e67, fun t k => ?_⟩
          rw [show v73 = (1 : Int32) from hv73.trans (if_pos (Or.inr h222_72))] at k
          refine G71 _ ?_
          show Steps p.tables e below (T67.setTop (mkF m 222 A68 [(.int v66)])) _
          refine XS.ifNo X67.here hx rfl (hb hby at_222) rfl ((if0 _ _).trans (feq (own_b1 (hv66.trans (if_pos h222_72)))).1) ?_
          show Steps p.tables e below (T67.setTop (mkF m 225 A68 [])) _
          refine XS.iconst X67.here hx rfl (hb hby at_225) ?_
          show Steps p.tables e below (T67.setTop (mkF m 226 A68 [(.int (1 : Int32))])) _
          refine XS.goto X67.here hx rfl (pc0 := 226) (pc' := 230) rfl (hb hby at_226) (by decide) (by decide) ?_
          exact k
        · refine ⟨T67, _, X67, N67, e67, fun t k => ?_⟩
          rw [show v73 = (0 : Int32) from hv73.trans (if_neg (fun q => q.elim h217_70 h222_72))] at k
          refine G71 _ ?_
          show Steps p.tables e below (T67.setTop (mkF m 222 A68 [(.int v66)])) _
          refine XS.ifYes X67.here hx rfl (pc0 := 222) (pc' := 229) rfl (hb hby at_222) rfl ((if0 _ _).trans (teq (hv66.trans (if_neg h222_72))).1) (by decide) (by decide) ?_
          show Steps p.tables e below (T67.setTop (mkF m 229 A68 [])) _
          refine XS.iconst X67.here hx rfl (hb hby at_229) ?_
          exact k)
    let A75 : Array Slot := #[.val (.int p0_0), .val (.int p0_1), .val (.int p0_2), .val (.long q0_3), .second, .val (.long q0_4), .second, .val (.int p0_5), .val (.int v4), .val (.int x7), .val (.int v11), .val (.int v16), .val (.ref b19), .val (.int (7 : Int32)), .val (.long (5000 : Int64)), .second, .val (.long v50), .second, .val (.int v59), .val (.int v43), .val (.int v66), .val (.int v73), .unset, .unset, .unset, .unset, .unset, .unset, .unset, .unset, .unset, .unset, .unset, .unset, .unset, .unset, .unset]
    have G76 : ∀ t, Steps p.tables e below (T74.setTop (mkF m 234 A75 [(.int v73)])) t → Steps p.tables e below (T74.setTop (mkF m 230 A68 [(.int v73)])) t := by
      intro t k
      show Steps p.tables e below (T74.setTop (mkF m 230 A68 [(.int v73)])) _
      refine XS.istore X74.here hx rfl (hb hby at_230) rfl (l' := A75) rfl ?_
      show Steps p.tables e below (T74.setTop (mkF m 232 A75 [])) _
      refine XS.iload X74.here hx rfl (hb hby at_232) rfl ?_
      exact k
    obtain ⟨v78, hv78⟩ : ∃ z : Int32, z = (if ((q0_3 < (5000 : Int64) ∧ (p0_1 < p0_0 ∧ v11 < p0_2)) ∨ (p0_1 = p0_0 ∧ (7 : Int32) < p0_2)) then p0_1 else p0_0) := ⟨_, rfl⟩
    obtain ⟨T79, Lo79, X79, N79, e79, G79⟩ := own_join X74 N74 (h := T31.heap) (mkF m 234 A75 [(.int v73)]) (mkF m 242 A75 [(.int v78)]) (by
      by_cases h234_77 : ((q0_3 < (5000 : Int64) ∧ (p0_1 < p0_0 ∧ v11 < p0_2)) ∨ (p0_1 = p0_0 ∧ (7 : Int32) < p0_2))
      · refine ⟨T74, _, X74, N74, e74, fun t k => ?_⟩
        rw [show v78 = p0_1 from hv78.trans (if_pos h234_77)] at k
        show Steps p.tables e below (T74.setTop (mkF m 234 A75 [(.int v73)])) _
        refine XS.ifNo X74.here hx rfl (hb hby at_234) rfl ((if0 _ _).trans (feq (own_b1 (hv73.trans (if_pos h234_77)))).1) ?_
        show Steps p.tables e below (T74.setTop (mkF m 237 A75 [])) _
        refine XS.iloadN X74.here hx rfl (hb hby at_237) rfl ?_
        show Steps p.tables e below (T74.setTop (mkF m 238 A75 [(.int p0_1)])) _
        refine XS.goto X74.here hx rfl (pc0 := 238) (pc' := 242) rfl (hb hby at_238) (by decide) (by decide) ?_
        exact k
      · refine ⟨T74, _, X74, N74, e74, fun t k => ?_⟩
        rw [show v78 = p0_0 from hv78.trans (if_neg h234_77)] at k
        show Steps p.tables e below (T74.setTop (mkF m 234 A75 [(.int v73)])) _
        refine XS.ifYes X74.here hx rfl (pc0 := 234) (pc' := 241) rfl (hb hby at_234) rfl ((if0 _ _).trans (teq (hv73.trans (if_neg h234_77))).1) (by decide) (by decide) ?_
        show Steps p.tables e below (T74.setTop (mkF m 241 A75 [])) _
        refine XS.iloadN X74.here hx rfl (hb hby at_241) rfl ?_
        exact k)
    let A80 : Array Slot := #[.val (.int p0_0), .val (.int p0_1), .val (.int p0_2), .val (.long q0_3), .second, .val (.long q0_4), .second, .val (.int p0_5), .val (.int v4), .val (.int x7), .val (.int v11), .val (.int v16), .val (.ref b19), .val (.int (7 : Int32)), .val (.long (5000 : Int64)), .second, .val (.long v50), .second, .val (.int v59), .val (.int v43), .val (.int v66), .val (.int v73), .val (.int v78), .unset, .unset, .unset, .unset, .unset, .unset, .unset, .unset, .unset, .unset, .unset, .unset, .unset, .unset]
    have G81 : ∀ t, Steps p.tables e below (T79.setTop (mkF m 246 A80 [(.int v73)])) t → Steps p.tables e below (T79.setTop (mkF m 242 A75 [(.int v78)])) t := by
      intro t k
      show Steps p.tables e below (T79.setTop (mkF m 242 A75 [(.int v78)])) _
      refine XS.istore X79.here hx rfl (hb hby at_242) rfl (l' := A80) rfl ?_
      show Steps p.tables e below (T79.setTop (mkF m 244 A80 [])) _
      refine XS.iload X79.here hx rfl (hb hby at_244) rfl ?_
      exact k
    obtain ⟨v83, hv83⟩ : ∃ z : Int32, z = (if ((q0_3 < (5000 : Int64) ∧ (p0_1 < p0_0 ∧ v11 < p0_2)) ∨ (p0_1 = p0_0 ∧ (7 : Int32) < p0_2)) then p0_2 else (7 : Int32)) := ⟨_, rfl⟩
    obtain ⟨T84, Lo84, X84, N84, e84, G84⟩ := own_join X79 N79 (h := T31.heap) (mkF m 246 A80 [(.int v73)]) (mkF m 255 A80 [(.int v83)]) (by
      by_cases h246_82 : ((q0_3 < (5000 : Int64) ∧ (p0_1 < p0_0 ∧ v11 < p0_2)) ∨ (p0_1 = p0_0 ∧ (7 : Int32) < p0_2))
      · refine ⟨T79, _, X79, N79, e79, fun t k => ?_⟩
        rw [show v83 = p0_2 from hv83.trans (if_pos h246_82)] at k
        show Steps p.tables e below (T79.setTop (mkF m 246 A80 [(.int v73)])) _
        refine XS.ifNo X79.here hx rfl (hb hby at_246) rfl ((if0 _ _).trans (feq (own_b1 (hv73.trans (if_pos h246_82)))).1) ?_
        show Steps p.tables e below (T79.setTop (mkF m 249 A80 [])) _
        refine XS.iloadN X79.here hx rfl (hb hby at_249) rfl ?_
        show Steps p.tables e below (T79.setTop (mkF m 250 A80 [(.int p0_2)])) _
        refine XS.goto X79.here hx rfl (pc0 := 250) (pc' := 255) rfl (hb hby at_250) (by decide) (by decide) ?_
        exact k
      · refine ⟨T79, _, X79, N79, e79, fun t k => ?_⟩
        rw [show v83 = (7 : Int32) from hv83.trans (if_neg h246_82)] at k
        show Steps p.tables e below (T79.setTop (mkF m 246 A80 [(.int v73)])) _
        refine XS.ifYes X79.here hx rfl (pc0 := 246) (pc' := 253) rfl (hb hby at_246) rfl ((if0 _ _).trans (teq (hv73.trans (if_neg h246_82))).1) (by decide) (by decide) ?_
        show Steps p.tables e below (T79.setTop (mkF m 253 A80 [])) _
        refine XS.iload X79.here hx rfl (hb hby at_253) rfl ?_
        exact k)
    let A85 : Array Slot := #[.val (.int p0_0), .val (.int p0_1), .val (.int p0_2), .val (.long q0_3), .second, .val (.long q0_4), .second, .val (.int p0_5), .val (.int v4), .val (.int x7), .val (.int v11), .val (.int v16), .val (.ref b19), .val (.int (7 : Int32)), .val (.long (5000 : Int64)), .second, .val (.long v50), .second, .val (.int v59), .val (.int v43), .val (.int v66), .val (.int v73), .val (.int v78), .val (.int v83), .unset, .unset, .unset, .unset, .unset, .unset, .unset, .unset, .unset, .unset, .unset, .unset, .unset]
    have G86 : ∀ t, Steps p.tables e below (T84.setTop (mkF m 259 A85 [(.int v73)])) t → Steps p.tables e below (T84.setTop (mkF m 255 A80 [(.int v83)])) t := by
      intro t k
      show Steps p.tables e below (T84.setTop (mkF m 255 A80 [(.int v83)])) _
      refine XS.istore X84.here hx rfl (hb hby at_255) rfl (l' := A85) rfl ?_
      show Steps p.tables e below (T84.setTop (mkF m 257 A85 [])) _
      refine XS.iload X84.here hx rfl (hb hby at_257) rfl ?_
      exact k
    obtain ⟨v88, hv88⟩ : ∃ z : Int64, z = (if ((q0_3 < (5000 : Int64) ∧ (p0_1 < p0_0 ∧ v11 < p0_2)) ∨ (p0_1 = p0_0 ∧ (7 : Int32) < p0_2)) then (q0_4 - q0_3) else (5000 : Int64)) := ⟨_, rfl⟩
    obtain ⟨T89, Lo89, X89, N89, e89, G89⟩ := own_join X84 N84 (h := T31.heap) (mkF m 259 A85 [(.int v73)]) (mkF m 271 A85 [(.long v88)]) (by
      by_cases h259_87 : ((q0_3 < (5000 : Int64) ∧ (p0_1 < p0_0 ∧ v11 < p0_2)) ∨ (p0_1 = p0_0 ∧ (7 : Int32) < p0_2))
      · refine ⟨T84, _, X84, N84, e84, fun t k => ?_⟩
        rw [show v88 = (q0_4 - q0_3) from hv88.trans (if_pos h259_87)] at k
        show Steps p.tables e below (T84.setTop (mkF m 259 A85 [(.int v73)])) _
        refine XS.ifNo X84.here hx rfl (hb hby at_259) rfl ((if0 _ _).trans (feq (own_b1 (hv73.trans (if_pos h259_87)))).1) ?_
        show Steps p.tables e below (T84.setTop (mkF m 262 A85 [])) _
        refine XS.lload X84.here hx rfl (hb hby at_262) rfl ?_
        show Steps p.tables e below (T84.setTop (mkF m 264 A85 [(.long q0_4)])) _
        refine XS.lloadN X84.here hx rfl (hb hby at_264) rfl ?_
        show Steps p.tables e below (T84.setTop (mkF m 265 A85 [(.long q0_3), (.long q0_4)])) _
        refine XS.lsub X84.here hx rfl (hb hby at_265) rfl ?_
        show Steps p.tables e below (T84.setTop (mkF m 266 A85 [(.long (q0_4 - q0_3))])) _
        refine XS.goto X84.here hx rfl (pc0 := 266) (pc' := 271) rfl (hb hby at_266) (by decide) (by decide) ?_
        exact k
      · refine ⟨T84, _, X84, N84, e84, fun t k => ?_⟩
        rw [show v88 = (5000 : Int64) from hv88.trans (if_neg h259_87)] at k
        show Steps p.tables e below (T84.setTop (mkF m 259 A85 [(.int v73)])) _
        refine XS.ifYes X84.here hx rfl (pc0 := 259) (pc' := 269) rfl (hb hby at_259) rfl ((if0 _ _).trans (teq (hv73.trans (if_neg h259_87))).1) (by decide) (by decide) ?_
        show Steps p.tables e below (T84.setTop (mkF m 269 A85 [])) _
        refine XS.lload X84.here hx rfl (hb hby at_269) rfl ?_
        exact k)
    let A90 : Array Slot := #[.val (.int p0_0), .val (.int p0_1), .val (.int p0_2), .val (.long q0_3), .second, .val (.long q0_4), .second, .val (.int p0_5), .val (.int v4), .val (.int x7), .val (.int v11), .val (.int v16), .val (.ref b19), .val (.int (7 : Int32)), .val (.long (5000 : Int64)), .second, .val (.long v50), .second, .val (.int v59), .val (.int v43), .val (.int v66), .val (.int v73), .val (.int v78), .val (.int v83), .val (.long v88), .second, .unset, .unset, .unset, .unset, .unset, .unset, .unset, .unset, .unset, .unset, .unset]
    have G91 : ∀ t, Steps p.tables e below (T89.setTop (mkF m 275 A90 [(.int v59)])) t → Steps p.tables e below (T89.setTop (mkF m 271 A85 [(.long v88)])) t := by
      intro t k
      show Steps p.tables e below (T89.setTop (mkF m 271 A85 [(.long v88)])) _
      refine XS.lstore X89.here hx rfl (hb hby at_271) rfl (l' := A90) rfl ?_
      show Steps p.tables e below (T89.setTop (mkF m 273 A90 [])) _
      refine XS.iload X89.here hx rfl (hb hby at_273) rfl ?_
      exact k
    obtain ⟨v93, hv93⟩ : ∃ z : Int64, z = (if (q0_3 < (5000 : Int64) ∧ (p0_1 < p0_0 ∧ v11 < p0_2)) then q0_4 else v50) := ⟨_, rfl⟩
    obtain ⟨T94, Lo94, X94, N94, e94, G94⟩ := own_join X89 N89 (h := T31.heap) (mkF m 275 A90 [(.int v59)]) (mkF m 285 A90 [(.long v93)]) (by
      by_cases h275_92 : (q0_3 < (5000 : Int64) ∧ (p0_1 < p0_0 ∧ v11 < p0_2))
      · refine ⟨T89, _, X89, N89, e89, fun t k => ?_⟩
        rw [show v93 = q0_4 from hv93.trans (if_pos h275_92)] at k
        show Steps p.tables e below (T89.setTop (mkF m 275 A90 [(.int v59)])) _
        refine XS.ifNo X89.here hx rfl (hb hby at_275) rfl ((if0 _ _).trans (feq (own_b1 (hv59.trans (if_pos h275_92)))).1) ?_
        show Steps p.tables e below (T89.setTop (mkF m 278 A90 [])) _
        refine XS.lload X89.here hx rfl (hb hby at_278) rfl ?_
        show Steps p.tables e below (T89.setTop (mkF m 280 A90 [(.long q0_4)])) _
        refine XS.goto X89.here hx rfl (pc0 := 280) (pc' := 285) rfl (hb hby at_280) (by decide) (by decide) ?_
        exact k
      · refine ⟨T89, _, X89, N89, e89, fun t k => ?_⟩
        rw [show v93 = v50 from hv93.trans (if_neg h275_92)] at k
        show Steps p.tables e below (T89.setTop (mkF m 275 A90 [(.int v59)])) _
        refine XS.ifYes X89.here hx rfl (pc0 := 275) (pc' := 283) rfl (hb hby at_275) rfl ((if0 _ _).trans (teq (hv59.trans (if_neg h275_92))).1) (by decide) (by decide) ?_
        show Steps p.tables e below (T89.setTop (mkF m 283 A90 [])) _
        refine XS.lload X89.here hx rfl (hb hby at_283) rfl ?_
        exact k)
    let A95 : Array Slot := #[.val (.int p0_0), .val (.int p0_1), .val (.int p0_2), .val (.long q0_3), .second, .val (.long q0_4), .second, .val (.int p0_5), .val (.int v4), .val (.int x7), .val (.int v11), .val (.int v16), .val (.ref b19), .val (.int (7 : Int32)), .val (.long (5000 : Int64)), .second, .val (.long v50), .second, .val (.int v59), .val (.int v43), .val (.int v66), .val (.int v73), .val (.int v78), .val (.int v83), .val (.long v88), .second, .val (.long v93), .second, .unset, .unset, .unset, .unset, .unset, .unset, .unset, .unset, .unset]
    obtain ⟨cq96, kq96, q96a, q96b, q96c⟩ := isOf hZ e94 P31_1
    obtain ⟨_, _, ⟨T96, L96, k96, n96⟩, -, X96, ⟨Lc96, hQ96, l96, y96, z96⟩, st96⟩ := X94.virtualBack hx (y := (⟨"com/example/halozat/halozat/node/Leader", "hear", "(IIJJ)Z"⟩ : MethodName)) (z := (⟨"com/example/halozat/halozat/node/Leader", "hear", "(IIJJ)Z"⟩ : MethodName)) hown (mvT hZ (ow20 hw)) (mvT hZ (ow21 hw)) (notFace_of_selects (args := #[]) (mvT hZ (ow23 hw))) (mvT hZ (ow23 hw)) (mvT hZ (ow22 hw)) (by decide) (backOf (W := 0) (rm3 l Z a0 hw [] b19 p0_1 p0_2 q0_3 q0_4 y33 y35 y32 y34 y37 y36 y38 y39 T31.heap n0 Z31 P31_2 P31_4 P31_0 P31_3 P31_1 g_b19 P31_6 P31_5 P31_7 P31_8) hZ (ow24 hw) (ow2 hw) (by decide) (by decide)) q96a q96c (g := (mkF m 294 A95 [(.long q0_4), (.long q0_3), (.int p0_2), (.int p0_1), (.ref b19)])) rfl (by rw [hml]; rfl) (Steps.refl _) (argsL := [(.int p0_1), (.int p0_2), (.long q0_3), (.long q0_4)]) (rest := []) (lenOf pd__IIJJ_Z rfl) rfl (by show 2 * 0 + _ ≤ _; exact Nat.le_of_eq rfl) (hb hby at_294) (fun _ _ => ⟨rfl, e94, (by decide : 1 + 0 ≤ _), (by decide : 8 + 0 ≤ _)⟩)
    dsimp only [Pt.U, Pt.locs, Pt.cells, Pt.slots] at X96 l96 y96 z96 st96 hQ96
    subst l96 y96 z96
    obtain ⟨rfl, Nq96, Kc96, P96_0, P96_1, P96_2, P96_3, P96_4, P96_5, P96_6, P96_7, P96_8⟩ := hQ96
    have K96 : Keep h0 T96.heap [] := Keep.trans K31 Kc96 (allS (P := fun x => x ∈ ([] : List Addr) ∨ h0.size ≤ x) (Or.inr sz_b19) all0)
    have Z96 : n0 ≤ T96.heap.size := Nat.le_trans Z0 K96.1
    obtain ⟨y97, hy97⟩ : ∃ z : Int32, z = (if (q0_3 < (5000 : Int64) ∧ (p0_1 < y32 ∧ ¬ ((p0_1 = y33 ∧ ¬ (y35 < p0_2))))) then p0_1 else (if (p0_1 = y32 ∧ y34 < p0_2) then p0_1 else y32)) := ⟨_, rfl⟩
    rw [← hy97] at P96_1
    obtain ⟨y98, hy98⟩ : ∃ z : Int32, z = (if (q0_3 < (5000 : Int64) ∧ (p0_1 < y32 ∧ ¬ ((p0_1 = y33 ∧ ¬ (y35 < p0_2))))) then p0_2 else (if (p0_1 = y32 ∧ y34 < p0_2) then p0_2 else y34)) := ⟨_, rfl⟩
    rw [← hy98] at P96_3
    obtain ⟨y99, hy99⟩ : ∃ z : Int64, z = (if (q0_3 < (5000 : Int64) ∧ (p0_1 < y32 ∧ ¬ ((p0_1 = y33 ∧ ¬ (y35 < p0_2))))) then (q0_4 - q0_3) else (if (p0_1 = y32 ∧ y34 < p0_2) then (q0_4 - q0_3) else y37)) := ⟨_, rfl⟩
    rw [← hy99] at P96_4
    obtain ⟨y100, hy100⟩ : ∃ z : Int64, z = (if (q0_3 < (5000 : Int64) ∧ (p0_1 < y32 ∧ ¬ ((p0_1 = y33 ∧ ¬ (y35 < p0_2))))) then q0_4 else y36) := ⟨_, rfl⟩
    rw [← hy100] at P96_5
    obtain ⟨y101, hy101⟩ : ∃ z : Int64, z = (if (q0_3 < (5000 : Int64) ∧ (p0_1 < y32 ∧ ¬ ((p0_1 = y33 ∧ ¬ (y35 < p0_2))))) then (q0_4 + (1000 : Int64)) else y38) := ⟨_, rfl⟩
    rw [← hy101] at P96_6
    have N96 := Fr.app N94 Nq96
    obtain ⟨x102, hx102⟩ : ∃ z : Int32, z = (if (q0_3 < (5000 : Int64) ∧ (p0_1 < y32 ∧ ¬ ((p0_1 = y33 ∧ ¬ (y35 < p0_2))))) then (1 : Int32) else (0 : Int32)) := ⟨_, rfl⟩
    let A103 : Array Slot := #[.val (.int p0_0), .val (.int p0_1), .val (.int p0_2), .val (.long q0_3), .second, .val (.long q0_4), .second, .val (.int p0_5), .val (.int v4), .val (.int x7), .val (.int v11), .val (.int v16), .val (.ref b19), .val (.int (7 : Int32)), .val (.long (5000 : Int64)), .second, .val (.long v50), .second, .val (.int v59), .val (.int v43), .val (.int v66), .val (.int v73), .val (.int v78), .val (.int v83), .val (.long v88), .second, .val (.long v93), .second, .val (.int x102), .unset, .unset, .unset, .unset, .unset, .unset, .unset, .unset]
    have G104 : ∀ t, Steps p.tables e below (T96.setTop (mkF m 303 A103 [(.int v59), (.int x102)])) t → Steps p.tables e below (T94.setTop (mkF m 285 A90 [(.long v93)])) t := by
      intro t k
      show Steps p.tables e below (T94.setTop (mkF m 285 A90 [(.long v93)])) _
      refine XS.lstore X94.here hx rfl (hb hby at_285) rfl (l' := A95) rfl ?_
      show Steps p.tables e below (T94.setTop (mkF m 287 A95 [])) _
      refine XS.aload X94.here hx rfl (hb hby at_287) rfl rfl ?_
      show Steps p.tables e below (T94.setTop (mkF m 289 A95 [(.ref b19)])) _
      refine XS.iloadN X94.here hx rfl (hb hby at_289) rfl ?_
      show Steps p.tables e below (T94.setTop (mkF m 290 A95 [(.int p0_1), (.ref b19)])) _
      refine XS.iloadN X94.here hx rfl (hb hby at_290) rfl ?_
      show Steps p.tables e below (T94.setTop (mkF m 291 A95 [(.int p0_2), (.int p0_1), (.ref b19)])) _
      refine XS.lloadN X94.here hx rfl (hb hby at_291) rfl ?_
      show Steps p.tables e below (T94.setTop (mkF m 292 A95 [(.long q0_3), (.int p0_2), (.int p0_1), (.ref b19)])) _
      refine XS.lload X94.here hx rfl (hb hby at_292) rfl ?_
      show Steps p.tables e below (T94.setTop (mkF m 294 A95 [(.long q0_4), (.long q0_3), (.int p0_2), (.int p0_1), (.ref b19)])) _
      refine st96.trans ?_
      show Steps p.tables e below (T96.setTop (mkF m 297 A95 [(.int (if (q0_3 < (5000 : Int64) ∧ (p0_1 < y32 ∧ ¬ ((p0_1 = y33 ∧ ¬ (y35 < p0_2))))) then (1 : Int32) else (0 : Int32)))])) _
      rw [← hx102]
      show Steps p.tables e below (T96.setTop (mkF m 297 A95 [(.int x102)])) _
      refine XS.istore X96.here hx rfl (hb hby at_297) rfl (l' := A103) rfl ?_
      show Steps p.tables e below (T96.setTop (mkF m 299 A103 [])) _
      refine XS.iload X96.here hx rfl (hb hby at_299) rfl ?_
      show Steps p.tables e below (T96.setTop (mkF m 301 A103 [(.int x102)])) _
      refine XS.iload X96.here hx rfl (hb hby at_301) rfl ?_
      exact k
    obtain ⟨v118, hv118⟩ : ∃ z : Int32, z = (if (x102 = v59 ∧ (y97 = v78 ∧ (y98 = v83 ∧ ((q0_4 - y99) = (q0_4 - v88) ∧ y100 = v93)))) then (1 : Int32) else (0 : Int32)) := ⟨_, rfl⟩
    obtain ⟨T119, Lo119, X119, N119, e119, G119⟩ := own_join X96 N96 (h := T96.heap) (mkF m 303 A103 [(.int v59), (.int x102)]) (mkF m 358 A103 [(.int v118)]) (by
      by_cases h303_105 : x102 = v59
      · obtain ⟨cq106, kq106, q106a, q106b, q106c⟩ := isOf hZ rfl P96_2
        obtain ⟨_, _, ⟨T106, L106, k106, n106⟩, -, X106, ⟨Lc106, hQ106, l106, y106, z106⟩, st106⟩ := X96.virtualBack hx (y := (⟨"com/example/halozat/halozat/node/Leader", "node", "()I"⟩ : MethodName)) (z := (⟨"com/example/halozat/halozat/node/Leader", "node", "()I"⟩ : MethodName)) hown (mvT hZ (ow36 hw)) (mvT hZ (ow37 hw)) (notFace_of_selects (args := #[]) (mvT hZ (ow39 hw))) (mvT hZ (ow39 hw)) (mvT hZ (ow38 hw)) (by decide) (backOf (W := 0) (rm5 l Z a0 hw [] b19 y97 T96.heap n0 Z96 P96_1) hZ (ow40 hw) (ow2 hw) (by decide) (by decide)) q106a q106c (g := (mkF m 308 A103 [(.ref b19)])) rfl (by rw [hml]; rfl) (Steps.refl _) (argsL := []) (rest := []) (lenOf pd___I rfl) rfl (by show 2 * 0 + _ ≤ _; exact Nat.le_of_eq rfl) (hb hby at_308) (fun _ _ => ⟨rfl, rfl, (by decide : 1 + 0 ≤ _), (by decide : 8 + 0 ≤ _)⟩)
        dsimp only [Pt.U, Pt.locs, Pt.cells, Pt.slots] at X106 l106 y106 z106 st106 hQ106
        subst l106 y106 z106
        obtain ⟨rfl, Nq106, e106⟩ := hQ106
        have N106 := Fr.app N96 Nq106
        have G107 : ∀ t, Steps p.tables e below (T106.setTop (mkF m 313 A103 [(.int v78), (.int y97)])) t → Steps p.tables e below (T96.setTop (mkF m 303 A103 [(.int v59), (.int x102)])) t := by
          intro t k
          show Steps p.tables e below (T96.setTop (mkF m 303 A103 [(.int v59), (.int x102)])) _
          refine XS.icmpNo X96.here hx rfl (hb hby at_303) rfl (teq h303_105).2 ?_
          show Steps p.tables e below (T96.setTop (mkF m 306 A103 [])) _
          refine XS.aload X96.here hx rfl (hb hby at_306) rfl rfl ?_
          show Steps p.tables e below (T96.setTop (mkF m 308 A103 [(.ref b19)])) _
          refine st106.trans ?_
          show Steps p.tables e below (T106.setTop (mkF m 311 A103 [(.int y97)])) _
          refine XS.iload X106.here hx rfl (hb hby at_311) rfl ?_
          exact k
        by_cases h313_108 : y97 = v78
        · obtain ⟨cq109, kq109, q109a, q109b, q109c⟩ := isOf hZ e106 P96_2
          obtain ⟨_, _, ⟨T109, L109, k109, n109⟩, -, X109, ⟨Lc109, hQ109, l109, y109, z109⟩, st109⟩ := X106.virtualBack hx (y := (⟨"com/example/halozat/halozat/node/Leader", "beat", "()I"⟩ : MethodName)) (z := (⟨"com/example/halozat/halozat/node/Leader", "beat", "()I"⟩ : MethodName)) hown (mvT hZ (ow41 hw)) (mvT hZ (ow42 hw)) (notFace_of_selects (args := #[]) (mvT hZ (ow44 hw))) (mvT hZ (ow44 hw)) (mvT hZ (ow43 hw)) (by decide) (backOf (W := 0) (rm6 l Z a0 hw [] b19 y98 T96.heap n0 Z96 P96_3) hZ (ow45 hw) (ow2 hw) (by decide) (by decide)) q109a q109c (g := (mkF m 318 A103 [(.ref b19)])) rfl (by rw [hml]; rfl) (Steps.refl _) (argsL := []) (rest := []) (lenOf pd___I rfl) rfl (by show 2 * 0 + _ ≤ _; exact Nat.le_of_eq rfl) (hb hby at_318) (fun _ _ => ⟨rfl, e106, (by decide : 1 + 0 ≤ _), (by decide : 8 + 0 ≤ _)⟩)
          dsimp only [Pt.U, Pt.locs, Pt.cells, Pt.slots] at X109 l109 y109 z109 st109 hQ109
          subst l109 y109 z109
          obtain ⟨rfl, Nq109, e109⟩ := hQ109
          have N109 := Fr.app N106 Nq109
          have G110 : ∀ t, Steps p.tables e below (T109.setTop (mkF m 323 A103 [(.int v83), (.int y98)])) t → Steps p.tables e below (T106.setTop (mkF m 313 A103 [(.int v78), (.int y97)])) t := by
            intro t k
            show Steps p.tables e below (T106.setTop (mkF m 313 A103 [(.int v78), (.int y97)])) _
            refine XS.icmpNo X106.here hx rfl (hb hby at_313) rfl (teq h313_108).2 ?_
            show Steps p.tables e below (T106.setTop (mkF m 316 A103 [])) _
            refine XS.aload X106.here hx rfl (hb hby at_316) rfl rfl ?_
            show Steps p.tables e below (T106.setTop (mkF m 318 A103 [(.ref b19)])) _
            refine st109.trans ?_
            show Steps p.tables e below (T109.setTop (mkF m 321 A103 [(.int y98)])) _
            refine XS.iload X109.here hx rfl (hb hby at_321) rfl ?_
            exact k
          by_cases h323_111 : y98 = v83
          · obtain ⟨cq112, kq112, q112a, q112b, q112c⟩ := isOf hZ e109 P96_2
            obtain ⟨_, _, ⟨T112, L112, k112, n112⟩, -, X112, ⟨Lc112, hQ112, l112, y112, z112⟩, st112⟩ := X109.virtualBack hx (y := (⟨"com/example/halozat/halozat/node/Leader", "age", "(J)J"⟩ : MethodName)) (z := (⟨"com/example/halozat/halozat/node/Leader", "age", "(J)J"⟩ : MethodName)) hown (mvT hZ (ow46 hw)) (mvT hZ (ow47 hw)) (notFace_of_selects (args := #[]) (mvT hZ (ow49 hw))) (mvT hZ (ow49 hw)) (mvT hZ (ow48 hw)) (by decide) (backOf (W := 0) (rm7 l Z a0 hw [] b19 q0_4 y99 T96.heap n0 Z96 P96_4) hZ (ow50 hw) (ow2 hw) (by decide) (by decide)) q112a q112c (g := (mkF m 330 A103 [(.long q0_4), (.ref b19)])) rfl (by rw [hml]; rfl) (Steps.refl _) (argsL := [(.long q0_4)]) (rest := []) (lenOf pd__J_J rfl) rfl (by show 2 * 0 + _ ≤ _; exact Nat.le_of_eq rfl) (hb hby at_330) (fun _ _ => ⟨rfl, e109, (by decide : 1 + 0 ≤ _), (by decide : 8 + 0 ≤ _)⟩)
            dsimp only [Pt.U, Pt.locs, Pt.cells, Pt.slots] at X112 l112 y112 z112 st112 hQ112
            subst l112 y112 z112
            obtain ⟨rfl, Nq112, e112⟩ := hQ112
            have N112 := Fr.app N109 Nq112
            have G113 : ∀ t, Steps p.tables e below (T112.setTop (mkF m 339 A103 [(.int (lcmpW (q0_4 - y99) (q0_4 - v88)))])) t → Steps p.tables e below (T109.setTop (mkF m 323 A103 [(.int v83), (.int y98)])) t := by
              intro t k
              show Steps p.tables e below (T109.setTop (mkF m 323 A103 [(.int v83), (.int y98)])) _
              refine XS.icmpNo X109.here hx rfl (hb hby at_323) rfl (teq h323_111).2 ?_
              show Steps p.tables e below (T109.setTop (mkF m 326 A103 [])) _
              refine XS.aload X109.here hx rfl (hb hby at_326) rfl rfl ?_
              show Steps p.tables e below (T109.setTop (mkF m 328 A103 [(.ref b19)])) _
              refine XS.lload X109.here hx rfl (hb hby at_328) rfl ?_
              show Steps p.tables e below (T109.setTop (mkF m 330 A103 [(.long q0_4), (.ref b19)])) _
              refine st112.trans ?_
              show Steps p.tables e below (T112.setTop (mkF m 333 A103 [(.long (q0_4 - y99))])) _
              refine XS.lload X112.here hx rfl (hb hby at_333) rfl ?_
              show Steps p.tables e below (T112.setTop (mkF m 335 A103 [(.long q0_4), (.long (q0_4 - y99))])) _
              refine XS.lload X112.here hx rfl (hb hby at_335) rfl ?_
              show Steps p.tables e below (T112.setTop (mkF m 337 A103 [(.long v88), (.long q0_4), (.long (q0_4 - y99))])) _
              refine XS.lsub X112.here hx rfl (hb hby at_337) rfl ?_
              show Steps p.tables e below (T112.setTop (mkF m 338 A103 [(.long (q0_4 - v88)), (.long (q0_4 - y99))])) _
              refine XS.lcmp X112.here hx rfl (hb hby at_338) rfl ?_
              exact k
            by_cases h339_114 : (q0_4 - y99) = (q0_4 - v88)
            · obtain ⟨cq115, kq115, q115a, q115b, q115c⟩ := isOf hZ e112 P96_2
              obtain ⟨_, _, ⟨T115, L115, k115, n115⟩, -, X115, ⟨Lc115, hQ115, l115, y115, z115⟩, st115⟩ := X112.virtualBack hx (y := (⟨"com/example/halozat/halozat/node/Leader", "since", "()J"⟩ : MethodName)) (z := (⟨"com/example/halozat/halozat/node/Leader", "since", "()J"⟩ : MethodName)) hown (mvT hZ (ow51 hw)) (mvT hZ (ow52 hw)) (notFace_of_selects (args := #[]) (mvT hZ (ow54 hw))) (mvT hZ (ow54 hw)) (mvT hZ (ow53 hw)) (by decide) (backOf (W := 0) (rm8 l Z a0 hw [] b19 y100 T96.heap n0 Z96 P96_5) hZ (ow55 hw) (ow2 hw) (by decide) (by decide)) q115a q115c (g := (mkF m 344 A103 [(.ref b19)])) rfl (by rw [hml]; rfl) (Steps.refl _) (argsL := []) (rest := []) (lenOf pd___J rfl) rfl (by show 2 * 0 + _ ≤ _; exact Nat.le_of_eq rfl) (hb hby at_344) (fun _ _ => ⟨rfl, e112, (by decide : 1 + 0 ≤ _), (by decide : 8 + 0 ≤ _)⟩)
              dsimp only [Pt.U, Pt.locs, Pt.cells, Pt.slots] at X115 l115 y115 z115 st115 hQ115
              subst l115 y115 z115
              obtain ⟨rfl, Nq115, e115⟩ := hQ115
              have N115 := Fr.app N112 Nq115
              have G116 : ∀ t, Steps p.tables e below (T115.setTop (mkF m 350 A103 [(.int (lcmpW y100 v93))])) t → Steps p.tables e below (T112.setTop (mkF m 339 A103 [(.int (lcmpW (q0_4 - y99) (q0_4 - v88)))])) t := by
                intro t k
                show Steps p.tables e below (T112.setTop (mkF m 339 A103 [(.int (lcmpW (q0_4 - y99) (q0_4 - v88)))])) _
                refine XS.ifNo X112.here hx rfl (hb hby at_339) rfl ((if0 _ _).trans (teq ((lw_eq _ _).mpr h339_114)).2) ?_
                show Steps p.tables e below (T112.setTop (mkF m 342 A103 [])) _
                refine XS.aload X112.here hx rfl (hb hby at_342) rfl rfl ?_
                show Steps p.tables e below (T112.setTop (mkF m 344 A103 [(.ref b19)])) _
                refine st115.trans ?_
                show Steps p.tables e below (T115.setTop (mkF m 347 A103 [(.long y100)])) _
                refine XS.lload X115.here hx rfl (hb hby at_347) rfl ?_
                show Steps p.tables e below (T115.setTop (mkF m 349 A103 [(.long v93), (.long y100)])) _
                refine XS.lcmp X115.here hx rfl (hb hby at_349) rfl ?_
                exact k
              by_cases h350_117 : y100 = v93
              · refine ⟨T115, _, X115, N115, e115, fun t k => ?_⟩
                rw [show v118 = (1 : Int32) from hv118.trans (if_pos ⟨h303_105, ⟨h313_108, ⟨h323_111, ⟨h339_114, h350_117⟩⟩⟩⟩)] at k
                refine G107 _ ?_
                refine G110 _ ?_
                refine G113 _ ?_
                refine G116 _ ?_
                show Steps p.tables e below (T115.setTop (mkF m 350 A103 [(.int (lcmpW y100 v93))])) _
                refine XS.ifNo X115.here hx rfl (hb hby at_350) rfl ((if0 _ _).trans (teq ((lw_eq _ _).mpr h350_117)).2) ?_
                show Steps p.tables e below (T115.setTop (mkF m 353 A103 [])) _
                refine XS.iconst X115.here hx rfl (hb hby at_353) ?_
                show Steps p.tables e below (T115.setTop (mkF m 354 A103 [(.int (1 : Int32))])) _
                refine XS.goto X115.here hx rfl (pc0 := 354) (pc' := 358) rfl (hb hby at_354) (by decide) (by decide) ?_
                exact k
              · refine ⟨T115, _, X115, N115, e115, fun t k => ?_⟩
                rw [show v118 = (0 : Int32) from hv118.trans (if_neg (fun q => (fun q => (fun q => (fun q => h350_117 q.2) q.2) q.2) q.2))] at k
                refine G107 _ ?_
                refine G110 _ ?_
                refine G113 _ ?_
                refine G116 _ ?_
                show Steps p.tables e below (T115.setTop (mkF m 350 A103 [(.int (lcmpW y100 v93))])) _
                refine XS.ifYes X115.here hx rfl (pc0 := 350) (pc' := 357) rfl (hb hby at_350) rfl ((if0 _ _).trans (feq (fun q => h350_117 ((lw_eq _ _).mp q))).2) (by decide) (by decide) ?_
                show Steps p.tables e below (T115.setTop (mkF m 357 A103 [])) _
                refine XS.iconst X115.here hx rfl (hb hby at_357) ?_
                exact k
            · refine ⟨T112, _, X112, N112, e112, fun t k => ?_⟩
              rw [show v118 = (0 : Int32) from hv118.trans (if_neg (fun q => (fun q => (fun q => (fun q => h339_114 q.1) q.2) q.2) q.2))] at k
              refine G107 _ ?_
              refine G110 _ ?_
              refine G113 _ ?_
              show Steps p.tables e below (T112.setTop (mkF m 339 A103 [(.int (lcmpW (q0_4 - y99) (q0_4 - v88)))])) _
              refine XS.ifYes X112.here hx rfl (pc0 := 339) (pc' := 357) rfl (hb hby at_339) rfl ((if0 _ _).trans (feq (fun q => h339_114 ((lw_eq _ _).mp q))).2) (by decide) (by decide) ?_
              show Steps p.tables e below (T112.setTop (mkF m 357 A103 [])) _
              refine XS.iconst X112.here hx rfl (hb hby at_357) ?_
              exact k
          · refine ⟨T109, _, X109, N109, e109, fun t k => ?_⟩
            rw [show v118 = (0 : Int32) from hv118.trans (if_neg (fun q => (fun q => (fun q => h323_111 q.1) q.2) q.2))] at k
            refine G107 _ ?_
            refine G110 _ ?_
            show Steps p.tables e below (T109.setTop (mkF m 323 A103 [(.int v83), (.int y98)])) _
            refine XS.icmpYes X109.here hx rfl (pc0 := 323) (pc' := 357) rfl (hb hby at_323) rfl (feq h323_111).2 (by decide) (by decide) ?_
            show Steps p.tables e below (T109.setTop (mkF m 357 A103 [])) _
            refine XS.iconst X109.here hx rfl (hb hby at_357) ?_
            exact k
        · refine ⟨T106, _, X106, N106, e106, fun t k => ?_⟩
          rw [show v118 = (0 : Int32) from hv118.trans (if_neg (fun q => (fun q => h313_108 q.1) q.2))] at k
          refine G107 _ ?_
          show Steps p.tables e below (T106.setTop (mkF m 313 A103 [(.int v78), (.int y97)])) _
          refine XS.icmpYes X106.here hx rfl (pc0 := 313) (pc' := 357) rfl (hb hby at_313) rfl (feq h313_108).2 (by decide) (by decide) ?_
          show Steps p.tables e below (T106.setTop (mkF m 357 A103 [])) _
          refine XS.iconst X106.here hx rfl (hb hby at_357) ?_
          exact k
      · refine ⟨T96, _, X96, N96, rfl, fun t k => ?_⟩
        rw [show v118 = (0 : Int32) from hv118.trans (if_neg (fun q => h303_105 q.1))] at k
        show Steps p.tables e below (T96.setTop (mkF m 303 A103 [(.int v59), (.int x102)])) _
        refine XS.icmpYes X96.here hx rfl (pc0 := 303) (pc' := 357) rfl (hb hby at_303) rfl (feq h303_105).2 (by decide) (by decide) ?_
        show Steps p.tables e below (T96.setTop (mkF m 357 A103 [])) _
        refine XS.iconst X96.here hx rfl (hb hby at_357) ?_
        exact k)
    let A120 : Array Slot := #[.val (.int p0_0), .val (.int p0_1), .val (.int p0_2), .val (.long q0_3), .second, .val (.long q0_4), .second, .val (.int p0_5), .val (.int v4), .val (.int x7), .val (.int v11), .val (.int v16), .val (.ref b19), .val (.int (7 : Int32)), .val (.long (5000 : Int64)), .second, .val (.long v50), .second, .val (.int v59), .val (.int v43), .val (.int v66), .val (.int v73), .val (.int v78), .val (.int v83), .val (.long v88), .second, .val (.long v93), .second, .val (.int x102), .val (.int v118), .unset, .unset, .unset, .unset, .unset, .unset, .unset]
    let A121 : Array Slot := #[.val (.int p0_0), .val (.int p0_1), .val (.int p0_2), .val (.long q0_3), .second, .val (.long q0_4), .second, .val (.int p0_5), .val (.int v4), .val (.int x7), .val (.int v11), .val (.int v16), .val (.ref b19), .val (.int (7 : Int32)), .val (.long (5000 : Int64)), .second, .val (.long v50), .second, .val (.int v59), .val (.int v43), .val (.int v66), .val (.int v73), .val (.int v78), .val (.int v83), .val (.long v88), .second, .val (.long v93), .second, .val (.int x102), .val (.int v118), .val (.long (q0_4 + (1000 : Int64))), .second, .unset, .unset, .unset, .unset, .unset]
    let A122 : Array Slot := #[.val (.int p0_0), .val (.int p0_1), .val (.int p0_2), .val (.long q0_3), .second, .val (.long q0_4), .second, .val (.int p0_5), .val (.int v4), .val (.int x7), .val (.int v11), .val (.int v16), .val (.ref b19), .val (.int (7 : Int32)), .val (.long (5000 : Int64)), .second, .val (.long v50), .second, .val (.int v59), .val (.int v43), .val (.int v66), .val (.int v73), .val (.int v78), .val (.int v83), .val (.long v88), .second, .val (.long v93), .second, .val (.int x102), .val (.int v118), .val (.long (q0_4 + (1000 : Int64))), .second, .val (.long ((q0_4 + (1000 : Int64)) - v88)), .second, .unset, .unset, .unset]
    have G123 : ∀ t, Steps p.tables e below (T119.setTop (mkF m 381 A122 [(.int (lcmpW ((q0_4 + (1000 : Int64)) - v88) (5000 : Int64)))])) t → Steps p.tables e below (T119.setTop (mkF m 358 A103 [(.int v118)])) t := by
      intro t k
      show Steps p.tables e below (T119.setTop (mkF m 358 A103 [(.int v118)])) _
      refine XS.istore X119.here hx rfl (hb hby at_358) rfl (l' := A120) rfl ?_
      show Steps p.tables e below (T119.setTop (mkF m 360 A120 [])) _
      refine XS.lload X119.here hx rfl (hb hby at_360) rfl ?_
      show Steps p.tables e below (T119.setTop (mkF m 362 A120 [(.long q0_4)])) _
      refine X119.ldc2Long hx hown (mvT hZ (ow56 hw)) (g := (mkF m 362 A120 [(.long q0_4)])) rfl (hb hby at_362) _ ?_
      show Steps p.tables e below (T119.setTop (mkF m 365 A120 [(.long (1000 : Int64)), (.long q0_4)])) _
      refine XS.ladd X119.here hx rfl (hb hby at_365) rfl ?_
      show Steps p.tables e below (T119.setTop (mkF m 366 A120 [(.long (q0_4 + (1000 : Int64)))])) _
      refine XS.lstore X119.here hx rfl (hb hby at_366) rfl (l' := A121) rfl ?_
      show Steps p.tables e below (T119.setTop (mkF m 368 A121 [])) _
      refine XS.lload X119.here hx rfl (hb hby at_368) rfl ?_
      show Steps p.tables e below (T119.setTop (mkF m 370 A121 [(.long (q0_4 + (1000 : Int64)))])) _
      refine XS.lload X119.here hx rfl (hb hby at_370) rfl ?_
      show Steps p.tables e below (T119.setTop (mkF m 372 A121 [(.long v88), (.long (q0_4 + (1000 : Int64)))])) _
      refine XS.lsub X119.here hx rfl (hb hby at_372) rfl ?_
      show Steps p.tables e below (T119.setTop (mkF m 373 A121 [(.long ((q0_4 + (1000 : Int64)) - v88))])) _
      refine XS.lstore X119.here hx rfl (hb hby at_373) rfl (l' := A122) rfl ?_
      show Steps p.tables e below (T119.setTop (mkF m 375 A122 [])) _
      refine XS.lload X119.here hx rfl (hb hby at_375) rfl ?_
      show Steps p.tables e below (T119.setTop (mkF m 377 A122 [(.long ((q0_4 + (1000 : Int64)) - v88))])) _
      refine X119.ldc2Long hx hown (mvT hZ (ow28 hw)) (g := (mkF m 377 A122 [(.long ((q0_4 + (1000 : Int64)) - v88))])) rfl (hb hby at_377) _ ?_
      show Steps p.tables e below (T119.setTop (mkF m 380 A122 [(.long (5000 : Int64)), (.long ((q0_4 + (1000 : Int64)) - v88))])) _
      refine XS.lcmp X119.here hx rfl (hb hby at_380) rfl ?_
      exact k
    obtain ⟨v125, hv125⟩ : ∃ z : Int32, z = (if ¬ (((q0_4 + (1000 : Int64)) - v88) < (5000 : Int64)) then (1 : Int32) else (0 : Int32)) := ⟨_, rfl⟩
    obtain ⟨T126, Lo126, X126, N126, e126, G126⟩ := own_join X119 N119 (h := T96.heap) (mkF m 381 A122 [(.int (lcmpW ((q0_4 + (1000 : Int64)) - v88) (5000 : Int64)))]) (mkF m 389 A122 [(.int v125)]) (by
      by_cases h381_124 : ((q0_4 + (1000 : Int64)) - v88) < (5000 : Int64)
      · refine ⟨T119, _, X119, N119, e119, fun t k => ?_⟩
        rw [show v125 = (0 : Int32) from hv125.trans (if_neg (fun q => q h381_124))] at k
        show Steps p.tables e below (T119.setTop (mkF m 381 A122 [(.int (lcmpW ((q0_4 + (1000 : Int64)) - v88) (5000 : Int64)))])) _
        refine XS.ifYes X119.here hx rfl (pc0 := 381) (pc' := 388) rfl (hb hby at_381) rfl ((if0 _ _).trans (tlt ((lw_lt _ _).mpr h381_124)).1) (by decide) (by decide) ?_
        show Steps p.tables e below (T119.setTop (mkF m 388 A122 [])) _
        refine XS.iconst X119.here hx rfl (hb hby at_388) ?_
        exact k
      · refine ⟨T119, _, X119, N119, e119, fun t k => ?_⟩
        rw [show v125 = (1 : Int32) from hv125.trans (if_pos h381_124)] at k
        show Steps p.tables e below (T119.setTop (mkF m 381 A122 [(.int (lcmpW ((q0_4 + (1000 : Int64)) - v88) (5000 : Int64)))])) _
        refine XS.ifNo X119.here hx rfl (hb hby at_381) rfl ((if0 _ _).trans (flt (fun q => h381_124 ((lw_lt _ _).mp q))).1) ?_
        show Steps p.tables e below (T119.setTop (mkF m 384 A122 [])) _
        refine XS.iconst X119.here hx rfl (hb hby at_384) ?_
        show Steps p.tables e below (T119.setTop (mkF m 385 A122 [(.int (1 : Int32))])) _
        refine XS.goto X119.here hx rfl (pc0 := 385) (pc' := 389) rfl (hb hby at_385) (by decide) (by decide) ?_
        exact k)
    let A127 : Array Slot := #[.val (.int p0_0), .val (.int p0_1), .val (.int p0_2), .val (.long q0_3), .second, .val (.long q0_4), .second, .val (.int p0_5), .val (.int v4), .val (.int x7), .val (.int v11), .val (.int v16), .val (.ref b19), .val (.int (7 : Int32)), .val (.long (5000 : Int64)), .second, .val (.long v50), .second, .val (.int v59), .val (.int v43), .val (.int v66), .val (.int v73), .val (.int v78), .val (.int v83), .val (.long v88), .second, .val (.long v93), .second, .val (.int x102), .val (.int v118), .val (.long (q0_4 + (1000 : Int64))), .second, .val (.long ((q0_4 + (1000 : Int64)) - v88)), .second, .val (.int v125), .unset, .unset]
    have G128 : ∀ t, Steps p.tables e below (T126.setTop (mkF m 393 A127 [(.int v59)])) t → Steps p.tables e below (T126.setTop (mkF m 389 A122 [(.int v125)])) t := by
      intro t k
      show Steps p.tables e below (T126.setTop (mkF m 389 A122 [(.int v125)])) _
      refine XS.istore X126.here hx rfl (hb hby at_389) rfl (l' := A127) rfl ?_
      show Steps p.tables e below (T126.setTop (mkF m 391 A127 [])) _
      refine XS.iload X126.here hx rfl (hb hby at_391) rfl ?_
      exact k
    obtain ⟨v140, hv140⟩ : ∃ z : Int32, z = (if (((q0_3 < (5000 : Int64) ∧ (p0_1 < p0_0 ∧ v11 < p0_2)) ∧ (¬ (¬ (((q0_4 + (1000 : Int64)) - v88) < (5000 : Int64))) ∧ ¬ (((q0_4 + (1000 : Int64)) - v88) < (2500 : Int64)))) ∨ (¬ ((q0_3 < (5000 : Int64) ∧ (p0_1 < p0_0 ∧ v11 < p0_2))) ∧ ((q0_4 + (1000 : Int64)) = (9223372036854775807 : Int64) ∧ (¬ (¬ (((q0_4 + (1000 : Int64)) - v88) < (5000 : Int64))) ∧ ¬ (((q0_4 + (1000 : Int64)) - v88) < (2500 : Int64)))))) then (1 : Int32) else (0 : Int32)) := ⟨_, rfl⟩
    obtain ⟨T141, Lo141, X141, N141, e141, G141⟩ := own_join X126 N126 (h := T96.heap) (mkF m 393 A127 [(.int v59)]) (mkF m 424 A127 [(.int v140)]) (by
      by_cases h393_129 : (q0_3 < (5000 : Int64) ∧ (p0_1 < p0_0 ∧ v11 < p0_2))
      · have G130 : ∀ t, Steps p.tables e below (T126.setTop (mkF m 407 A127 [(.int v125)])) t → Steps p.tables e below (T126.setTop (mkF m 393 A127 [(.int v59)])) t := by
          intro t k
          show Steps p.tables e below (T126.setTop (mkF m 393 A127 [(.int v59)])) _
          refine XS.ifYes X126.here hx rfl (pc0 := 393) (pc' := 405) rfl (hb hby at_393) rfl ((if0 _ _).trans (feq (own_b1 (hv59.trans (if_pos h393_129)))).2) (by decide) (by decide) ?_
          show Steps p.tables e below (T126.setTop (mkF m 405 A127 [])) _
          refine XS.iload X126.here hx rfl (hb hby at_405) rfl ?_
          exact k
        by_cases h407_131 : ¬ (((q0_4 + (1000 : Int64)) - v88) < (5000 : Int64))
        · refine ⟨T126, _, X126, N126, e126, fun t k => ?_⟩
          rw [show v140 = (0 : Int32) from hv140.trans (if_neg (fun q => q.elim (fun r => (fun q => q.1 h407_131) r.2) (fun r => r.1 h393_129)))] at k
          refine G130 _ ?_
          show Steps p.tables e below (T126.setTop (mkF m 407 A127 [(.int v125)])) _
          refine XS.ifYes X126.here hx rfl (pc0 := 407) (pc' := 423) rfl (hb hby at_407) rfl ((if0 _ _).trans (feq (own_b1 (hv125.trans (if_pos h407_131)))).2) (by decide) (by decide) ?_
          show Steps p.tables e below (T126.setTop (mkF m 423 A127 [])) _
          refine XS.iconst X126.here hx rfl (hb hby at_423) ?_
          exact k
        · have G132 : ∀ t, Steps p.tables e below (T126.setTop (mkF m 416 A127 [(.int (lcmpW ((q0_4 + (1000 : Int64)) - v88) (2500 : Int64)))])) t → Steps p.tables e below (T126.setTop (mkF m 407 A127 [(.int v125)])) t := by
            intro t k
            show Steps p.tables e below (T126.setTop (mkF m 407 A127 [(.int v125)])) _
            refine XS.ifNo X126.here hx rfl (hb hby at_407) rfl ((if0 _ _).trans (teq (hv125.trans (if_neg h407_131))).2) ?_
            show Steps p.tables e below (T126.setTop (mkF m 410 A127 [])) _
            refine XS.lload X126.here hx rfl (hb hby at_410) rfl ?_
            show Steps p.tables e below (T126.setTop (mkF m 412 A127 [(.long ((q0_4 + (1000 : Int64)) - v88))])) _
            refine X126.ldc2Long hx hown (mvT hZ (ow66 hw)) (g := (mkF m 412 A127 [(.long ((q0_4 + (1000 : Int64)) - v88))])) rfl (hb hby at_412) _ ?_
            show Steps p.tables e below (T126.setTop (mkF m 415 A127 [(.long (2500 : Int64)), (.long ((q0_4 + (1000 : Int64)) - v88))])) _
            refine XS.lcmp X126.here hx rfl (hb hby at_415) rfl ?_
            exact k
          by_cases h416_133 : ((q0_4 + (1000 : Int64)) - v88) < (2500 : Int64)
          · refine ⟨T126, _, X126, N126, e126, fun t k => ?_⟩
            rw [show v140 = (0 : Int32) from hv140.trans (if_neg (fun q => q.elim (fun r => (fun q => (fun q => q h416_133) q.2) r.2) (fun r => r.1 h393_129)))] at k
            refine G130 _ ?_
            refine G132 _ ?_
            show Steps p.tables e below (T126.setTop (mkF m 416 A127 [(.int (lcmpW ((q0_4 + (1000 : Int64)) - v88) (2500 : Int64)))])) _
            refine XS.ifYes X126.here hx rfl (pc0 := 416) (pc' := 423) rfl (hb hby at_416) rfl ((if0 _ _).trans (tlt ((lw_lt _ _).mpr h416_133)).1) (by decide) (by decide) ?_
            show Steps p.tables e below (T126.setTop (mkF m 423 A127 [])) _
            refine XS.iconst X126.here hx rfl (hb hby at_423) ?_
            exact k
          · refine ⟨T126, _, X126, N126, e126, fun t k => ?_⟩
            rw [show v140 = (1 : Int32) from hv140.trans (if_pos (Or.inl ⟨h393_129, ⟨h407_131, h416_133⟩⟩))] at k
            refine G130 _ ?_
            refine G132 _ ?_
            show Steps p.tables e below (T126.setTop (mkF m 416 A127 [(.int (lcmpW ((q0_4 + (1000 : Int64)) - v88) (2500 : Int64)))])) _
            refine XS.ifNo X126.here hx rfl (hb hby at_416) rfl ((if0 _ _).trans (flt (fun q => h416_133 ((lw_lt _ _).mp q))).1) ?_
            show Steps p.tables e below (T126.setTop (mkF m 419 A127 [])) _
            refine XS.iconst X126.here hx rfl (hb hby at_419) ?_
            show Steps p.tables e below (T126.setTop (mkF m 420 A127 [(.int (1 : Int32))])) _
            refine XS.goto X126.here hx rfl (pc0 := 420) (pc' := 424) rfl (hb hby at_420) (by decide) (by decide) ?_
            exact k
      · have G134 : ∀ t, Steps p.tables e below (T126.setTop (mkF m 402 A127 [(.int (lcmpW (q0_4 + (1000 : Int64)) (9223372036854775807 : Int64)))])) t → Steps p.tables e below (T126.setTop (mkF m 393 A127 [(.int v59)])) t := by
          intro t k
          show Steps p.tables e below (T126.setTop (mkF m 393 A127 [(.int v59)])) _
          refine XS.ifNo X126.here hx rfl (hb hby at_393) rfl ((if0 _ _).trans (teq (hv59.trans (if_neg h393_129))).2) ?_
          show Steps p.tables e below (T126.setTop (mkF m 396 A127 [])) _
          refine XS.lload X126.here hx rfl (hb hby at_396) rfl ?_
          show Steps p.tables e below (T126.setTop (mkF m 398 A127 [(.long (q0_4 + (1000 : Int64)))])) _
          refine X126.ldc2Long hx hown (mvT hZ (ow57 hw)) (g := (mkF m 398 A127 [(.long (q0_4 + (1000 : Int64)))])) rfl (hb hby at_398) _ ?_
          show Steps p.tables e below (T126.setTop (mkF m 401 A127 [(.long (9223372036854775807 : Int64)), (.long (q0_4 + (1000 : Int64)))])) _
          refine XS.lcmp X126.here hx rfl (hb hby at_401) rfl ?_
          exact k
        by_cases h402_135 : (q0_4 + (1000 : Int64)) = (9223372036854775807 : Int64)
        · have G136 : ∀ t, Steps p.tables e below (T126.setTop (mkF m 407 A127 [(.int v125)])) t → Steps p.tables e below (T126.setTop (mkF m 402 A127 [(.int (lcmpW (q0_4 + (1000 : Int64)) (9223372036854775807 : Int64)))])) t := by
            intro t k
            show Steps p.tables e below (T126.setTop (mkF m 402 A127 [(.int (lcmpW (q0_4 + (1000 : Int64)) (9223372036854775807 : Int64)))])) _
            refine XS.ifNo X126.here hx rfl (hb hby at_402) rfl ((if0 _ _).trans (teq ((lw_eq _ _).mpr h402_135)).2) ?_
            show Steps p.tables e below (T126.setTop (mkF m 405 A127 [])) _
            refine XS.iload X126.here hx rfl (hb hby at_405) rfl ?_
            exact k
          by_cases h407_137 : ¬ (((q0_4 + (1000 : Int64)) - v88) < (5000 : Int64))
          · refine ⟨T126, _, X126, N126, e126, fun t k => ?_⟩
            rw [show v140 = (0 : Int32) from hv140.trans (if_neg (fun q => q.elim (fun r => h393_129 r.1) (fun r => (fun q => (fun q => q.1 h407_137) q.2) r.2)))] at k
            refine G134 _ ?_
            refine G136 _ ?_
            show Steps p.tables e below (T126.setTop (mkF m 407 A127 [(.int v125)])) _
            refine XS.ifYes X126.here hx rfl (pc0 := 407) (pc' := 423) rfl (hb hby at_407) rfl ((if0 _ _).trans (feq (own_b1 (hv125.trans (if_pos h407_137)))).2) (by decide) (by decide) ?_
            show Steps p.tables e below (T126.setTop (mkF m 423 A127 [])) _
            refine XS.iconst X126.here hx rfl (hb hby at_423) ?_
            exact k
          · have G138 : ∀ t, Steps p.tables e below (T126.setTop (mkF m 416 A127 [(.int (lcmpW ((q0_4 + (1000 : Int64)) - v88) (2500 : Int64)))])) t → Steps p.tables e below (T126.setTop (mkF m 407 A127 [(.int v125)])) t := by
              intro t k
              show Steps p.tables e below (T126.setTop (mkF m 407 A127 [(.int v125)])) _
              refine XS.ifNo X126.here hx rfl (hb hby at_407) rfl ((if0 _ _).trans (teq (hv125.trans (if_neg h407_137))).2) ?_
              show Steps p.tables e below (T126.setTop (mkF m 410 A127 [])) _
              refine XS.lload X126.here hx rfl (hb hby at_410) rfl ?_
              show Steps p.tables e below (T126.setTop (mkF m 412 A127 [(.long ((q0_4 + (1000 : Int64)) - v88))])) _
              refine X126.ldc2Long hx hown (mvT hZ (ow66 hw)) (g := (mkF m 412 A127 [(.long ((q0_4 + (1000 : Int64)) - v88))])) rfl (hb hby at_412) _ ?_
              show Steps p.tables e below (T126.setTop (mkF m 415 A127 [(.long (2500 : Int64)), (.long ((q0_4 + (1000 : Int64)) - v88))])) _
              refine XS.lcmp X126.here hx rfl (hb hby at_415) rfl ?_
              exact k
            by_cases h416_139 : ((q0_4 + (1000 : Int64)) - v88) < (2500 : Int64)
            · refine ⟨T126, _, X126, N126, e126, fun t k => ?_⟩
              rw [show v140 = (0 : Int32) from hv140.trans (if_neg (fun q => q.elim (fun r => h393_129 r.1) (fun r => (fun q => (fun q => (fun q => q h416_139) q.2) q.2) r.2)))] at k
              refine G134 _ ?_
              refine G136 _ ?_
              refine G138 _ ?_
              show Steps p.tables e below (T126.setTop (mkF m 416 A127 [(.int (lcmpW ((q0_4 + (1000 : Int64)) - v88) (2500 : Int64)))])) _
              refine XS.ifYes X126.here hx rfl (pc0 := 416) (pc' := 423) rfl (hb hby at_416) rfl ((if0 _ _).trans (tlt ((lw_lt _ _).mpr h416_139)).1) (by decide) (by decide) ?_
              show Steps p.tables e below (T126.setTop (mkF m 423 A127 [])) _
              refine XS.iconst X126.here hx rfl (hb hby at_423) ?_
              exact k
            · refine ⟨T126, _, X126, N126, e126, fun t k => ?_⟩
              rw [show v140 = (1 : Int32) from hv140.trans (if_pos (Or.inr ⟨h393_129, ⟨h402_135, ⟨h407_137, h416_139⟩⟩⟩))] at k
              refine G134 _ ?_
              refine G136 _ ?_
              refine G138 _ ?_
              show Steps p.tables e below (T126.setTop (mkF m 416 A127 [(.int (lcmpW ((q0_4 + (1000 : Int64)) - v88) (2500 : Int64)))])) _
              refine XS.ifNo X126.here hx rfl (hb hby at_416) rfl ((if0 _ _).trans (flt (fun q => h416_139 ((lw_lt _ _).mp q))).1) ?_
              show Steps p.tables e below (T126.setTop (mkF m 419 A127 [])) _
              refine XS.iconst X126.here hx rfl (hb hby at_419) ?_
              show Steps p.tables e below (T126.setTop (mkF m 420 A127 [(.int (1 : Int32))])) _
              refine XS.goto X126.here hx rfl (pc0 := 420) (pc' := 424) rfl (hb hby at_420) (by decide) (by decide) ?_
              exact k
        · refine ⟨T126, _, X126, N126, e126, fun t k => ?_⟩
          rw [show v140 = (0 : Int32) from hv140.trans (if_neg (fun q => q.elim (fun r => h393_129 r.1) (fun r => (fun q => h402_135 q.1) r.2)))] at k
          refine G134 _ ?_
          show Steps p.tables e below (T126.setTop (mkF m 402 A127 [(.int (lcmpW (q0_4 + (1000 : Int64)) (9223372036854775807 : Int64)))])) _
          refine XS.ifYes X126.here hx rfl (pc0 := 402) (pc' := 423) rfl (hb hby at_402) rfl ((if0 _ _).trans (feq (fun q => h402_135 ((lw_eq _ _).mp q))).2) (by decide) (by decide) ?_
          show Steps p.tables e below (T126.setTop (mkF m 423 A127 [])) _
          refine XS.iconst X126.here hx rfl (hb hby at_423) ?_
          exact k)
    let A142 : Array Slot := #[.val (.int p0_0), .val (.int p0_1), .val (.int p0_2), .val (.long q0_3), .second, .val (.long q0_4), .second, .val (.int p0_5), .val (.int v4), .val (.int x7), .val (.int v11), .val (.int v16), .val (.ref b19), .val (.int (7 : Int32)), .val (.long (5000 : Int64)), .second, .val (.long v50), .second, .val (.int v59), .val (.int v43), .val (.int v66), .val (.int v73), .val (.int v78), .val (.int v83), .val (.long v88), .second, .val (.long v93), .second, .val (.int x102), .val (.int v118), .val (.long (q0_4 + (1000 : Int64))), .second, .val (.long ((q0_4 + (1000 : Int64)) - v88)), .second, .val (.int v125), .val (.int v140), .unset]
    obtain ⟨cq143, kq143, q143a, q143b, q143c⟩ := isOf hZ e141 P96_2
    obtain ⟨_, _, ⟨T143, L143, k143, n143⟩, -, X143, ⟨Lc143, hQ143, l143, y143, z143⟩, st143⟩ := X141.virtualBack hx (y := (⟨"com/example/halozat/halozat/node/Leader", "heartbeat", "(IIJ)Z"⟩ : MethodName)) (z := (⟨"com/example/halozat/halozat/node/Leader", "heartbeat", "(IIJ)Z"⟩ : MethodName)) hown (mvT hZ (ow29 hw)) (mvT hZ (ow30 hw)) (notFace_of_selects (args := #[]) (mvT hZ (ow32 hw))) (mvT hZ (ow32 hw)) (mvT hZ (ow31 hw)) (by decide) (backOf (W := 0) (rm4 l Z a0 hw [] b19 (v78 + (1 : Int32)) (3 : Int32) (q0_4 + (1000 : Int64)) y97 y99 y33 y98 y35 y100 y101 y39 T96.heap n0 Z96 P96_1 P96_4 P96_2 P96_0 g_b19 P96_3 P96_7 P96_5 P96_6 P96_8) hZ (ow33 hw) (ow2 hw) (by decide) (by decide)) q143a q143c (g := (mkF m 435 A142 [(.long (q0_4 + (1000 : Int64))), (.int (3 : Int32)), (.int (v78 + (1 : Int32))), (.ref b19)])) rfl (by rw [hml]; rfl) (Steps.refl _) (argsL := [(.int (v78 + (1 : Int32))), (.int (3 : Int32)), (.long (q0_4 + (1000 : Int64)))]) (rest := []) (lenOf pd__IIJ_Z rfl) rfl (by show 2 * 0 + _ ≤ _; exact Nat.le_of_eq rfl) (hb hby at_435) (fun _ _ => ⟨rfl, e141, (by decide : 1 + 0 ≤ _), (by decide : 8 + 0 ≤ _)⟩)
    dsimp only [Pt.U, Pt.locs, Pt.cells, Pt.slots] at X143 l143 y143 z143 st143 hQ143
    subst l143 y143 z143
    obtain ⟨rfl, Nq143, Kc143, P143_0, P143_1, P143_2, P143_3, P143_4, P143_5, P143_6, P143_7, P143_8⟩ := hQ143
    have K143 : Keep h0 T143.heap [] := Keep.trans K96 Kc143 (allS (P := fun x => x ∈ ([] : List Addr) ∨ h0.size ≤ x) (Or.inr sz_b19) all0)
    have Z143 : n0 ≤ T143.heap.size := Nat.le_trans Z0 K143.1
    obtain ⟨y144, hy144⟩ : ∃ z : Int32, z = (if (¬ (y97 = (v78 + (1 : Int32))) ∧ ¬ (((q0_4 + (1000 : Int64)) - y99) < (5000 : Int64))) then (v78 + (1 : Int32)) else y97) := ⟨_, rfl⟩
    rw [← hy144] at P143_0
    obtain ⟨y145, hy145⟩ : ∃ z : Int32, z = (if (¬ (y97 = (v78 + (1 : Int32))) ∧ ¬ (((q0_4 + (1000 : Int64)) - y99) < (5000 : Int64))) then y97 else y33) := ⟨_, rfl⟩
    rw [← hy145] at P143_2
    obtain ⟨y146, hy146⟩ : ∃ z : Int32, z = (if (¬ (y97 = (v78 + (1 : Int32))) ∧ ¬ (((q0_4 + (1000 : Int64)) - y99) < (5000 : Int64))) then (3 : Int32) else (if y97 = (v78 + (1 : Int32)) then (3 : Int32) else y98)) := ⟨_, rfl⟩
    rw [← hy146] at P143_3
    obtain ⟨y147, hy147⟩ : ∃ z : Int32, z = (if (¬ (y97 = (v78 + (1 : Int32))) ∧ ¬ (((q0_4 + (1000 : Int64)) - y99) < (5000 : Int64))) then y98 else y35) := ⟨_, rfl⟩
    rw [← hy147] at P143_4
    obtain ⟨y148, hy148⟩ : ∃ z : Int64, z = (if (¬ (y97 = (v78 + (1 : Int32))) ∧ ¬ (((q0_4 + (1000 : Int64)) - y99) < (5000 : Int64))) then (q0_4 + (1000 : Int64)) else y100) := ⟨_, rfl⟩
    rw [← hy148] at P143_5
    obtain ⟨y149, hy149⟩ : ∃ z : Int64, z = (if (¬ (y97 = (v78 + (1 : Int32))) ∧ ¬ (((q0_4 + (1000 : Int64)) - y99) < (5000 : Int64))) then (q0_4 + (1000 : Int64)) else (if y97 = (v78 + (1 : Int32)) then (q0_4 + (1000 : Int64)) else y99)) := ⟨_, rfl⟩
    rw [← hy149] at P143_6
    obtain ⟨y150, hy150⟩ : ∃ z : Int64, z = (if (q0_4 + (1000 : Int64)) < y101 then y101 else (9223372036854775807 : Int64)) := ⟨_, rfl⟩
    rw [← hy150] at P143_7
    obtain ⟨y151, hy151⟩ : ∃ z : Int32, z = (if (¬ (y97 = (v78 + (1 : Int32))) ∧ ¬ (((q0_4 + (1000 : Int64)) - y99) < (5000 : Int64))) then (if (q0_4 + (1000 : Int64)) < y101 then y39 else (nar .boolean (y39 ||| (if ¬ (((q0_4 + (1000 : Int64)) - (q0_4 + (1000 : Int64))) < (2500 : Int64)) then (1 : Int32) else (0 : Int32))))) else (if y97 = (v78 + (1 : Int32)) then (if (q0_4 + (1000 : Int64)) < y101 then y39 else (nar .boolean (y39 ||| (if ¬ (((q0_4 + (1000 : Int64)) - (q0_4 + (1000 : Int64))) < (2500 : Int64)) then (1 : Int32) else (0 : Int32))))) else (if (q0_4 + (1000 : Int64)) < y101 then y39 else (nar .boolean (y39 ||| (if ¬ (((q0_4 + (1000 : Int64)) - y99) < (2500 : Int64)) then (1 : Int32) else (0 : Int32))))))) := ⟨_, rfl⟩
    rw [← hy151] at P143_8
    have N143 := Fr.app N141 Nq143
    obtain ⟨x152, hx152⟩ : ∃ z : Int32, z = (if (¬ (y97 = (v78 + (1 : Int32))) ∧ ¬ (((q0_4 + (1000 : Int64)) - y99) < (5000 : Int64))) then (1 : Int32) else (0 : Int32)) := ⟨_, rfl⟩
    let A153 : Array Slot := #[.val (.int p0_0), .val (.int p0_1), .val (.int p0_2), .val (.long q0_3), .second, .val (.long q0_4), .second, .val (.int p0_5), .val (.int v4), .val (.int x7), .val (.int v11), .val (.int v16), .val (.ref b19), .val (.int (7 : Int32)), .val (.long (5000 : Int64)), .second, .val (.long v50), .second, .val (.int v59), .val (.int v43), .val (.int v66), .val (.int v73), .val (.int v78), .val (.int v83), .val (.long v88), .second, .val (.long v93), .second, .val (.int x102), .val (.int v118), .val (.long (q0_4 + (1000 : Int64))), .second, .val (.long ((q0_4 + (1000 : Int64)) - v88)), .second, .val (.int v125), .val (.int v140), .val (.int x152)]
    have G154 : ∀ t, Steps p.tables e below (T143.setTop (mkF m 442 A153 [(.int v118)])) t → Steps p.tables e below (T141.setTop (mkF m 424 A127 [(.int v140)])) t := by
      intro t k
      show Steps p.tables e below (T141.setTop (mkF m 424 A127 [(.int v140)])) _
      refine XS.istore X141.here hx rfl (hb hby at_424) rfl (l' := A142) rfl ?_
      show Steps p.tables e below (T141.setTop (mkF m 426 A142 [])) _
      refine XS.aload X141.here hx rfl (hb hby at_426) rfl rfl ?_
      show Steps p.tables e below (T141.setTop (mkF m 428 A142 [(.ref b19)])) _
      refine XS.iload X141.here hx rfl (hb hby at_428) rfl ?_
      show Steps p.tables e below (T141.setTop (mkF m 430 A142 [(.int v78), (.ref b19)])) _
      refine XS.iconst X141.here hx rfl (hb hby at_430) ?_
      show Steps p.tables e below (T141.setTop (mkF m 431 A142 [(.int (1 : Int32)), (.int v78), (.ref b19)])) _
      refine XS.iadd X141.here hx rfl (hb hby at_431) rfl ?_
      show Steps p.tables e below (T141.setTop (mkF m 432 A142 [(.int (v78 + (1 : Int32))), (.ref b19)])) _
      refine XS.iconst X141.here hx rfl (hb hby at_432) ?_
      show Steps p.tables e below (T141.setTop (mkF m 433 A142 [(.int (3 : Int32)), (.int (v78 + (1 : Int32))), (.ref b19)])) _
      refine XS.lload X141.here hx rfl (hb hby at_433) rfl ?_
      show Steps p.tables e below (T141.setTop (mkF m 435 A142 [(.long (q0_4 + (1000 : Int64))), (.int (3 : Int32)), (.int (v78 + (1 : Int32))), (.ref b19)])) _
      refine st143.trans ?_
      show Steps p.tables e below (T143.setTop (mkF m 438 A142 [(.int (if (¬ (y97 = (v78 + (1 : Int32))) ∧ ¬ (((q0_4 + (1000 : Int64)) - y99) < (5000 : Int64))) then (1 : Int32) else (0 : Int32)))])) _
      rw [← hx152]
      show Steps p.tables e below (T143.setTop (mkF m 438 A142 [(.int x152)])) _
      refine XS.istore X143.here hx rfl (hb hby at_438) rfl (l' := A153) rfl ?_
      show Steps p.tables e below (T143.setTop (mkF m 440 A153 [])) _
      refine XS.iload X143.here hx rfl (hb hby at_440) rfl ?_
      exact k
    obtain ⟨v161, hv161⟩ : ∃ z : Int32, z = (if ((x102 = v59 ∧ (y97 = v78 ∧ (y98 = v83 ∧ ((q0_4 - y99) = (q0_4 - v88) ∧ y100 = v93)))) ∧ (x152 = v125 ∧ (nar .boolean y151) = v140)) then (1 : Int32) else (0 : Int32)) := ⟨_, rfl⟩
    obtain ⟨T162, Lo162, X162, N162, e162, G162⟩ := own_join X143 N143 (h := T143.heap) (mkF m 442 A153 [(.int v118)]) (mkF m 467 A153 [(.int v161)]) (by
      by_cases h442_155 : (x102 = v59 ∧ (y97 = v78 ∧ (y98 = v83 ∧ ((q0_4 - y99) = (q0_4 - v88) ∧ y100 = v93))))
      · have G156 : ∀ t, Steps p.tables e below (T143.setTop (mkF m 449 A153 [(.int v125), (.int x152)])) t → Steps p.tables e below (T143.setTop (mkF m 442 A153 [(.int v118)])) t := by
          intro t k
          show Steps p.tables e below (T143.setTop (mkF m 442 A153 [(.int v118)])) _
          refine XS.ifNo X143.here hx rfl (hb hby at_442) rfl ((if0 _ _).trans (feq (own_b1 (hv118.trans (if_pos h442_155)))).1) ?_
          show Steps p.tables e below (T143.setTop (mkF m 445 A153 [])) _
          refine XS.iload X143.here hx rfl (hb hby at_445) rfl ?_
          show Steps p.tables e below (T143.setTop (mkF m 447 A153 [(.int x152)])) _
          refine XS.iload X143.here hx rfl (hb hby at_447) rfl ?_
          exact k
        by_cases h449_157 : x152 = v125
        · obtain ⟨cq158, kq158, q158a, q158b, q158c⟩ := isOf hZ rfl P143_1
          obtain ⟨_, _, ⟨T158, L158, k158, n158⟩, -, X158, ⟨Lc158, hQ158, l158, y158, z158⟩, st158⟩ := X143.virtualBack hx (y := (⟨"com/example/halozat/halozat/node/Leader", "far", "()Z"⟩ : MethodName)) (z := (⟨"com/example/halozat/halozat/node/Leader", "far", "()Z"⟩ : MethodName)) hown (mvT hZ (ow58 hw)) (mvT hZ (ow59 hw)) (notFace_of_selects (args := #[]) (mvT hZ (ow61 hw))) (mvT hZ (ow61 hw)) (mvT hZ (ow60 hw)) (by decide) (backOf (W := 0) (rm9 l Z a0 hw [] b19 y151 T143.heap n0 Z143 P143_8) hZ (ow62 hw) (ow2 hw) (by decide) (by decide)) q158a q158c (g := (mkF m 454 A153 [(.ref b19)])) rfl (by rw [hml]; rfl) (Steps.refl _) (argsL := []) (rest := []) (lenOf pd___Z rfl) rfl (by show 2 * 0 + _ ≤ _; exact Nat.le_of_eq rfl) (hb hby at_454) (fun _ _ => ⟨rfl, rfl, (by decide : 1 + 0 ≤ _), (by decide : 8 + 0 ≤ _)⟩)
          dsimp only [Pt.U, Pt.locs, Pt.cells, Pt.slots] at X158 l158 y158 z158 st158 hQ158
          subst l158 y158 z158
          obtain ⟨rfl, Nq158, e158⟩ := hQ158
          have N158 := Fr.app N143 Nq158
          have G159 : ∀ t, Steps p.tables e below (T158.setTop (mkF m 459 A153 [(.int v140), (.int (nar .boolean y151))])) t → Steps p.tables e below (T143.setTop (mkF m 449 A153 [(.int v125), (.int x152)])) t := by
            intro t k
            show Steps p.tables e below (T143.setTop (mkF m 449 A153 [(.int v125), (.int x152)])) _
            refine XS.icmpNo X143.here hx rfl (hb hby at_449) rfl (teq h449_157).2 ?_
            show Steps p.tables e below (T143.setTop (mkF m 452 A153 [])) _
            refine XS.aload X143.here hx rfl (hb hby at_452) rfl rfl ?_
            show Steps p.tables e below (T143.setTop (mkF m 454 A153 [(.ref b19)])) _
            refine st158.trans ?_
            show Steps p.tables e below (T158.setTop (mkF m 457 A153 [(.int (nar .boolean y151))])) _
            refine XS.iload X158.here hx rfl (hb hby at_457) rfl ?_
            exact k
          by_cases h459_160 : (nar .boolean y151) = v140
          · refine ⟨T158, _, X158, N158, e158, fun t k => ?_⟩
            rw [show v161 = (1 : Int32) from hv161.trans (if_pos ⟨h442_155, ⟨h449_157, h459_160⟩⟩)] at k
            refine G156 _ ?_
            refine G159 _ ?_
            show Steps p.tables e below (T158.setTop (mkF m 459 A153 [(.int v140), (.int (nar .boolean y151))])) _
            refine XS.icmpNo X158.here hx rfl (hb hby at_459) rfl (teq h459_160).2 ?_
            show Steps p.tables e below (T158.setTop (mkF m 462 A153 [])) _
            refine XS.iconst X158.here hx rfl (hb hby at_462) ?_
            show Steps p.tables e below (T158.setTop (mkF m 463 A153 [(.int (1 : Int32))])) _
            refine XS.goto X158.here hx rfl (pc0 := 463) (pc' := 467) rfl (hb hby at_463) (by decide) (by decide) ?_
            exact k
          · refine ⟨T158, _, X158, N158, e158, fun t k => ?_⟩
            rw [show v161 = (0 : Int32) from hv161.trans (if_neg (fun q => (fun q => h459_160 q.2) q.2))] at k
            refine G156 _ ?_
            refine G159 _ ?_
            show Steps p.tables e below (T158.setTop (mkF m 459 A153 [(.int v140), (.int (nar .boolean y151))])) _
            refine XS.icmpYes X158.here hx rfl (pc0 := 459) (pc' := 466) rfl (hb hby at_459) rfl (feq h459_160).2 (by decide) (by decide) ?_
            show Steps p.tables e below (T158.setTop (mkF m 466 A153 [])) _
            refine XS.iconst X158.here hx rfl (hb hby at_466) ?_
            exact k
        · refine ⟨T143, _, X143, N143, rfl, fun t k => ?_⟩
          rw [show v161 = (0 : Int32) from hv161.trans (if_neg (fun q => (fun q => h449_157 q.1) q.2))] at k
          refine G156 _ ?_
          show Steps p.tables e below (T143.setTop (mkF m 449 A153 [(.int v125), (.int x152)])) _
          refine XS.icmpYes X143.here hx rfl (pc0 := 449) (pc' := 466) rfl (hb hby at_449) rfl (feq h449_157).2 (by decide) (by decide) ?_
          show Steps p.tables e below (T143.setTop (mkF m 466 A153 [])) _
          refine XS.iconst X143.here hx rfl (hb hby at_466) ?_
          exact k
      · refine ⟨T143, _, X143, N143, rfl, fun t k => ?_⟩
        rw [show v161 = (0 : Int32) from hv161.trans (if_neg (fun q => h442_155 q.1))] at k
        show Steps p.tables e below (T143.setTop (mkF m 442 A153 [(.int v118)])) _
        refine XS.ifYes X143.here hx rfl (pc0 := 442) (pc' := 466) rfl (hb hby at_442) rfl ((if0 _ _).trans (teq (hv118.trans (if_neg h442_155))).1) (by decide) (by decide) ?_
        show Steps p.tables e below (T143.setTop (mkF m 466 A153 [])) _
        refine XS.iconst X143.here hx rfl (hb hby at_466) ?_
        exact k)
    have fin : v161 = (1 : Int32) := by
      exact own_fin1 p0_0 p0_1 p0_2 q0_3 q0_4 p0_5 v4 hv4 x7 hx7 v11 hv11 v16 hv16 y23 hy23 y24 hy24 y25 hy25 y26 hy26 y27 hy27 x28 hx28 y32 hy32 y33 hy33 y34 hy34 y35 hy35 y36 hy36 y37 hy37 y38 hy38 y39 hy39 x40 hx40 v43 hv43 v50 hv50 v59 hv59 v66 hv66 v73 hv73 v78 hv78 v83 hv83 v88 hv88 v93 hv93 y97 hy97 y98 hy98 y99 hy99 y100 hy100 y101 hy101 x102 hx102 v118 hv118 v125 hv125 v140 hv140 y144 hy144 y145 hy145 y146 hy146 y147 hy147 y148 hy148 y149 hy149 y150 hy150 y151 hy151 x152 hx152 v161 hv161 h77_30
    obtain ⟨fs, hr, hrun, hended, hW, hsame⟩ := X162.leave (v := some (.int (1 : Int32))) (fun h => by rw [Bd.returns] at h; cases h)
    refine ⟨_, _, pre0 _ ?_, hrun, hended, _, _, rfl, ?_, ⟨_, rfl⟩, hW, hsame.mono (by decide) (by decide)⟩
    · refine G2 _ ?_
      refine G5 _ ?_
      refine G9 _ ?_
      refine G12 _ ?_
      refine G14 _ ?_
      refine G17 _ ?_
      refine G29 _ ?_
      refine G41 _ ?_
      refine G44 _ ?_
      refine G48 _ ?_
      refine G51 _ ?_
      refine G53 _ ?_
      refine G60 _ ?_
      refine G62 _ ?_
      refine G67 _ ?_
      refine G69 _ ?_
      refine G74 _ ?_
      refine G76 _ ?_
      refine G79 _ ?_
      refine G81 _ ?_
      refine G84 _ ?_
      refine G86 _ ?_
      refine G89 _ ?_
      refine G91 _ ?_
      refine G94 _ ?_
      refine G104 _ ?_
      refine G119 _ ?_
      refine G123 _ ?_
      refine G126 _ ?_
      refine G128 _ ?_
      refine G141 _ ?_
      refine G154 _ ?_
      refine G162 _ ?_
      show Steps p.tables e below (T162.setTop (mkF m 467 A153 [(.int v161)])) _
      rw [fin]
      exact retN X162 hx (t := .boolean) Bd.returns (by simp) (hb hby at_467) hr
    · exact ⟨rfl, N162⟩
  · have G163 : ∀ t, Steps p.tables e below (T22.setTop (mkF m 97 A21 [(.int (lcmpW q0_3 (5000 : Int64)))])) t → Steps p.tables e below (T22.setTop (mkF m 77 A21 [(.int v4)])) t := by
      intro t k
      show Steps p.tables e below (T22.setTop (mkF m 77 A21 [(.int v4)])) _
      refine XS.ifYes X22.here hx rfl (pc0 := 77) (pc' := 92) rfl (hb hby at_77) rfl ((if0 _ _).trans (teq (hv4.trans (if_neg h77_30))).1) (by decide) (by decide) ?_
      show Steps p.tables e below (T22.setTop (mkF m 92 A21 [])) _
      refine XS.lloadN X22.here hx rfl (hb hby at_92) rfl ?_
      show Steps p.tables e below (T22.setTop (mkF m 93 A21 [(.long q0_3)])) _
      refine X22.ldc2Long hx hown (mvT hZ (ow28 hw)) (g := (mkF m 93 A21 [(.long q0_3)])) rfl (hb hby at_93) _ ?_
      show Steps p.tables e below (T22.setTop (mkF m 96 A21 [(.long (5000 : Int64)), (.long q0_3)])) _
      refine XS.lcmp X22.here hx rfl (hb hby at_96) rfl ?_
      exact k
    obtain ⟨v165, hv165⟩ : ∃ z : Int32, z = (if q0_3 < (5000 : Int64) then (1 : Int32) else (0 : Int32)) := ⟨_, rfl⟩
    obtain ⟨T166, Lo166, X166, N166, e166, G166⟩ := own_join X22 N22 (h := T22.heap) (mkF m 97 A21 [(.int (lcmpW q0_3 (5000 : Int64)))]) (mkF m 105 A21 [(.int v165)]) (by
      by_cases h97_164 : q0_3 < (5000 : Int64)
      · refine ⟨T22, _, X22, N22, rfl, fun t k => ?_⟩
        rw [show v165 = (1 : Int32) from hv165.trans (if_pos h97_164)] at k
        show Steps p.tables e below (T22.setTop (mkF m 97 A21 [(.int (lcmpW q0_3 (5000 : Int64)))])) _
        refine XS.ifNo X22.here hx rfl (hb hby at_97) rfl ((if0 _ _).trans (tlt ((lw_lt _ _).mpr h97_164)).2.1) ?_
        show Steps p.tables e below (T22.setTop (mkF m 100 A21 [])) _
        refine XS.iconst X22.here hx rfl (hb hby at_100) ?_
        show Steps p.tables e below (T22.setTop (mkF m 101 A21 [(.int (1 : Int32))])) _
        refine XS.goto X22.here hx rfl (pc0 := 101) (pc' := 105) rfl (hb hby at_101) (by decide) (by decide) ?_
        exact k
      · refine ⟨T22, _, X22, N22, rfl, fun t k => ?_⟩
        rw [show v165 = (0 : Int32) from hv165.trans (if_neg h97_164)] at k
        show Steps p.tables e below (T22.setTop (mkF m 97 A21 [(.int (lcmpW q0_3 (5000 : Int64)))])) _
        refine XS.ifYes X22.here hx rfl (pc0 := 97) (pc' := 104) rfl (hb hby at_97) rfl ((if0 _ _).trans (flt (fun q => h97_164 ((lw_lt _ _).mp q))).2.1) (by decide) (by decide) ?_
        show Steps p.tables e below (T22.setTop (mkF m 104 A21 [])) _
        refine XS.iconst X22.here hx rfl (hb hby at_104) ?_
        exact k)
    let A167 : Array Slot := #[.val (.int p0_0), .val (.int p0_1), .val (.int p0_2), .val (.long q0_3), .second, .val (.long q0_4), .second, .val (.int p0_5), .val (.int v4), .val (.int x7), .val (.int v11), .val (.int v16), .val (.ref b19), .unset, .unset, .unset, .unset, .unset, .unset, .val (.int v165), .unset, .unset, .unset, .unset, .unset, .unset, .unset, .unset, .unset, .unset, .unset, .unset, .unset, .unset, .unset, .unset, .unset]
    let A168 : Array Slot := #[.val (.int p0_0), .val (.int p0_1), .val (.int p0_2), .val (.long q0_3), .second, .val (.long q0_4), .second, .val (.int p0_5), .val (.int v4), .val (.int x7), .val (.int v11), .val (.int v16), .val (.ref b19), .val (.int v11), .unset, .unset, .unset, .unset, .unset, .val (.int v165), .unset, .unset, .unset, .unset, .unset, .unset, .unset, .unset, .unset, .unset, .unset, .unset, .unset, .unset, .unset, .unset, .unset]
    let A169 : Array Slot := #[.val (.int p0_0), .val (.int p0_1), .val (.int p0_2), .val (.long q0_3), .second, .val (.long q0_4), .second, .val (.int p0_5), .val (.int v4), .val (.int x7), .val (.int v11), .val (.int v16), .val (.ref b19), .val (.int v11), .val (.long (0 : Int64)), .second, .unset, .unset, .unset, .val (.int v165), .unset, .unset, .unset, .unset, .unset, .unset, .unset, .unset, .unset, .unset, .unset, .unset, .unset, .unset, .unset, .unset, .unset]
    let A170 : Array Slot := #[.val (.int p0_0), .val (.int p0_1), .val (.int p0_2), .val (.long q0_3), .second, .val (.long q0_4), .second, .val (.int p0_5), .val (.int v4), .val (.int x7), .val (.int v11), .val (.int v16), .val (.ref b19), .val (.int v11), .val (.long (0 : Int64)), .second, .val (.long (0 : Int64)), .second, .unset, .val (.int v165), .unset, .unset, .unset, .unset, .unset, .unset, .unset, .unset, .unset, .unset, .unset, .unset, .unset, .unset, .unset, .unset, .unset]
    have G171 : ∀ t, Steps p.tables e below (T166.setTop (mkF m 173 A170 [(.int v165)])) t → Steps p.tables e below (T166.setTop (mkF m 105 A21 [(.int v165)])) t := by
      intro t k
      show Steps p.tables e below (T166.setTop (mkF m 105 A21 [(.int v165)])) _
      refine XS.istore X166.here hx rfl (hb hby at_105) rfl (l' := A167) rfl ?_
      show Steps p.tables e below (T166.setTop (mkF m 107 A167 [])) _
      refine XS.iload X166.here hx rfl (hb hby at_107) rfl ?_
      show Steps p.tables e below (T166.setTop (mkF m 109 A167 [(.int v4)])) _
      refine XS.ifYes X166.here hx rfl (pc0 := 109) (pc' := 161) rfl (hb hby at_109) rfl ((if0 _ _).trans (teq (hv4.trans (if_neg h77_30))).1) (by decide) (by decide) ?_
      show Steps p.tables e below (T166.setTop (mkF m 161 A167 [])) _
      refine XS.iload X166.here hx rfl (hb hby at_161) rfl ?_
      show Steps p.tables e below (T166.setTop (mkF m 163 A167 [(.int v11)])) _
      refine XS.istore X166.here hx rfl (hb hby at_163) rfl (l' := A168) rfl ?_
      show Steps p.tables e below (T166.setTop (mkF m 165 A168 [])) _
      refine XS.lconst X166.here hx rfl (hb hby at_165) ?_
      show Steps p.tables e below (T166.setTop (mkF m 166 A168 [(.long (0 : Int64))])) _
      refine XS.lstore X166.here hx rfl (hb hby at_166) rfl (l' := A169) rfl ?_
      show Steps p.tables e below (T166.setTop (mkF m 168 A169 [])) _
      refine XS.lconst X166.here hx rfl (hb hby at_168) ?_
      show Steps p.tables e below (T166.setTop (mkF m 169 A169 [(.long (0 : Int64))])) _
      refine XS.lstore X166.here hx rfl (hb hby at_169) rfl (l' := A170) rfl ?_
      show Steps p.tables e below (T166.setTop (mkF m 171 A170 [])) _
      refine XS.iload X166.here hx rfl (hb hby at_171) rfl ?_
      exact k
    obtain ⟨v179, hv179⟩ : ∃ z : Int32, z = (if (q0_3 < (5000 : Int64) ∧ (p0_1 < p0_0 ∧ (¬ (p0_1 = (-1 : Int32)) ∨ (0 : Int32) < p0_2))) then (1 : Int32) else (0 : Int32)) := ⟨_, rfl⟩
    obtain ⟨T180, Lo180, X180, N180, e180, G180⟩ := own_join X166 N166 (h := T22.heap) (mkF m 173 A170 [(.int v165)]) (mkF m 195 A170 [(.int v179)]) (by
      by_cases h173_172 : q0_3 < (5000 : Int64)
      · have G173 : ∀ t, Steps p.tables e below (T166.setTop (mkF m 178 A170 [(.int p0_0), (.int p0_1)])) t → Steps p.tables e below (T166.setTop (mkF m 173 A170 [(.int v165)])) t := by
          intro t k
          show Steps p.tables e below (T166.setTop (mkF m 173 A170 [(.int v165)])) _
          refine XS.ifNo X166.here hx rfl (hb hby at_173) rfl ((if0 _ _).trans (feq (own_b1 (hv165.trans (if_pos h173_172)))).1) ?_
          show Steps p.tables e below (T166.setTop (mkF m 176 A170 [])) _
          refine XS.iloadN X166.here hx rfl (hb hby at_176) rfl ?_
          show Steps p.tables e below (T166.setTop (mkF m 177 A170 [(.int p0_1)])) _
          refine XS.iloadN X166.here hx rfl (hb hby at_177) rfl ?_
          exact k
        by_cases h178_174 : p0_1 < p0_0
        · have G175 : ∀ t, Steps p.tables e below (T166.setTop (mkF m 183 A170 [(.int (-1 : Int32)), (.int p0_1)])) t → Steps p.tables e below (T166.setTop (mkF m 178 A170 [(.int p0_0), (.int p0_1)])) t := by
            intro t k
            show Steps p.tables e below (T166.setTop (mkF m 178 A170 [(.int p0_0), (.int p0_1)])) _
            refine XS.icmpNo X166.here hx rfl (hb hby at_178) rfl (tlt h178_174).2.1 ?_
            show Steps p.tables e below (T166.setTop (mkF m 181 A170 [])) _
            refine XS.iloadN X166.here hx rfl (hb hby at_181) rfl ?_
            show Steps p.tables e below (T166.setTop (mkF m 182 A170 [(.int p0_1)])) _
            refine XS.iconst X166.here hx rfl (hb hby at_182) ?_
            exact k
          by_cases h183_176 : p0_1 = (-1 : Int32)
          · have G177 : ∀ t, Steps p.tables e below (T166.setTop (mkF m 187 A170 [(.int p0_2)])) t → Steps p.tables e below (T166.setTop (mkF m 183 A170 [(.int (-1 : Int32)), (.int p0_1)])) t := by
              intro t k
              show Steps p.tables e below (T166.setTop (mkF m 183 A170 [(.int (-1 : Int32)), (.int p0_1)])) _
              refine XS.icmpNo X166.here hx rfl (hb hby at_183) rfl (teq h183_176).2 ?_
              show Steps p.tables e below (T166.setTop (mkF m 186 A170 [])) _
              refine XS.iloadN X166.here hx rfl (hb hby at_186) rfl ?_
              exact k
            by_cases h187_178 : (0 : Int32) < p0_2
            · refine ⟨T166, _, X166, N166, e166, fun t k => ?_⟩
              rw [show v179 = (1 : Int32) from hv179.trans (if_pos ⟨h173_172, ⟨h178_174, (Or.inr h187_178)⟩⟩)] at k
              refine G173 _ ?_
              refine G175 _ ?_
              refine G177 _ ?_
              show Steps p.tables e below (T166.setTop (mkF m 187 A170 [(.int p0_2)])) _
              refine XS.ifNo X166.here hx rfl (hb hby at_187) rfl ((if0 _ _).trans (tlt h187_178).2.2.2) ?_
              show Steps p.tables e below (T166.setTop (mkF m 190 A170 [])) _
              refine XS.iconst X166.here hx rfl (hb hby at_190) ?_
              show Steps p.tables e below (T166.setTop (mkF m 191 A170 [(.int (1 : Int32))])) _
              refine XS.goto X166.here hx rfl (pc0 := 191) (pc' := 195) rfl (hb hby at_191) (by decide) (by decide) ?_
              exact k
            · refine ⟨T166, _, X166, N166, e166, fun t k => ?_⟩
              rw [show v179 = (0 : Int32) from hv179.trans (if_neg (fun q => (fun q => (fun q => q.elim (fun r => r h183_176) h187_178) q.2) q.2))] at k
              refine G173 _ ?_
              refine G175 _ ?_
              refine G177 _ ?_
              show Steps p.tables e below (T166.setTop (mkF m 187 A170 [(.int p0_2)])) _
              refine XS.ifYes X166.here hx rfl (pc0 := 187) (pc' := 194) rfl (hb hby at_187) rfl ((if0 _ _).trans (flt h187_178).2.2.2) (by decide) (by decide) ?_
              show Steps p.tables e below (T166.setTop (mkF m 194 A170 [])) _
              refine XS.iconst X166.here hx rfl (hb hby at_194) ?_
              exact k
          · refine ⟨T166, _, X166, N166, e166, fun t k => ?_⟩
            rw [show v179 = (1 : Int32) from hv179.trans (if_pos ⟨h173_172, ⟨h178_174, (Or.inl h183_176)⟩⟩)] at k
            refine G173 _ ?_
            refine G175 _ ?_
            show Steps p.tables e below (T166.setTop (mkF m 183 A170 [(.int (-1 : Int32)), (.int p0_1)])) _
            refine XS.icmpYes X166.here hx rfl (pc0 := 183) (pc' := 190) rfl (hb hby at_183) rfl (feq h183_176).2 (by decide) (by decide) ?_
            show Steps p.tables e below (T166.setTop (mkF m 190 A170 [])) _
            refine XS.iconst X166.here hx rfl (hb hby at_190) ?_
            show Steps p.tables e below (T166.setTop (mkF m 191 A170 [(.int (1 : Int32))])) _
            refine XS.goto X166.here hx rfl (pc0 := 191) (pc' := 195) rfl (hb hby at_191) (by decide) (by decide) ?_
            exact k
        · refine ⟨T166, _, X166, N166, e166, fun t k => ?_⟩
          rw [show v179 = (0 : Int32) from hv179.trans (if_neg (fun q => (fun q => h178_174 q.1) q.2))] at k
          refine G173 _ ?_
          show Steps p.tables e below (T166.setTop (mkF m 178 A170 [(.int p0_0), (.int p0_1)])) _
          refine XS.icmpYes X166.here hx rfl (pc0 := 178) (pc' := 194) rfl (hb hby at_178) rfl (flt h178_174).2.1 (by decide) (by decide) ?_
          show Steps p.tables e below (T166.setTop (mkF m 194 A170 [])) _
          refine XS.iconst X166.here hx rfl (hb hby at_194) ?_
          exact k
      · refine ⟨T166, _, X166, N166, e166, fun t k => ?_⟩
        rw [show v179 = (0 : Int32) from hv179.trans (if_neg (fun q => h173_172 q.1))] at k
        show Steps p.tables e below (T166.setTop (mkF m 173 A170 [(.int v165)])) _
        refine XS.ifYes X166.here hx rfl (pc0 := 173) (pc' := 194) rfl (hb hby at_173) rfl ((if0 _ _).trans (teq (hv165.trans (if_neg h173_172))).1) (by decide) (by decide) ?_
        show Steps p.tables e below (T166.setTop (mkF m 194 A170 [])) _
        refine XS.iconst X166.here hx rfl (hb hby at_194) ?_
        exact k)
    let A181 : Array Slot := #[.val (.int p0_0), .val (.int p0_1), .val (.int p0_2), .val (.long q0_3), .second, .val (.long q0_4), .second, .val (.int p0_5), .val (.int v4), .val (.int x7), .val (.int v11), .val (.int v16), .val (.ref b19), .val (.int v11), .val (.long (0 : Int64)), .second, .val (.long (0 : Int64)), .second, .val (.int v179), .val (.int v165), .unset, .unset, .unset, .unset, .unset, .unset, .unset, .unset, .unset, .unset, .unset, .unset, .unset, .unset, .unset, .unset, .unset]
    have G182 : ∀ t, Steps p.tables e below (T180.setTop (mkF m 199 A181 [(.int p0_0), (.int p0_1)])) t → Steps p.tables e below (T180.setTop (mkF m 195 A170 [(.int v179)])) t := by
      intro t k
      show Steps p.tables e below (T180.setTop (mkF m 195 A170 [(.int v179)])) _
      refine XS.istore X180.here hx rfl (hb hby at_195) rfl (l' := A181) rfl ?_
      show Steps p.tables e below (T180.setTop (mkF m 197 A181 [])) _
      refine XS.iloadN X180.here hx rfl (hb hby at_197) rfl ?_
      show Steps p.tables e below (T180.setTop (mkF m 198 A181 [(.int p0_1)])) _
      refine XS.iloadN X180.here hx rfl (hb hby at_198) rfl ?_
      exact k
    obtain ⟨v186, hv186⟩ : ∃ z : Int32, z = (if (p0_1 = p0_0 ∧ v11 < p0_2) then (1 : Int32) else (0 : Int32)) := ⟨_, rfl⟩
    obtain ⟨T187, Lo187, X187, N187, e187, G187⟩ := own_join X180 N180 (h := T22.heap) (mkF m 199 A181 [(.int p0_0), (.int p0_1)]) (mkF m 213 A181 [(.int v186)]) (by
      by_cases h199_183 : p0_1 = p0_0
      · have G184 : ∀ t, Steps p.tables e below (T180.setTop (mkF m 205 A181 [(.int v11), (.int p0_2)])) t → Steps p.tables e below (T180.setTop (mkF m 199 A181 [(.int p0_0), (.int p0_1)])) t := by
          intro t k
          show Steps p.tables e below (T180.setTop (mkF m 199 A181 [(.int p0_0), (.int p0_1)])) _
          refine XS.icmpNo X180.here hx rfl (hb hby at_199) rfl (teq h199_183).2 ?_
          show Steps p.tables e below (T180.setTop (mkF m 202 A181 [])) _
          refine XS.iloadN X180.here hx rfl (hb hby at_202) rfl ?_
          show Steps p.tables e below (T180.setTop (mkF m 203 A181 [(.int p0_2)])) _
          refine XS.iload X180.here hx rfl (hb hby at_203) rfl ?_
          exact k
        by_cases h205_185 : v11 < p0_2
        · refine ⟨T180, _, X180, N180, e180, fun t k => ?_⟩
          rw [show v186 = (1 : Int32) from hv186.trans (if_pos ⟨h199_183, h205_185⟩)] at k
          refine G184 _ ?_
          show Steps p.tables e below (T180.setTop (mkF m 205 A181 [(.int v11), (.int p0_2)])) _
          refine XS.icmpNo X180.here hx rfl (hb hby at_205) rfl (tlt h205_185).2.2.2 ?_
          show Steps p.tables e below (T180.setTop (mkF m 208 A181 [])) _
          refine XS.iconst X180.here hx rfl (hb hby at_208) ?_
          show Steps p.tables e below (T180.setTop (mkF m 209 A181 [(.int (1 : Int32))])) _
          refine XS.goto X180.here hx rfl (pc0 := 209) (pc' := 213) rfl (hb hby at_209) (by decide) (by decide) ?_
          exact k
        · refine ⟨T180, _, X180, N180, e180, fun t k => ?_⟩
          rw [show v186 = (0 : Int32) from hv186.trans (if_neg (fun q => h205_185 q.2))] at k
          refine G184 _ ?_
          show Steps p.tables e below (T180.setTop (mkF m 205 A181 [(.int v11), (.int p0_2)])) _
          refine XS.icmpYes X180.here hx rfl (pc0 := 205) (pc' := 212) rfl (hb hby at_205) rfl (flt h205_185).2.2.2 (by decide) (by decide) ?_
          show Steps p.tables e below (T180.setTop (mkF m 212 A181 [])) _
          refine XS.iconst X180.here hx rfl (hb hby at_212) ?_
          exact k
      · refine ⟨T180, _, X180, N180, e180, fun t k => ?_⟩
        rw [show v186 = (0 : Int32) from hv186.trans (if_neg (fun q => h199_183 q.1))] at k
        show Steps p.tables e below (T180.setTop (mkF m 199 A181 [(.int p0_0), (.int p0_1)])) _
        refine XS.icmpYes X180.here hx rfl (pc0 := 199) (pc' := 212) rfl (hb hby at_199) rfl (feq h199_183).2 (by decide) (by decide) ?_
        show Steps p.tables e below (T180.setTop (mkF m 212 A181 [])) _
        refine XS.iconst X180.here hx rfl (hb hby at_212) ?_
        exact k)
    let A188 : Array Slot := #[.val (.int p0_0), .val (.int p0_1), .val (.int p0_2), .val (.long q0_3), .second, .val (.long q0_4), .second, .val (.int p0_5), .val (.int v4), .val (.int x7), .val (.int v11), .val (.int v16), .val (.ref b19), .val (.int v11), .val (.long (0 : Int64)), .second, .val (.long (0 : Int64)), .second, .val (.int v179), .val (.int v165), .val (.int v186), .unset, .unset, .unset, .unset, .unset, .unset, .unset, .unset, .unset, .unset, .unset, .unset, .unset, .unset, .unset, .unset]
    have G189 : ∀ t, Steps p.tables e below (T187.setTop (mkF m 217 A188 [(.int v179)])) t → Steps p.tables e below (T187.setTop (mkF m 213 A181 [(.int v186)])) t := by
      intro t k
      show Steps p.tables e below (T187.setTop (mkF m 213 A181 [(.int v186)])) _
      refine XS.istore X187.here hx rfl (hb hby at_213) rfl (l' := A188) rfl ?_
      show Steps p.tables e below (T187.setTop (mkF m 215 A188 [])) _
      refine XS.iload X187.here hx rfl (hb hby at_215) rfl ?_
      exact k
    obtain ⟨v193, hv193⟩ : ∃ z : Int32, z = (if ((q0_3 < (5000 : Int64) ∧ (p0_1 < p0_0 ∧ (¬ (p0_1 = (-1 : Int32)) ∨ (0 : Int32) < p0_2))) ∨ (p0_1 = p0_0 ∧ v11 < p0_2)) then (1 : Int32) else (0 : Int32)) := ⟨_, rfl⟩
    obtain ⟨T194, Lo194, X194, N194, e194, G194⟩ := own_join X187 N187 (h := T22.heap) (mkF m 217 A188 [(.int v179)]) (mkF m 230 A188 [(.int v193)]) (by
      by_cases h217_190 : (q0_3 < (5000 : Int64) ∧ (p0_1 < p0_0 ∧ (¬ (p0_1 = (-1 : Int32)) ∨ (0 : Int32) < p0_2)))
      · refine ⟨T187, _, X187, N187, e187, fun t k => ?_⟩
        rw [show v193 = (1 : Int32) from hv193.trans (if_pos (Or.inl h217_190))] at k
        show Steps p.tables e below (T187.setTop (mkF m 217 A188 [(.int v179)])) _
        refine XS.ifYes X187.here hx rfl (pc0 := 217) (pc' := 225) rfl (hb hby at_217) rfl ((if0 _ _).trans (feq (own_b1 (hv179.trans (if_pos h217_190)))).2) (by decide) (by decide) ?_
        show Steps p.tables e below (T187.setTop (mkF m 225 A188 [])) _
        refine XS.iconst X187.here hx rfl (hb hby at_225) ?_
        show Steps p.tables e below (T187.setTop (mkF m 226 A188 [(.int (1 : Int32))])) _
        refine XS.goto X187.here hx rfl (pc0 := 226) (pc' := 230) rfl (hb hby at_226) (by decide) (by decide) ?_
        exact k
      · have G191 : ∀ t, Steps p.tables e below (T187.setTop (mkF m 222 A188 [(.int v186)])) t → Steps p.tables e below (T187.setTop (mkF m 217 A188 [(.int v179)])) t := by
          intro t k
          show Steps p.tables e below (T187.setTop (mkF m 217 A188 [(.int v179)])) _
          refine XS.ifNo X187.here hx rfl (hb hby at_217) rfl ((if0 _ _).trans (teq (hv179.trans (if_neg h217_190))).2) ?_
          show Steps p.tables e below (T187.setTop (mkF m 220 A188 [])) _
          refine XS.iload X187.here hx rfl (hb hby at_220) rfl ?_
          exact k
        by_cases h222_192 : (p0_1 = p0_0 ∧ v11 < p0_2)
        · refine ⟨T187, _, X187, N187, e187, fun t k => ?_⟩
          rw [show v193 = (1 : Int32) from hv193.trans (if_pos (Or.inr h222_192))] at k
          refine G191 _ ?_
          show Steps p.tables e below (T187.setTop (mkF m 222 A188 [(.int v186)])) _
          refine XS.ifNo X187.here hx rfl (hb hby at_222) rfl ((if0 _ _).trans (feq (own_b1 (hv186.trans (if_pos h222_192)))).1) ?_
          show Steps p.tables e below (T187.setTop (mkF m 225 A188 [])) _
          refine XS.iconst X187.here hx rfl (hb hby at_225) ?_
          show Steps p.tables e below (T187.setTop (mkF m 226 A188 [(.int (1 : Int32))])) _
          refine XS.goto X187.here hx rfl (pc0 := 226) (pc' := 230) rfl (hb hby at_226) (by decide) (by decide) ?_
          exact k
        · refine ⟨T187, _, X187, N187, e187, fun t k => ?_⟩
          rw [show v193 = (0 : Int32) from hv193.trans (if_neg (fun q => q.elim h217_190 h222_192))] at k
          refine G191 _ ?_
          show Steps p.tables e below (T187.setTop (mkF m 222 A188 [(.int v186)])) _
          refine XS.ifYes X187.here hx rfl (pc0 := 222) (pc' := 229) rfl (hb hby at_222) rfl ((if0 _ _).trans (teq (hv186.trans (if_neg h222_192))).1) (by decide) (by decide) ?_
          show Steps p.tables e below (T187.setTop (mkF m 229 A188 [])) _
          refine XS.iconst X187.here hx rfl (hb hby at_229) ?_
          exact k)
    let A195 : Array Slot := #[.val (.int p0_0), .val (.int p0_1), .val (.int p0_2), .val (.long q0_3), .second, .val (.long q0_4), .second, .val (.int p0_5), .val (.int v4), .val (.int x7), .val (.int v11), .val (.int v16), .val (.ref b19), .val (.int v11), .val (.long (0 : Int64)), .second, .val (.long (0 : Int64)), .second, .val (.int v179), .val (.int v165), .val (.int v186), .val (.int v193), .unset, .unset, .unset, .unset, .unset, .unset, .unset, .unset, .unset, .unset, .unset, .unset, .unset, .unset, .unset]
    have G196 : ∀ t, Steps p.tables e below (T194.setTop (mkF m 234 A195 [(.int v193)])) t → Steps p.tables e below (T194.setTop (mkF m 230 A188 [(.int v193)])) t := by
      intro t k
      show Steps p.tables e below (T194.setTop (mkF m 230 A188 [(.int v193)])) _
      refine XS.istore X194.here hx rfl (hb hby at_230) rfl (l' := A195) rfl ?_
      show Steps p.tables e below (T194.setTop (mkF m 232 A195 [])) _
      refine XS.iload X194.here hx rfl (hb hby at_232) rfl ?_
      exact k
    obtain ⟨v198, hv198⟩ : ∃ z : Int32, z = (if ((q0_3 < (5000 : Int64) ∧ (p0_1 < p0_0 ∧ (¬ (p0_1 = (-1 : Int32)) ∨ (0 : Int32) < p0_2))) ∨ (p0_1 = p0_0 ∧ v11 < p0_2)) then p0_1 else p0_0) := ⟨_, rfl⟩
    obtain ⟨T199, Lo199, X199, N199, e199, G199⟩ := own_join X194 N194 (h := T22.heap) (mkF m 234 A195 [(.int v193)]) (mkF m 242 A195 [(.int v198)]) (by
      by_cases h234_197 : ((q0_3 < (5000 : Int64) ∧ (p0_1 < p0_0 ∧ (¬ (p0_1 = (-1 : Int32)) ∨ (0 : Int32) < p0_2))) ∨ (p0_1 = p0_0 ∧ v11 < p0_2))
      · refine ⟨T194, _, X194, N194, e194, fun t k => ?_⟩
        rw [show v198 = p0_1 from hv198.trans (if_pos h234_197)] at k
        show Steps p.tables e below (T194.setTop (mkF m 234 A195 [(.int v193)])) _
        refine XS.ifNo X194.here hx rfl (hb hby at_234) rfl ((if0 _ _).trans (feq (own_b1 (hv193.trans (if_pos h234_197)))).1) ?_
        show Steps p.tables e below (T194.setTop (mkF m 237 A195 [])) _
        refine XS.iloadN X194.here hx rfl (hb hby at_237) rfl ?_
        show Steps p.tables e below (T194.setTop (mkF m 238 A195 [(.int p0_1)])) _
        refine XS.goto X194.here hx rfl (pc0 := 238) (pc' := 242) rfl (hb hby at_238) (by decide) (by decide) ?_
        exact k
      · refine ⟨T194, _, X194, N194, e194, fun t k => ?_⟩
        rw [show v198 = p0_0 from hv198.trans (if_neg h234_197)] at k
        show Steps p.tables e below (T194.setTop (mkF m 234 A195 [(.int v193)])) _
        refine XS.ifYes X194.here hx rfl (pc0 := 234) (pc' := 241) rfl (hb hby at_234) rfl ((if0 _ _).trans (teq (hv193.trans (if_neg h234_197))).1) (by decide) (by decide) ?_
        show Steps p.tables e below (T194.setTop (mkF m 241 A195 [])) _
        refine XS.iloadN X194.here hx rfl (hb hby at_241) rfl ?_
        exact k)
    let A200 : Array Slot := #[.val (.int p0_0), .val (.int p0_1), .val (.int p0_2), .val (.long q0_3), .second, .val (.long q0_4), .second, .val (.int p0_5), .val (.int v4), .val (.int x7), .val (.int v11), .val (.int v16), .val (.ref b19), .val (.int v11), .val (.long (0 : Int64)), .second, .val (.long (0 : Int64)), .second, .val (.int v179), .val (.int v165), .val (.int v186), .val (.int v193), .val (.int v198), .unset, .unset, .unset, .unset, .unset, .unset, .unset, .unset, .unset, .unset, .unset, .unset, .unset, .unset]
    have G201 : ∀ t, Steps p.tables e below (T199.setTop (mkF m 246 A200 [(.int v193)])) t → Steps p.tables e below (T199.setTop (mkF m 242 A195 [(.int v198)])) t := by
      intro t k
      show Steps p.tables e below (T199.setTop (mkF m 242 A195 [(.int v198)])) _
      refine XS.istore X199.here hx rfl (hb hby at_242) rfl (l' := A200) rfl ?_
      show Steps p.tables e below (T199.setTop (mkF m 244 A200 [])) _
      refine XS.iload X199.here hx rfl (hb hby at_244) rfl ?_
      exact k
    obtain ⟨v203, hv203⟩ : ∃ z : Int32, z = (if ((q0_3 < (5000 : Int64) ∧ (p0_1 < p0_0 ∧ (¬ (p0_1 = (-1 : Int32)) ∨ (0 : Int32) < p0_2))) ∨ (p0_1 = p0_0 ∧ v11 < p0_2)) then p0_2 else v11) := ⟨_, rfl⟩
    obtain ⟨T204, Lo204, X204, N204, e204, G204⟩ := own_join X199 N199 (h := T22.heap) (mkF m 246 A200 [(.int v193)]) (mkF m 255 A200 [(.int v203)]) (by
      by_cases h246_202 : ((q0_3 < (5000 : Int64) ∧ (p0_1 < p0_0 ∧ (¬ (p0_1 = (-1 : Int32)) ∨ (0 : Int32) < p0_2))) ∨ (p0_1 = p0_0 ∧ v11 < p0_2))
      · refine ⟨T199, _, X199, N199, e199, fun t k => ?_⟩
        rw [show v203 = p0_2 from hv203.trans (if_pos h246_202)] at k
        show Steps p.tables e below (T199.setTop (mkF m 246 A200 [(.int v193)])) _
        refine XS.ifNo X199.here hx rfl (hb hby at_246) rfl ((if0 _ _).trans (feq (own_b1 (hv193.trans (if_pos h246_202)))).1) ?_
        show Steps p.tables e below (T199.setTop (mkF m 249 A200 [])) _
        refine XS.iloadN X199.here hx rfl (hb hby at_249) rfl ?_
        show Steps p.tables e below (T199.setTop (mkF m 250 A200 [(.int p0_2)])) _
        refine XS.goto X199.here hx rfl (pc0 := 250) (pc' := 255) rfl (hb hby at_250) (by decide) (by decide) ?_
        exact k
      · refine ⟨T199, _, X199, N199, e199, fun t k => ?_⟩
        rw [show v203 = v11 from hv203.trans (if_neg h246_202)] at k
        show Steps p.tables e below (T199.setTop (mkF m 246 A200 [(.int v193)])) _
        refine XS.ifYes X199.here hx rfl (pc0 := 246) (pc' := 253) rfl (hb hby at_246) rfl ((if0 _ _).trans (teq (hv193.trans (if_neg h246_202))).1) (by decide) (by decide) ?_
        show Steps p.tables e below (T199.setTop (mkF m 253 A200 [])) _
        refine XS.iload X199.here hx rfl (hb hby at_253) rfl ?_
        exact k)
    let A205 : Array Slot := #[.val (.int p0_0), .val (.int p0_1), .val (.int p0_2), .val (.long q0_3), .second, .val (.long q0_4), .second, .val (.int p0_5), .val (.int v4), .val (.int x7), .val (.int v11), .val (.int v16), .val (.ref b19), .val (.int v11), .val (.long (0 : Int64)), .second, .val (.long (0 : Int64)), .second, .val (.int v179), .val (.int v165), .val (.int v186), .val (.int v193), .val (.int v198), .val (.int v203), .unset, .unset, .unset, .unset, .unset, .unset, .unset, .unset, .unset, .unset, .unset, .unset, .unset]
    have G206 : ∀ t, Steps p.tables e below (T204.setTop (mkF m 259 A205 [(.int v193)])) t → Steps p.tables e below (T204.setTop (mkF m 255 A200 [(.int v203)])) t := by
      intro t k
      show Steps p.tables e below (T204.setTop (mkF m 255 A200 [(.int v203)])) _
      refine XS.istore X204.here hx rfl (hb hby at_255) rfl (l' := A205) rfl ?_
      show Steps p.tables e below (T204.setTop (mkF m 257 A205 [])) _
      refine XS.iload X204.here hx rfl (hb hby at_257) rfl ?_
      exact k
    obtain ⟨v208, hv208⟩ : ∃ z : Int64, z = (if ((q0_3 < (5000 : Int64) ∧ (p0_1 < p0_0 ∧ (¬ (p0_1 = (-1 : Int32)) ∨ (0 : Int32) < p0_2))) ∨ (p0_1 = p0_0 ∧ v11 < p0_2)) then (q0_4 - q0_3) else (0 : Int64)) := ⟨_, rfl⟩
    obtain ⟨T209, Lo209, X209, N209, e209, G209⟩ := own_join X204 N204 (h := T22.heap) (mkF m 259 A205 [(.int v193)]) (mkF m 271 A205 [(.long v208)]) (by
      by_cases h259_207 : ((q0_3 < (5000 : Int64) ∧ (p0_1 < p0_0 ∧ (¬ (p0_1 = (-1 : Int32)) ∨ (0 : Int32) < p0_2))) ∨ (p0_1 = p0_0 ∧ v11 < p0_2))
      · refine ⟨T204, _, X204, N204, e204, fun t k => ?_⟩
        rw [show v208 = (q0_4 - q0_3) from hv208.trans (if_pos h259_207)] at k
        show Steps p.tables e below (T204.setTop (mkF m 259 A205 [(.int v193)])) _
        refine XS.ifNo X204.here hx rfl (hb hby at_259) rfl ((if0 _ _).trans (feq (own_b1 (hv193.trans (if_pos h259_207)))).1) ?_
        show Steps p.tables e below (T204.setTop (mkF m 262 A205 [])) _
        refine XS.lload X204.here hx rfl (hb hby at_262) rfl ?_
        show Steps p.tables e below (T204.setTop (mkF m 264 A205 [(.long q0_4)])) _
        refine XS.lloadN X204.here hx rfl (hb hby at_264) rfl ?_
        show Steps p.tables e below (T204.setTop (mkF m 265 A205 [(.long q0_3), (.long q0_4)])) _
        refine XS.lsub X204.here hx rfl (hb hby at_265) rfl ?_
        show Steps p.tables e below (T204.setTop (mkF m 266 A205 [(.long (q0_4 - q0_3))])) _
        refine XS.goto X204.here hx rfl (pc0 := 266) (pc' := 271) rfl (hb hby at_266) (by decide) (by decide) ?_
        exact k
      · refine ⟨T204, _, X204, N204, e204, fun t k => ?_⟩
        rw [show v208 = (0 : Int64) from hv208.trans (if_neg h259_207)] at k
        show Steps p.tables e below (T204.setTop (mkF m 259 A205 [(.int v193)])) _
        refine XS.ifYes X204.here hx rfl (pc0 := 259) (pc' := 269) rfl (hb hby at_259) rfl ((if0 _ _).trans (teq (hv193.trans (if_neg h259_207))).1) (by decide) (by decide) ?_
        show Steps p.tables e below (T204.setTop (mkF m 269 A205 [])) _
        refine XS.lload X204.here hx rfl (hb hby at_269) rfl ?_
        exact k)
    let A210 : Array Slot := #[.val (.int p0_0), .val (.int p0_1), .val (.int p0_2), .val (.long q0_3), .second, .val (.long q0_4), .second, .val (.int p0_5), .val (.int v4), .val (.int x7), .val (.int v11), .val (.int v16), .val (.ref b19), .val (.int v11), .val (.long (0 : Int64)), .second, .val (.long (0 : Int64)), .second, .val (.int v179), .val (.int v165), .val (.int v186), .val (.int v193), .val (.int v198), .val (.int v203), .val (.long v208), .second, .unset, .unset, .unset, .unset, .unset, .unset, .unset, .unset, .unset, .unset, .unset]
    have G211 : ∀ t, Steps p.tables e below (T209.setTop (mkF m 275 A210 [(.int v179)])) t → Steps p.tables e below (T209.setTop (mkF m 271 A205 [(.long v208)])) t := by
      intro t k
      show Steps p.tables e below (T209.setTop (mkF m 271 A205 [(.long v208)])) _
      refine XS.lstore X209.here hx rfl (hb hby at_271) rfl (l' := A210) rfl ?_
      show Steps p.tables e below (T209.setTop (mkF m 273 A210 [])) _
      refine XS.iload X209.here hx rfl (hb hby at_273) rfl ?_
      exact k
    obtain ⟨v213, hv213⟩ : ∃ z : Int64, z = (if (q0_3 < (5000 : Int64) ∧ (p0_1 < p0_0 ∧ (¬ (p0_1 = (-1 : Int32)) ∨ (0 : Int32) < p0_2))) then q0_4 else (0 : Int64)) := ⟨_, rfl⟩
    obtain ⟨T214, Lo214, X214, N214, e214, G214⟩ := own_join X209 N209 (h := T22.heap) (mkF m 275 A210 [(.int v179)]) (mkF m 285 A210 [(.long v213)]) (by
      by_cases h275_212 : (q0_3 < (5000 : Int64) ∧ (p0_1 < p0_0 ∧ (¬ (p0_1 = (-1 : Int32)) ∨ (0 : Int32) < p0_2)))
      · refine ⟨T209, _, X209, N209, e209, fun t k => ?_⟩
        rw [show v213 = q0_4 from hv213.trans (if_pos h275_212)] at k
        show Steps p.tables e below (T209.setTop (mkF m 275 A210 [(.int v179)])) _
        refine XS.ifNo X209.here hx rfl (hb hby at_275) rfl ((if0 _ _).trans (feq (own_b1 (hv179.trans (if_pos h275_212)))).1) ?_
        show Steps p.tables e below (T209.setTop (mkF m 278 A210 [])) _
        refine XS.lload X209.here hx rfl (hb hby at_278) rfl ?_
        show Steps p.tables e below (T209.setTop (mkF m 280 A210 [(.long q0_4)])) _
        refine XS.goto X209.here hx rfl (pc0 := 280) (pc' := 285) rfl (hb hby at_280) (by decide) (by decide) ?_
        exact k
      · refine ⟨T209, _, X209, N209, e209, fun t k => ?_⟩
        rw [show v213 = (0 : Int64) from hv213.trans (if_neg h275_212)] at k
        show Steps p.tables e below (T209.setTop (mkF m 275 A210 [(.int v179)])) _
        refine XS.ifYes X209.here hx rfl (pc0 := 275) (pc' := 283) rfl (hb hby at_275) rfl ((if0 _ _).trans (teq (hv179.trans (if_neg h275_212))).1) (by decide) (by decide) ?_
        show Steps p.tables e below (T209.setTop (mkF m 283 A210 [])) _
        refine XS.lload X209.here hx rfl (hb hby at_283) rfl ?_
        exact k)
    let A215 : Array Slot := #[.val (.int p0_0), .val (.int p0_1), .val (.int p0_2), .val (.long q0_3), .second, .val (.long q0_4), .second, .val (.int p0_5), .val (.int v4), .val (.int x7), .val (.int v11), .val (.int v16), .val (.ref b19), .val (.int v11), .val (.long (0 : Int64)), .second, .val (.long (0 : Int64)), .second, .val (.int v179), .val (.int v165), .val (.int v186), .val (.int v193), .val (.int v198), .val (.int v203), .val (.long v208), .second, .val (.long v213), .second, .unset, .unset, .unset, .unset, .unset, .unset, .unset, .unset, .unset]
    obtain ⟨cq216, kq216, q216a, q216b, q216c⟩ := isOf hZ e214 P22_2
    obtain ⟨_, _, ⟨T216, L216, k216, n216⟩, -, X216, ⟨Lc216, hQ216, l216, y216, z216⟩, st216⟩ := X214.virtualBack hx (y := (⟨"com/example/halozat/halozat/node/Leader", "hear", "(IIJJ)Z"⟩ : MethodName)) (z := (⟨"com/example/halozat/halozat/node/Leader", "hear", "(IIJJ)Z"⟩ : MethodName)) hown (mvT hZ (ow20 hw)) (mvT hZ (ow21 hw)) (notFace_of_selects (args := #[]) (mvT hZ (ow23 hw))) (mvT hZ (ow23 hw)) (mvT hZ (ow22 hw)) (by decide) (backOf (W := 0) (rm3 l Z a0 hw [] b19 p0_1 p0_2 q0_3 q0_4 (-1 : Int32) (0 : Int32) y23 y24 y25 y26 y27 (0 : Int32) T22.heap n0 Z22 P22_0 P22_7 P22_1 P22_3 P22_2 g_b19 P22_4 P22_5 P22_6 P22_8) hZ (ow24 hw) (ow2 hw) (by decide) (by decide)) q216a q216c (g := (mkF m 294 A215 [(.long q0_4), (.long q0_3), (.int p0_2), (.int p0_1), (.ref b19)])) rfl (by rw [hml]; rfl) (Steps.refl _) (argsL := [(.int p0_1), (.int p0_2), (.long q0_3), (.long q0_4)]) (rest := []) (lenOf pd__IIJJ_Z rfl) rfl (by show 2 * 0 + _ ≤ _; exact Nat.le_of_eq rfl) (hb hby at_294) (fun _ _ => ⟨rfl, e214, (by decide : 1 + 0 ≤ _), (by decide : 8 + 0 ≤ _)⟩)
    dsimp only [Pt.U, Pt.locs, Pt.cells, Pt.slots] at X216 l216 y216 z216 st216 hQ216
    subst l216 y216 z216
    obtain ⟨rfl, Nq216, Kc216, P216_0, P216_1, P216_2, P216_3, P216_4, P216_5, P216_6, P216_7, P216_8⟩ := hQ216
    have K216 : Keep h0 T216.heap [] := Keep.trans K22 Kc216 (allS (P := fun x => x ∈ ([] : List Addr) ∨ h0.size ≤ x) (Or.inr sz_b19) all0)
    have Z216 : n0 ≤ T216.heap.size := Nat.le_trans Z0 K216.1
    obtain ⟨y217, hy217⟩ : ∃ z : Int32, z = (if (q0_3 < (5000 : Int64) ∧ (p0_1 < y23 ∧ ¬ ((p0_1 = (-1 : Int32) ∧ ¬ ((0 : Int32) < p0_2))))) then p0_1 else (if (p0_1 = y23 ∧ y24 < p0_2) then p0_1 else y23)) := ⟨_, rfl⟩
    rw [← hy217] at P216_1
    obtain ⟨y218, hy218⟩ : ∃ z : Int32, z = (if (q0_3 < (5000 : Int64) ∧ (p0_1 < y23 ∧ ¬ ((p0_1 = (-1 : Int32) ∧ ¬ ((0 : Int32) < p0_2))))) then p0_2 else (if (p0_1 = y23 ∧ y24 < p0_2) then p0_2 else y24)) := ⟨_, rfl⟩
    rw [← hy218] at P216_3
    obtain ⟨y219, hy219⟩ : ∃ z : Int64, z = (if (q0_3 < (5000 : Int64) ∧ (p0_1 < y23 ∧ ¬ ((p0_1 = (-1 : Int32) ∧ ¬ ((0 : Int32) < p0_2))))) then (q0_4 - q0_3) else (if (p0_1 = y23 ∧ y24 < p0_2) then (q0_4 - q0_3) else y25)) := ⟨_, rfl⟩
    rw [← hy219] at P216_4
    obtain ⟨y220, hy220⟩ : ∃ z : Int64, z = (if (q0_3 < (5000 : Int64) ∧ (p0_1 < y23 ∧ ¬ ((p0_1 = (-1 : Int32) ∧ ¬ ((0 : Int32) < p0_2))))) then q0_4 else y26) := ⟨_, rfl⟩
    rw [← hy220] at P216_5
    obtain ⟨y221, hy221⟩ : ∃ z : Int64, z = (if (q0_3 < (5000 : Int64) ∧ (p0_1 < y23 ∧ ¬ ((p0_1 = (-1 : Int32) ∧ ¬ ((0 : Int32) < p0_2))))) then (q0_4 + (1000 : Int64)) else y27) := ⟨_, rfl⟩
    rw [← hy221] at P216_6
    have N216 := Fr.app N214 Nq216
    obtain ⟨x222, hx222⟩ : ∃ z : Int32, z = (if (q0_3 < (5000 : Int64) ∧ (p0_1 < y23 ∧ ¬ ((p0_1 = (-1 : Int32) ∧ ¬ ((0 : Int32) < p0_2))))) then (1 : Int32) else (0 : Int32)) := ⟨_, rfl⟩
    let A223 : Array Slot := #[.val (.int p0_0), .val (.int p0_1), .val (.int p0_2), .val (.long q0_3), .second, .val (.long q0_4), .second, .val (.int p0_5), .val (.int v4), .val (.int x7), .val (.int v11), .val (.int v16), .val (.ref b19), .val (.int v11), .val (.long (0 : Int64)), .second, .val (.long (0 : Int64)), .second, .val (.int v179), .val (.int v165), .val (.int v186), .val (.int v193), .val (.int v198), .val (.int v203), .val (.long v208), .second, .val (.long v213), .second, .val (.int x222), .unset, .unset, .unset, .unset, .unset, .unset, .unset, .unset]
    have G224 : ∀ t, Steps p.tables e below (T216.setTop (mkF m 303 A223 [(.int v179), (.int x222)])) t → Steps p.tables e below (T214.setTop (mkF m 285 A210 [(.long v213)])) t := by
      intro t k
      show Steps p.tables e below (T214.setTop (mkF m 285 A210 [(.long v213)])) _
      refine XS.lstore X214.here hx rfl (hb hby at_285) rfl (l' := A215) rfl ?_
      show Steps p.tables e below (T214.setTop (mkF m 287 A215 [])) _
      refine XS.aload X214.here hx rfl (hb hby at_287) rfl rfl ?_
      show Steps p.tables e below (T214.setTop (mkF m 289 A215 [(.ref b19)])) _
      refine XS.iloadN X214.here hx rfl (hb hby at_289) rfl ?_
      show Steps p.tables e below (T214.setTop (mkF m 290 A215 [(.int p0_1), (.ref b19)])) _
      refine XS.iloadN X214.here hx rfl (hb hby at_290) rfl ?_
      show Steps p.tables e below (T214.setTop (mkF m 291 A215 [(.int p0_2), (.int p0_1), (.ref b19)])) _
      refine XS.lloadN X214.here hx rfl (hb hby at_291) rfl ?_
      show Steps p.tables e below (T214.setTop (mkF m 292 A215 [(.long q0_3), (.int p0_2), (.int p0_1), (.ref b19)])) _
      refine XS.lload X214.here hx rfl (hb hby at_292) rfl ?_
      show Steps p.tables e below (T214.setTop (mkF m 294 A215 [(.long q0_4), (.long q0_3), (.int p0_2), (.int p0_1), (.ref b19)])) _
      refine st216.trans ?_
      show Steps p.tables e below (T216.setTop (mkF m 297 A215 [(.int (if (q0_3 < (5000 : Int64) ∧ (p0_1 < y23 ∧ ¬ ((p0_1 = (-1 : Int32) ∧ ¬ ((0 : Int32) < p0_2))))) then (1 : Int32) else (0 : Int32)))])) _
      rw [← hx222]
      show Steps p.tables e below (T216.setTop (mkF m 297 A215 [(.int x222)])) _
      refine XS.istore X216.here hx rfl (hb hby at_297) rfl (l' := A223) rfl ?_
      show Steps p.tables e below (T216.setTop (mkF m 299 A223 [])) _
      refine XS.iload X216.here hx rfl (hb hby at_299) rfl ?_
      show Steps p.tables e below (T216.setTop (mkF m 301 A223 [(.int x222)])) _
      refine XS.iload X216.here hx rfl (hb hby at_301) rfl ?_
      exact k
    obtain ⟨v238, hv238⟩ : ∃ z : Int32, z = (if (x222 = v179 ∧ (y217 = v198 ∧ (y218 = v203 ∧ ((q0_4 - y219) = (q0_4 - v208) ∧ y220 = v213)))) then (1 : Int32) else (0 : Int32)) := ⟨_, rfl⟩
    obtain ⟨T239, Lo239, X239, N239, e239, G239⟩ := own_join X216 N216 (h := T216.heap) (mkF m 303 A223 [(.int v179), (.int x222)]) (mkF m 358 A223 [(.int v238)]) (by
      by_cases h303_225 : x222 = v179
      · obtain ⟨cq226, kq226, q226a, q226b, q226c⟩ := isOf hZ rfl P216_2
        obtain ⟨_, _, ⟨T226, L226, k226, n226⟩, -, X226, ⟨Lc226, hQ226, l226, y226, z226⟩, st226⟩ := X216.virtualBack hx (y := (⟨"com/example/halozat/halozat/node/Leader", "node", "()I"⟩ : MethodName)) (z := (⟨"com/example/halozat/halozat/node/Leader", "node", "()I"⟩ : MethodName)) hown (mvT hZ (ow36 hw)) (mvT hZ (ow37 hw)) (notFace_of_selects (args := #[]) (mvT hZ (ow39 hw))) (mvT hZ (ow39 hw)) (mvT hZ (ow38 hw)) (by decide) (backOf (W := 0) (rm5 l Z a0 hw [] b19 y217 T216.heap n0 Z216 P216_1) hZ (ow40 hw) (ow2 hw) (by decide) (by decide)) q226a q226c (g := (mkF m 308 A223 [(.ref b19)])) rfl (by rw [hml]; rfl) (Steps.refl _) (argsL := []) (rest := []) (lenOf pd___I rfl) rfl (by show 2 * 0 + _ ≤ _; exact Nat.le_of_eq rfl) (hb hby at_308) (fun _ _ => ⟨rfl, rfl, (by decide : 1 + 0 ≤ _), (by decide : 8 + 0 ≤ _)⟩)
        dsimp only [Pt.U, Pt.locs, Pt.cells, Pt.slots] at X226 l226 y226 z226 st226 hQ226
        subst l226 y226 z226
        obtain ⟨rfl, Nq226, e226⟩ := hQ226
        have N226 := Fr.app N216 Nq226
        have G227 : ∀ t, Steps p.tables e below (T226.setTop (mkF m 313 A223 [(.int v198), (.int y217)])) t → Steps p.tables e below (T216.setTop (mkF m 303 A223 [(.int v179), (.int x222)])) t := by
          intro t k
          show Steps p.tables e below (T216.setTop (mkF m 303 A223 [(.int v179), (.int x222)])) _
          refine XS.icmpNo X216.here hx rfl (hb hby at_303) rfl (teq h303_225).2 ?_
          show Steps p.tables e below (T216.setTop (mkF m 306 A223 [])) _
          refine XS.aload X216.here hx rfl (hb hby at_306) rfl rfl ?_
          show Steps p.tables e below (T216.setTop (mkF m 308 A223 [(.ref b19)])) _
          refine st226.trans ?_
          show Steps p.tables e below (T226.setTop (mkF m 311 A223 [(.int y217)])) _
          refine XS.iload X226.here hx rfl (hb hby at_311) rfl ?_
          exact k
        by_cases h313_228 : y217 = v198
        · obtain ⟨cq229, kq229, q229a, q229b, q229c⟩ := isOf hZ e226 P216_2
          obtain ⟨_, _, ⟨T229, L229, k229, n229⟩, -, X229, ⟨Lc229, hQ229, l229, y229, z229⟩, st229⟩ := X226.virtualBack hx (y := (⟨"com/example/halozat/halozat/node/Leader", "beat", "()I"⟩ : MethodName)) (z := (⟨"com/example/halozat/halozat/node/Leader", "beat", "()I"⟩ : MethodName)) hown (mvT hZ (ow41 hw)) (mvT hZ (ow42 hw)) (notFace_of_selects (args := #[]) (mvT hZ (ow44 hw))) (mvT hZ (ow44 hw)) (mvT hZ (ow43 hw)) (by decide) (backOf (W := 0) (rm6 l Z a0 hw [] b19 y218 T216.heap n0 Z216 P216_3) hZ (ow45 hw) (ow2 hw) (by decide) (by decide)) q229a q229c (g := (mkF m 318 A223 [(.ref b19)])) rfl (by rw [hml]; rfl) (Steps.refl _) (argsL := []) (rest := []) (lenOf pd___I rfl) rfl (by show 2 * 0 + _ ≤ _; exact Nat.le_of_eq rfl) (hb hby at_318) (fun _ _ => ⟨rfl, e226, (by decide : 1 + 0 ≤ _), (by decide : 8 + 0 ≤ _)⟩)
          dsimp only [Pt.U, Pt.locs, Pt.cells, Pt.slots] at X229 l229 y229 z229 st229 hQ229
          subst l229 y229 z229
          obtain ⟨rfl, Nq229, e229⟩ := hQ229
          have N229 := Fr.app N226 Nq229
          have G230 : ∀ t, Steps p.tables e below (T229.setTop (mkF m 323 A223 [(.int v203), (.int y218)])) t → Steps p.tables e below (T226.setTop (mkF m 313 A223 [(.int v198), (.int y217)])) t := by
            intro t k
            show Steps p.tables e below (T226.setTop (mkF m 313 A223 [(.int v198), (.int y217)])) _
            refine XS.icmpNo X226.here hx rfl (hb hby at_313) rfl (teq h313_228).2 ?_
            show Steps p.tables e below (T226.setTop (mkF m 316 A223 [])) _
            refine XS.aload X226.here hx rfl (hb hby at_316) rfl rfl ?_
            show Steps p.tables e below (T226.setTop (mkF m 318 A223 [(.ref b19)])) _
            refine st229.trans ?_
            show Steps p.tables e below (T229.setTop (mkF m 321 A223 [(.int y218)])) _
            refine XS.iload X229.here hx rfl (hb hby at_321) rfl ?_
            exact k
          by_cases h323_231 : y218 = v203
          · obtain ⟨cq232, kq232, q232a, q232b, q232c⟩ := isOf hZ e229 P216_2
            obtain ⟨_, _, ⟨T232, L232, k232, n232⟩, -, X232, ⟨Lc232, hQ232, l232, y232, z232⟩, st232⟩ := X229.virtualBack hx (y := (⟨"com/example/halozat/halozat/node/Leader", "age", "(J)J"⟩ : MethodName)) (z := (⟨"com/example/halozat/halozat/node/Leader", "age", "(J)J"⟩ : MethodName)) hown (mvT hZ (ow46 hw)) (mvT hZ (ow47 hw)) (notFace_of_selects (args := #[]) (mvT hZ (ow49 hw))) (mvT hZ (ow49 hw)) (mvT hZ (ow48 hw)) (by decide) (backOf (W := 0) (rm7 l Z a0 hw [] b19 q0_4 y219 T216.heap n0 Z216 P216_4) hZ (ow50 hw) (ow2 hw) (by decide) (by decide)) q232a q232c (g := (mkF m 330 A223 [(.long q0_4), (.ref b19)])) rfl (by rw [hml]; rfl) (Steps.refl _) (argsL := [(.long q0_4)]) (rest := []) (lenOf pd__J_J rfl) rfl (by show 2 * 0 + _ ≤ _; exact Nat.le_of_eq rfl) (hb hby at_330) (fun _ _ => ⟨rfl, e229, (by decide : 1 + 0 ≤ _), (by decide : 8 + 0 ≤ _)⟩)
            dsimp only [Pt.U, Pt.locs, Pt.cells, Pt.slots] at X232 l232 y232 z232 st232 hQ232
            subst l232 y232 z232
            obtain ⟨rfl, Nq232, e232⟩ := hQ232
            have N232 := Fr.app N229 Nq232
            have G233 : ∀ t, Steps p.tables e below (T232.setTop (mkF m 339 A223 [(.int (lcmpW (q0_4 - y219) (q0_4 - v208)))])) t → Steps p.tables e below (T229.setTop (mkF m 323 A223 [(.int v203), (.int y218)])) t := by
              intro t k
              show Steps p.tables e below (T229.setTop (mkF m 323 A223 [(.int v203), (.int y218)])) _
              refine XS.icmpNo X229.here hx rfl (hb hby at_323) rfl (teq h323_231).2 ?_
              show Steps p.tables e below (T229.setTop (mkF m 326 A223 [])) _
              refine XS.aload X229.here hx rfl (hb hby at_326) rfl rfl ?_
              show Steps p.tables e below (T229.setTop (mkF m 328 A223 [(.ref b19)])) _
              refine XS.lload X229.here hx rfl (hb hby at_328) rfl ?_
              show Steps p.tables e below (T229.setTop (mkF m 330 A223 [(.long q0_4), (.ref b19)])) _
              refine st232.trans ?_
              show Steps p.tables e below (T232.setTop (mkF m 333 A223 [(.long (q0_4 - y219))])) _
              refine XS.lload X232.here hx rfl (hb hby at_333) rfl ?_
              show Steps p.tables e below (T232.setTop (mkF m 335 A223 [(.long q0_4), (.long (q0_4 - y219))])) _
              refine XS.lload X232.here hx rfl (hb hby at_335) rfl ?_
              show Steps p.tables e below (T232.setTop (mkF m 337 A223 [(.long v208), (.long q0_4), (.long (q0_4 - y219))])) _
              refine XS.lsub X232.here hx rfl (hb hby at_337) rfl ?_
              show Steps p.tables e below (T232.setTop (mkF m 338 A223 [(.long (q0_4 - v208)), (.long (q0_4 - y219))])) _
              refine XS.lcmp X232.here hx rfl (hb hby at_338) rfl ?_
              exact k
            by_cases h339_234 : (q0_4 - y219) = (q0_4 - v208)
            · obtain ⟨cq235, kq235, q235a, q235b, q235c⟩ := isOf hZ e232 P216_2
              obtain ⟨_, _, ⟨T235, L235, k235, n235⟩, -, X235, ⟨Lc235, hQ235, l235, y235, z235⟩, st235⟩ := X232.virtualBack hx (y := (⟨"com/example/halozat/halozat/node/Leader", "since", "()J"⟩ : MethodName)) (z := (⟨"com/example/halozat/halozat/node/Leader", "since", "()J"⟩ : MethodName)) hown (mvT hZ (ow51 hw)) (mvT hZ (ow52 hw)) (notFace_of_selects (args := #[]) (mvT hZ (ow54 hw))) (mvT hZ (ow54 hw)) (mvT hZ (ow53 hw)) (by decide) (backOf (W := 0) (rm8 l Z a0 hw [] b19 y220 T216.heap n0 Z216 P216_5) hZ (ow55 hw) (ow2 hw) (by decide) (by decide)) q235a q235c (g := (mkF m 344 A223 [(.ref b19)])) rfl (by rw [hml]; rfl) (Steps.refl _) (argsL := []) (rest := []) (lenOf pd___J rfl) rfl (by show 2 * 0 + _ ≤ _; exact Nat.le_of_eq rfl) (hb hby at_344) (fun _ _ => ⟨rfl, e232, (by decide : 1 + 0 ≤ _), (by decide : 8 + 0 ≤ _)⟩)
              dsimp only [Pt.U, Pt.locs, Pt.cells, Pt.slots] at X235 l235 y235 z235 st235 hQ235
              subst l235 y235 z235
              obtain ⟨rfl, Nq235, e235⟩ := hQ235
              have N235 := Fr.app N232 Nq235
              have G236 : ∀ t, Steps p.tables e below (T235.setTop (mkF m 350 A223 [(.int (lcmpW y220 v213))])) t → Steps p.tables e below (T232.setTop (mkF m 339 A223 [(.int (lcmpW (q0_4 - y219) (q0_4 - v208)))])) t := by
                intro t k
                show Steps p.tables e below (T232.setTop (mkF m 339 A223 [(.int (lcmpW (q0_4 - y219) (q0_4 - v208)))])) _
                refine XS.ifNo X232.here hx rfl (hb hby at_339) rfl ((if0 _ _).trans (teq ((lw_eq _ _).mpr h339_234)).2) ?_
                show Steps p.tables e below (T232.setTop (mkF m 342 A223 [])) _
                refine XS.aload X232.here hx rfl (hb hby at_342) rfl rfl ?_
                show Steps p.tables e below (T232.setTop (mkF m 344 A223 [(.ref b19)])) _
                refine st235.trans ?_
                show Steps p.tables e below (T235.setTop (mkF m 347 A223 [(.long y220)])) _
                refine XS.lload X235.here hx rfl (hb hby at_347) rfl ?_
                show Steps p.tables e below (T235.setTop (mkF m 349 A223 [(.long v213), (.long y220)])) _
                refine XS.lcmp X235.here hx rfl (hb hby at_349) rfl ?_
                exact k
              by_cases h350_237 : y220 = v213
              · refine ⟨T235, _, X235, N235, e235, fun t k => ?_⟩
                rw [show v238 = (1 : Int32) from hv238.trans (if_pos ⟨h303_225, ⟨h313_228, ⟨h323_231, ⟨h339_234, h350_237⟩⟩⟩⟩)] at k
                refine G227 _ ?_
                refine G230 _ ?_
                refine G233 _ ?_
                refine G236 _ ?_
                show Steps p.tables e below (T235.setTop (mkF m 350 A223 [(.int (lcmpW y220 v213))])) _
                refine XS.ifNo X235.here hx rfl (hb hby at_350) rfl ((if0 _ _).trans (teq ((lw_eq _ _).mpr h350_237)).2) ?_
                show Steps p.tables e below (T235.setTop (mkF m 353 A223 [])) _
                refine XS.iconst X235.here hx rfl (hb hby at_353) ?_
                show Steps p.tables e below (T235.setTop (mkF m 354 A223 [(.int (1 : Int32))])) _
                refine XS.goto X235.here hx rfl (pc0 := 354) (pc' := 358) rfl (hb hby at_354) (by decide) (by decide) ?_
                exact k
              · refine ⟨T235, _, X235, N235, e235, fun t k => ?_⟩
                rw [show v238 = (0 : Int32) from hv238.trans (if_neg (fun q => (fun q => (fun q => (fun q => h350_237 q.2) q.2) q.2) q.2))] at k
                refine G227 _ ?_
                refine G230 _ ?_
                refine G233 _ ?_
                refine G236 _ ?_
                show Steps p.tables e below (T235.setTop (mkF m 350 A223 [(.int (lcmpW y220 v213))])) _
                refine XS.ifYes X235.here hx rfl (pc0 := 350) (pc' := 357) rfl (hb hby at_350) rfl ((if0 _ _).trans (feq (fun q => h350_237 ((lw_eq _ _).mp q))).2) (by decide) (by decide) ?_
                show Steps p.tables e below (T235.setTop (mkF m 357 A223 [])) _
                refine XS.iconst X235.here hx rfl (hb hby at_357) ?_
                exact k
            · refine ⟨T232, _, X232, N232, e232, fun t k => ?_⟩
              rw [show v238 = (0 : Int32) from hv238.trans (if_neg (fun q => (fun q => (fun q => (fun q => h339_234 q.1) q.2) q.2) q.2))] at k
              refine G227 _ ?_
              refine G230 _ ?_
              refine G233 _ ?_
              show Steps p.tables e below (T232.setTop (mkF m 339 A223 [(.int (lcmpW (q0_4 - y219) (q0_4 - v208)))])) _
              refine XS.ifYes X232.here hx rfl (pc0 := 339) (pc' := 357) rfl (hb hby at_339) rfl ((if0 _ _).trans (feq (fun q => h339_234 ((lw_eq _ _).mp q))).2) (by decide) (by decide) ?_
              show Steps p.tables e below (T232.setTop (mkF m 357 A223 [])) _
              refine XS.iconst X232.here hx rfl (hb hby at_357) ?_
              exact k
          · refine ⟨T229, _, X229, N229, e229, fun t k => ?_⟩
            rw [show v238 = (0 : Int32) from hv238.trans (if_neg (fun q => (fun q => (fun q => h323_231 q.1) q.2) q.2))] at k
            refine G227 _ ?_
            refine G230 _ ?_
            show Steps p.tables e below (T229.setTop (mkF m 323 A223 [(.int v203), (.int y218)])) _
            refine XS.icmpYes X229.here hx rfl (pc0 := 323) (pc' := 357) rfl (hb hby at_323) rfl (feq h323_231).2 (by decide) (by decide) ?_
            show Steps p.tables e below (T229.setTop (mkF m 357 A223 [])) _
            refine XS.iconst X229.here hx rfl (hb hby at_357) ?_
            exact k
        · refine ⟨T226, _, X226, N226, e226, fun t k => ?_⟩
          rw [show v238 = (0 : Int32) from hv238.trans (if_neg (fun q => (fun q => h313_228 q.1) q.2))] at k
          refine G227 _ ?_
          show Steps p.tables e below (T226.setTop (mkF m 313 A223 [(.int v198), (.int y217)])) _
          refine XS.icmpYes X226.here hx rfl (pc0 := 313) (pc' := 357) rfl (hb hby at_313) rfl (feq h313_228).2 (by decide) (by decide) ?_
          show Steps p.tables e below (T226.setTop (mkF m 357 A223 [])) _
          refine XS.iconst X226.here hx rfl (hb hby at_357) ?_
          exact k
      · refine ⟨T216, _, X216, N216, rfl, fun t k => ?_⟩
        rw [show v238 = (0 : Int32) from hv238.trans (if_neg (fun q => h303_225 q.1))] at k
        show Steps p.tables e below (T216.setTop (mkF m 303 A223 [(.int v179), (.int x222)])) _
        refine XS.icmpYes X216.here hx rfl (pc0 := 303) (pc' := 357) rfl (hb hby at_303) rfl (feq h303_225).2 (by decide) (by decide) ?_
        show Steps p.tables e below (T216.setTop (mkF m 357 A223 [])) _
        refine XS.iconst X216.here hx rfl (hb hby at_357) ?_
        exact k)
    let A240 : Array Slot := #[.val (.int p0_0), .val (.int p0_1), .val (.int p0_2), .val (.long q0_3), .second, .val (.long q0_4), .second, .val (.int p0_5), .val (.int v4), .val (.int x7), .val (.int v11), .val (.int v16), .val (.ref b19), .val (.int v11), .val (.long (0 : Int64)), .second, .val (.long (0 : Int64)), .second, .val (.int v179), .val (.int v165), .val (.int v186), .val (.int v193), .val (.int v198), .val (.int v203), .val (.long v208), .second, .val (.long v213), .second, .val (.int x222), .val (.int v238), .unset, .unset, .unset, .unset, .unset, .unset, .unset]
    let A241 : Array Slot := #[.val (.int p0_0), .val (.int p0_1), .val (.int p0_2), .val (.long q0_3), .second, .val (.long q0_4), .second, .val (.int p0_5), .val (.int v4), .val (.int x7), .val (.int v11), .val (.int v16), .val (.ref b19), .val (.int v11), .val (.long (0 : Int64)), .second, .val (.long (0 : Int64)), .second, .val (.int v179), .val (.int v165), .val (.int v186), .val (.int v193), .val (.int v198), .val (.int v203), .val (.long v208), .second, .val (.long v213), .second, .val (.int x222), .val (.int v238), .val (.long (q0_4 + (1000 : Int64))), .second, .unset, .unset, .unset, .unset, .unset]
    let A242 : Array Slot := #[.val (.int p0_0), .val (.int p0_1), .val (.int p0_2), .val (.long q0_3), .second, .val (.long q0_4), .second, .val (.int p0_5), .val (.int v4), .val (.int x7), .val (.int v11), .val (.int v16), .val (.ref b19), .val (.int v11), .val (.long (0 : Int64)), .second, .val (.long (0 : Int64)), .second, .val (.int v179), .val (.int v165), .val (.int v186), .val (.int v193), .val (.int v198), .val (.int v203), .val (.long v208), .second, .val (.long v213), .second, .val (.int x222), .val (.int v238), .val (.long (q0_4 + (1000 : Int64))), .second, .val (.long ((q0_4 + (1000 : Int64)) - v208)), .second, .unset, .unset, .unset]
    have G243 : ∀ t, Steps p.tables e below (T239.setTop (mkF m 381 A242 [(.int (lcmpW ((q0_4 + (1000 : Int64)) - v208) (5000 : Int64)))])) t → Steps p.tables e below (T239.setTop (mkF m 358 A223 [(.int v238)])) t := by
      intro t k
      show Steps p.tables e below (T239.setTop (mkF m 358 A223 [(.int v238)])) _
      refine XS.istore X239.here hx rfl (hb hby at_358) rfl (l' := A240) rfl ?_
      show Steps p.tables e below (T239.setTop (mkF m 360 A240 [])) _
      refine XS.lload X239.here hx rfl (hb hby at_360) rfl ?_
      show Steps p.tables e below (T239.setTop (mkF m 362 A240 [(.long q0_4)])) _
      refine X239.ldc2Long hx hown (mvT hZ (ow56 hw)) (g := (mkF m 362 A240 [(.long q0_4)])) rfl (hb hby at_362) _ ?_
      show Steps p.tables e below (T239.setTop (mkF m 365 A240 [(.long (1000 : Int64)), (.long q0_4)])) _
      refine XS.ladd X239.here hx rfl (hb hby at_365) rfl ?_
      show Steps p.tables e below (T239.setTop (mkF m 366 A240 [(.long (q0_4 + (1000 : Int64)))])) _
      refine XS.lstore X239.here hx rfl (hb hby at_366) rfl (l' := A241) rfl ?_
      show Steps p.tables e below (T239.setTop (mkF m 368 A241 [])) _
      refine XS.lload X239.here hx rfl (hb hby at_368) rfl ?_
      show Steps p.tables e below (T239.setTop (mkF m 370 A241 [(.long (q0_4 + (1000 : Int64)))])) _
      refine XS.lload X239.here hx rfl (hb hby at_370) rfl ?_
      show Steps p.tables e below (T239.setTop (mkF m 372 A241 [(.long v208), (.long (q0_4 + (1000 : Int64)))])) _
      refine XS.lsub X239.here hx rfl (hb hby at_372) rfl ?_
      show Steps p.tables e below (T239.setTop (mkF m 373 A241 [(.long ((q0_4 + (1000 : Int64)) - v208))])) _
      refine XS.lstore X239.here hx rfl (hb hby at_373) rfl (l' := A242) rfl ?_
      show Steps p.tables e below (T239.setTop (mkF m 375 A242 [])) _
      refine XS.lload X239.here hx rfl (hb hby at_375) rfl ?_
      show Steps p.tables e below (T239.setTop (mkF m 377 A242 [(.long ((q0_4 + (1000 : Int64)) - v208))])) _
      refine X239.ldc2Long hx hown (mvT hZ (ow28 hw)) (g := (mkF m 377 A242 [(.long ((q0_4 + (1000 : Int64)) - v208))])) rfl (hb hby at_377) _ ?_
      show Steps p.tables e below (T239.setTop (mkF m 380 A242 [(.long (5000 : Int64)), (.long ((q0_4 + (1000 : Int64)) - v208))])) _
      refine XS.lcmp X239.here hx rfl (hb hby at_380) rfl ?_
      exact k
    obtain ⟨v245, hv245⟩ : ∃ z : Int32, z = (if ¬ (((q0_4 + (1000 : Int64)) - v208) < (5000 : Int64)) then (1 : Int32) else (0 : Int32)) := ⟨_, rfl⟩
    obtain ⟨T246, Lo246, X246, N246, e246, G246⟩ := own_join X239 N239 (h := T216.heap) (mkF m 381 A242 [(.int (lcmpW ((q0_4 + (1000 : Int64)) - v208) (5000 : Int64)))]) (mkF m 389 A242 [(.int v245)]) (by
      by_cases h381_244 : ((q0_4 + (1000 : Int64)) - v208) < (5000 : Int64)
      · refine ⟨T239, _, X239, N239, e239, fun t k => ?_⟩
        rw [show v245 = (0 : Int32) from hv245.trans (if_neg (fun q => q h381_244))] at k
        show Steps p.tables e below (T239.setTop (mkF m 381 A242 [(.int (lcmpW ((q0_4 + (1000 : Int64)) - v208) (5000 : Int64)))])) _
        refine XS.ifYes X239.here hx rfl (pc0 := 381) (pc' := 388) rfl (hb hby at_381) rfl ((if0 _ _).trans (tlt ((lw_lt _ _).mpr h381_244)).1) (by decide) (by decide) ?_
        show Steps p.tables e below (T239.setTop (mkF m 388 A242 [])) _
        refine XS.iconst X239.here hx rfl (hb hby at_388) ?_
        exact k
      · refine ⟨T239, _, X239, N239, e239, fun t k => ?_⟩
        rw [show v245 = (1 : Int32) from hv245.trans (if_pos h381_244)] at k
        show Steps p.tables e below (T239.setTop (mkF m 381 A242 [(.int (lcmpW ((q0_4 + (1000 : Int64)) - v208) (5000 : Int64)))])) _
        refine XS.ifNo X239.here hx rfl (hb hby at_381) rfl ((if0 _ _).trans (flt (fun q => h381_244 ((lw_lt _ _).mp q))).1) ?_
        show Steps p.tables e below (T239.setTop (mkF m 384 A242 [])) _
        refine XS.iconst X239.here hx rfl (hb hby at_384) ?_
        show Steps p.tables e below (T239.setTop (mkF m 385 A242 [(.int (1 : Int32))])) _
        refine XS.goto X239.here hx rfl (pc0 := 385) (pc' := 389) rfl (hb hby at_385) (by decide) (by decide) ?_
        exact k)
    let A247 : Array Slot := #[.val (.int p0_0), .val (.int p0_1), .val (.int p0_2), .val (.long q0_3), .second, .val (.long q0_4), .second, .val (.int p0_5), .val (.int v4), .val (.int x7), .val (.int v11), .val (.int v16), .val (.ref b19), .val (.int v11), .val (.long (0 : Int64)), .second, .val (.long (0 : Int64)), .second, .val (.int v179), .val (.int v165), .val (.int v186), .val (.int v193), .val (.int v198), .val (.int v203), .val (.long v208), .second, .val (.long v213), .second, .val (.int x222), .val (.int v238), .val (.long (q0_4 + (1000 : Int64))), .second, .val (.long ((q0_4 + (1000 : Int64)) - v208)), .second, .val (.int v245), .unset, .unset]
    have G248 : ∀ t, Steps p.tables e below (T246.setTop (mkF m 393 A247 [(.int v179)])) t → Steps p.tables e below (T246.setTop (mkF m 389 A242 [(.int v245)])) t := by
      intro t k
      show Steps p.tables e below (T246.setTop (mkF m 389 A242 [(.int v245)])) _
      refine XS.istore X246.here hx rfl (hb hby at_389) rfl (l' := A247) rfl ?_
      show Steps p.tables e below (T246.setTop (mkF m 391 A247 [])) _
      refine XS.iload X246.here hx rfl (hb hby at_391) rfl ?_
      exact k
    obtain ⟨v260, hv260⟩ : ∃ z : Int32, z = (if (((q0_3 < (5000 : Int64) ∧ (p0_1 < p0_0 ∧ (¬ (p0_1 = (-1 : Int32)) ∨ (0 : Int32) < p0_2))) ∧ (¬ (¬ (((q0_4 + (1000 : Int64)) - v208) < (5000 : Int64))) ∧ ¬ (((q0_4 + (1000 : Int64)) - v208) < (2500 : Int64)))) ∨ (¬ ((q0_3 < (5000 : Int64) ∧ (p0_1 < p0_0 ∧ (¬ (p0_1 = (-1 : Int32)) ∨ (0 : Int32) < p0_2)))) ∧ ((q0_4 + (1000 : Int64)) = (9223372036854775807 : Int64) ∧ (¬ (¬ (((q0_4 + (1000 : Int64)) - v208) < (5000 : Int64))) ∧ ¬ (((q0_4 + (1000 : Int64)) - v208) < (2500 : Int64)))))) then (1 : Int32) else (0 : Int32)) := ⟨_, rfl⟩
    obtain ⟨T261, Lo261, X261, N261, e261, G261⟩ := own_join X246 N246 (h := T216.heap) (mkF m 393 A247 [(.int v179)]) (mkF m 424 A247 [(.int v260)]) (by
      by_cases h393_249 : (q0_3 < (5000 : Int64) ∧ (p0_1 < p0_0 ∧ (¬ (p0_1 = (-1 : Int32)) ∨ (0 : Int32) < p0_2)))
      · have G250 : ∀ t, Steps p.tables e below (T246.setTop (mkF m 407 A247 [(.int v245)])) t → Steps p.tables e below (T246.setTop (mkF m 393 A247 [(.int v179)])) t := by
          intro t k
          show Steps p.tables e below (T246.setTop (mkF m 393 A247 [(.int v179)])) _
          refine XS.ifYes X246.here hx rfl (pc0 := 393) (pc' := 405) rfl (hb hby at_393) rfl ((if0 _ _).trans (feq (own_b1 (hv179.trans (if_pos h393_249)))).2) (by decide) (by decide) ?_
          show Steps p.tables e below (T246.setTop (mkF m 405 A247 [])) _
          refine XS.iload X246.here hx rfl (hb hby at_405) rfl ?_
          exact k
        by_cases h407_251 : ¬ (((q0_4 + (1000 : Int64)) - v208) < (5000 : Int64))
        · refine ⟨T246, _, X246, N246, e246, fun t k => ?_⟩
          rw [show v260 = (0 : Int32) from hv260.trans (if_neg (fun q => q.elim (fun r => (fun q => q.1 h407_251) r.2) (fun r => r.1 h393_249)))] at k
          refine G250 _ ?_
          show Steps p.tables e below (T246.setTop (mkF m 407 A247 [(.int v245)])) _
          refine XS.ifYes X246.here hx rfl (pc0 := 407) (pc' := 423) rfl (hb hby at_407) rfl ((if0 _ _).trans (feq (own_b1 (hv245.trans (if_pos h407_251)))).2) (by decide) (by decide) ?_
          show Steps p.tables e below (T246.setTop (mkF m 423 A247 [])) _
          refine XS.iconst X246.here hx rfl (hb hby at_423) ?_
          exact k
        · have G252 : ∀ t, Steps p.tables e below (T246.setTop (mkF m 416 A247 [(.int (lcmpW ((q0_4 + (1000 : Int64)) - v208) (2500 : Int64)))])) t → Steps p.tables e below (T246.setTop (mkF m 407 A247 [(.int v245)])) t := by
            intro t k
            show Steps p.tables e below (T246.setTop (mkF m 407 A247 [(.int v245)])) _
            refine XS.ifNo X246.here hx rfl (hb hby at_407) rfl ((if0 _ _).trans (teq (hv245.trans (if_neg h407_251))).2) ?_
            show Steps p.tables e below (T246.setTop (mkF m 410 A247 [])) _
            refine XS.lload X246.here hx rfl (hb hby at_410) rfl ?_
            show Steps p.tables e below (T246.setTop (mkF m 412 A247 [(.long ((q0_4 + (1000 : Int64)) - v208))])) _
            refine X246.ldc2Long hx hown (mvT hZ (ow66 hw)) (g := (mkF m 412 A247 [(.long ((q0_4 + (1000 : Int64)) - v208))])) rfl (hb hby at_412) _ ?_
            show Steps p.tables e below (T246.setTop (mkF m 415 A247 [(.long (2500 : Int64)), (.long ((q0_4 + (1000 : Int64)) - v208))])) _
            refine XS.lcmp X246.here hx rfl (hb hby at_415) rfl ?_
            exact k
          by_cases h416_253 : ((q0_4 + (1000 : Int64)) - v208) < (2500 : Int64)
          · refine ⟨T246, _, X246, N246, e246, fun t k => ?_⟩
            rw [show v260 = (0 : Int32) from hv260.trans (if_neg (fun q => q.elim (fun r => (fun q => (fun q => q h416_253) q.2) r.2) (fun r => r.1 h393_249)))] at k
            refine G250 _ ?_
            refine G252 _ ?_
            show Steps p.tables e below (T246.setTop (mkF m 416 A247 [(.int (lcmpW ((q0_4 + (1000 : Int64)) - v208) (2500 : Int64)))])) _
            refine XS.ifYes X246.here hx rfl (pc0 := 416) (pc' := 423) rfl (hb hby at_416) rfl ((if0 _ _).trans (tlt ((lw_lt _ _).mpr h416_253)).1) (by decide) (by decide) ?_
            show Steps p.tables e below (T246.setTop (mkF m 423 A247 [])) _
            refine XS.iconst X246.here hx rfl (hb hby at_423) ?_
            exact k
          · refine ⟨T246, _, X246, N246, e246, fun t k => ?_⟩
            rw [show v260 = (1 : Int32) from hv260.trans (if_pos (Or.inl ⟨h393_249, ⟨h407_251, h416_253⟩⟩))] at k
            refine G250 _ ?_
            refine G252 _ ?_
            show Steps p.tables e below (T246.setTop (mkF m 416 A247 [(.int (lcmpW ((q0_4 + (1000 : Int64)) - v208) (2500 : Int64)))])) _
            refine XS.ifNo X246.here hx rfl (hb hby at_416) rfl ((if0 _ _).trans (flt (fun q => h416_253 ((lw_lt _ _).mp q))).1) ?_
            show Steps p.tables e below (T246.setTop (mkF m 419 A247 [])) _
            refine XS.iconst X246.here hx rfl (hb hby at_419) ?_
            show Steps p.tables e below (T246.setTop (mkF m 420 A247 [(.int (1 : Int32))])) _
            refine XS.goto X246.here hx rfl (pc0 := 420) (pc' := 424) rfl (hb hby at_420) (by decide) (by decide) ?_
            exact k
      · have G254 : ∀ t, Steps p.tables e below (T246.setTop (mkF m 402 A247 [(.int (lcmpW (q0_4 + (1000 : Int64)) (9223372036854775807 : Int64)))])) t → Steps p.tables e below (T246.setTop (mkF m 393 A247 [(.int v179)])) t := by
          intro t k
          show Steps p.tables e below (T246.setTop (mkF m 393 A247 [(.int v179)])) _
          refine XS.ifNo X246.here hx rfl (hb hby at_393) rfl ((if0 _ _).trans (teq (hv179.trans (if_neg h393_249))).2) ?_
          show Steps p.tables e below (T246.setTop (mkF m 396 A247 [])) _
          refine XS.lload X246.here hx rfl (hb hby at_396) rfl ?_
          show Steps p.tables e below (T246.setTop (mkF m 398 A247 [(.long (q0_4 + (1000 : Int64)))])) _
          refine X246.ldc2Long hx hown (mvT hZ (ow57 hw)) (g := (mkF m 398 A247 [(.long (q0_4 + (1000 : Int64)))])) rfl (hb hby at_398) _ ?_
          show Steps p.tables e below (T246.setTop (mkF m 401 A247 [(.long (9223372036854775807 : Int64)), (.long (q0_4 + (1000 : Int64)))])) _
          refine XS.lcmp X246.here hx rfl (hb hby at_401) rfl ?_
          exact k
        by_cases h402_255 : (q0_4 + (1000 : Int64)) = (9223372036854775807 : Int64)
        · have G256 : ∀ t, Steps p.tables e below (T246.setTop (mkF m 407 A247 [(.int v245)])) t → Steps p.tables e below (T246.setTop (mkF m 402 A247 [(.int (lcmpW (q0_4 + (1000 : Int64)) (9223372036854775807 : Int64)))])) t := by
            intro t k
            show Steps p.tables e below (T246.setTop (mkF m 402 A247 [(.int (lcmpW (q0_4 + (1000 : Int64)) (9223372036854775807 : Int64)))])) _
            refine XS.ifNo X246.here hx rfl (hb hby at_402) rfl ((if0 _ _).trans (teq ((lw_eq _ _).mpr h402_255)).2) ?_
            show Steps p.tables e below (T246.setTop (mkF m 405 A247 [])) _
            refine XS.iload X246.here hx rfl (hb hby at_405) rfl ?_
            exact k
          by_cases h407_257 : ¬ (((q0_4 + (1000 : Int64)) - v208) < (5000 : Int64))
          · refine ⟨T246, _, X246, N246, e246, fun t k => ?_⟩
            rw [show v260 = (0 : Int32) from hv260.trans (if_neg (fun q => q.elim (fun r => h393_249 r.1) (fun r => (fun q => (fun q => q.1 h407_257) q.2) r.2)))] at k
            refine G254 _ ?_
            refine G256 _ ?_
            show Steps p.tables e below (T246.setTop (mkF m 407 A247 [(.int v245)])) _
            refine XS.ifYes X246.here hx rfl (pc0 := 407) (pc' := 423) rfl (hb hby at_407) rfl ((if0 _ _).trans (feq (own_b1 (hv245.trans (if_pos h407_257)))).2) (by decide) (by decide) ?_
            show Steps p.tables e below (T246.setTop (mkF m 423 A247 [])) _
            refine XS.iconst X246.here hx rfl (hb hby at_423) ?_
            exact k
          · have G258 : ∀ t, Steps p.tables e below (T246.setTop (mkF m 416 A247 [(.int (lcmpW ((q0_4 + (1000 : Int64)) - v208) (2500 : Int64)))])) t → Steps p.tables e below (T246.setTop (mkF m 407 A247 [(.int v245)])) t := by
              intro t k
              show Steps p.tables e below (T246.setTop (mkF m 407 A247 [(.int v245)])) _
              refine XS.ifNo X246.here hx rfl (hb hby at_407) rfl ((if0 _ _).trans (teq (hv245.trans (if_neg h407_257))).2) ?_
              show Steps p.tables e below (T246.setTop (mkF m 410 A247 [])) _
              refine XS.lload X246.here hx rfl (hb hby at_410) rfl ?_
              show Steps p.tables e below (T246.setTop (mkF m 412 A247 [(.long ((q0_4 + (1000 : Int64)) - v208))])) _
              refine X246.ldc2Long hx hown (mvT hZ (ow66 hw)) (g := (mkF m 412 A247 [(.long ((q0_4 + (1000 : Int64)) - v208))])) rfl (hb hby at_412) _ ?_
              show Steps p.tables e below (T246.setTop (mkF m 415 A247 [(.long (2500 : Int64)), (.long ((q0_4 + (1000 : Int64)) - v208))])) _
              refine XS.lcmp X246.here hx rfl (hb hby at_415) rfl ?_
              exact k
            by_cases h416_259 : ((q0_4 + (1000 : Int64)) - v208) < (2500 : Int64)
            · refine ⟨T246, _, X246, N246, e246, fun t k => ?_⟩
              rw [show v260 = (0 : Int32) from hv260.trans (if_neg (fun q => q.elim (fun r => h393_249 r.1) (fun r => (fun q => (fun q => (fun q => q h416_259) q.2) q.2) r.2)))] at k
              refine G254 _ ?_
              refine G256 _ ?_
              refine G258 _ ?_
              show Steps p.tables e below (T246.setTop (mkF m 416 A247 [(.int (lcmpW ((q0_4 + (1000 : Int64)) - v208) (2500 : Int64)))])) _
              refine XS.ifYes X246.here hx rfl (pc0 := 416) (pc' := 423) rfl (hb hby at_416) rfl ((if0 _ _).trans (tlt ((lw_lt _ _).mpr h416_259)).1) (by decide) (by decide) ?_
              show Steps p.tables e below (T246.setTop (mkF m 423 A247 [])) _
              refine XS.iconst X246.here hx rfl (hb hby at_423) ?_
              exact k
            · refine ⟨T246, _, X246, N246, e246, fun t k => ?_⟩
              rw [show v260 = (1 : Int32) from hv260.trans (if_pos (Or.inr ⟨h393_249, ⟨h402_255, ⟨h407_257, h416_259⟩⟩⟩))] at k
              refine G254 _ ?_
              refine G256 _ ?_
              refine G258 _ ?_
              show Steps p.tables e below (T246.setTop (mkF m 416 A247 [(.int (lcmpW ((q0_4 + (1000 : Int64)) - v208) (2500 : Int64)))])) _
              refine XS.ifNo X246.here hx rfl (hb hby at_416) rfl ((if0 _ _).trans (flt (fun q => h416_259 ((lw_lt _ _).mp q))).1) ?_
              show Steps p.tables e below (T246.setTop (mkF m 419 A247 [])) _
              refine XS.iconst X246.here hx rfl (hb hby at_419) ?_
              show Steps p.tables e below (T246.setTop (mkF m 420 A247 [(.int (1 : Int32))])) _
              refine XS.goto X246.here hx rfl (pc0 := 420) (pc' := 424) rfl (hb hby at_420) (by decide) (by decide) ?_
              exact k
        · refine ⟨T246, _, X246, N246, e246, fun t k => ?_⟩
          rw [show v260 = (0 : Int32) from hv260.trans (if_neg (fun q => q.elim (fun r => h393_249 r.1) (fun r => (fun q => h402_255 q.1) r.2)))] at k
          refine G254 _ ?_
          show Steps p.tables e below (T246.setTop (mkF m 402 A247 [(.int (lcmpW (q0_4 + (1000 : Int64)) (9223372036854775807 : Int64)))])) _
          refine XS.ifYes X246.here hx rfl (pc0 := 402) (pc' := 423) rfl (hb hby at_402) rfl ((if0 _ _).trans (feq (fun q => h402_255 ((lw_eq _ _).mp q))).2) (by decide) (by decide) ?_
          show Steps p.tables e below (T246.setTop (mkF m 423 A247 [])) _
          refine XS.iconst X246.here hx rfl (hb hby at_423) ?_
          exact k)
    let A262 : Array Slot := #[.val (.int p0_0), .val (.int p0_1), .val (.int p0_2), .val (.long q0_3), .second, .val (.long q0_4), .second, .val (.int p0_5), .val (.int v4), .val (.int x7), .val (.int v11), .val (.int v16), .val (.ref b19), .val (.int v11), .val (.long (0 : Int64)), .second, .val (.long (0 : Int64)), .second, .val (.int v179), .val (.int v165), .val (.int v186), .val (.int v193), .val (.int v198), .val (.int v203), .val (.long v208), .second, .val (.long v213), .second, .val (.int x222), .val (.int v238), .val (.long (q0_4 + (1000 : Int64))), .second, .val (.long ((q0_4 + (1000 : Int64)) - v208)), .second, .val (.int v245), .val (.int v260), .unset]
    obtain ⟨cq263, kq263, q263a, q263b, q263c⟩ := isOf hZ e261 P216_2
    obtain ⟨_, _, ⟨T263, L263, k263, n263⟩, -, X263, ⟨Lc263, hQ263, l263, y263, z263⟩, st263⟩ := X261.virtualBack hx (y := (⟨"com/example/halozat/halozat/node/Leader", "heartbeat", "(IIJ)Z"⟩ : MethodName)) (z := (⟨"com/example/halozat/halozat/node/Leader", "heartbeat", "(IIJ)Z"⟩ : MethodName)) hown (mvT hZ (ow29 hw)) (mvT hZ (ow30 hw)) (notFace_of_selects (args := #[]) (mvT hZ (ow32 hw))) (mvT hZ (ow32 hw)) (mvT hZ (ow31 hw)) (by decide) (backOf (W := 0) (rm4 l Z a0 hw [] b19 (v198 + (1 : Int32)) (3 : Int32) (q0_4 + (1000 : Int64)) y217 y219 (-1 : Int32) y218 (0 : Int32) y220 y221 (0 : Int32) T216.heap n0 Z216 P216_1 P216_4 P216_2 P216_0 g_b19 P216_3 P216_7 P216_5 P216_6 P216_8) hZ (ow33 hw) (ow2 hw) (by decide) (by decide)) q263a q263c (g := (mkF m 435 A262 [(.long (q0_4 + (1000 : Int64))), (.int (3 : Int32)), (.int (v198 + (1 : Int32))), (.ref b19)])) rfl (by rw [hml]; rfl) (Steps.refl _) (argsL := [(.int (v198 + (1 : Int32))), (.int (3 : Int32)), (.long (q0_4 + (1000 : Int64)))]) (rest := []) (lenOf pd__IIJ_Z rfl) rfl (by show 2 * 0 + _ ≤ _; exact Nat.le_of_eq rfl) (hb hby at_435) (fun _ _ => ⟨rfl, e261, (by decide : 1 + 0 ≤ _), (by decide : 8 + 0 ≤ _)⟩)
    dsimp only [Pt.U, Pt.locs, Pt.cells, Pt.slots] at X263 l263 y263 z263 st263 hQ263
    subst l263 y263 z263
    obtain ⟨rfl, Nq263, Kc263, P263_0, P263_1, P263_2, P263_3, P263_4, P263_5, P263_6, P263_7, P263_8⟩ := hQ263
    have K263 : Keep h0 T263.heap [] := Keep.trans K216 Kc263 (allS (P := fun x => x ∈ ([] : List Addr) ∨ h0.size ≤ x) (Or.inr sz_b19) all0)
    have Z263 : n0 ≤ T263.heap.size := Nat.le_trans Z0 K263.1
    obtain ⟨y264, hy264⟩ : ∃ z : Int32, z = (if (¬ (y217 = (v198 + (1 : Int32))) ∧ ¬ (((q0_4 + (1000 : Int64)) - y219) < (5000 : Int64))) then (v198 + (1 : Int32)) else y217) := ⟨_, rfl⟩
    rw [← hy264] at P263_0
    obtain ⟨y265, hy265⟩ : ∃ z : Int32, z = (if (¬ (y217 = (v198 + (1 : Int32))) ∧ ¬ (((q0_4 + (1000 : Int64)) - y219) < (5000 : Int64))) then y217 else (-1 : Int32)) := ⟨_, rfl⟩
    rw [← hy265] at P263_2
    obtain ⟨y266, hy266⟩ : ∃ z : Int32, z = (if (¬ (y217 = (v198 + (1 : Int32))) ∧ ¬ (((q0_4 + (1000 : Int64)) - y219) < (5000 : Int64))) then (3 : Int32) else (if y217 = (v198 + (1 : Int32)) then (3 : Int32) else y218)) := ⟨_, rfl⟩
    rw [← hy266] at P263_3
    obtain ⟨y267, hy267⟩ : ∃ z : Int32, z = (if (¬ (y217 = (v198 + (1 : Int32))) ∧ ¬ (((q0_4 + (1000 : Int64)) - y219) < (5000 : Int64))) then y218 else (0 : Int32)) := ⟨_, rfl⟩
    rw [← hy267] at P263_4
    obtain ⟨y268, hy268⟩ : ∃ z : Int64, z = (if (¬ (y217 = (v198 + (1 : Int32))) ∧ ¬ (((q0_4 + (1000 : Int64)) - y219) < (5000 : Int64))) then (q0_4 + (1000 : Int64)) else y220) := ⟨_, rfl⟩
    rw [← hy268] at P263_5
    obtain ⟨y269, hy269⟩ : ∃ z : Int64, z = (if (¬ (y217 = (v198 + (1 : Int32))) ∧ ¬ (((q0_4 + (1000 : Int64)) - y219) < (5000 : Int64))) then (q0_4 + (1000 : Int64)) else (if y217 = (v198 + (1 : Int32)) then (q0_4 + (1000 : Int64)) else y219)) := ⟨_, rfl⟩
    rw [← hy269] at P263_6
    obtain ⟨y270, hy270⟩ : ∃ z : Int64, z = (if (q0_4 + (1000 : Int64)) < y221 then y221 else (9223372036854775807 : Int64)) := ⟨_, rfl⟩
    rw [← hy270] at P263_7
    obtain ⟨y271, hy271⟩ : ∃ z : Int32, z = (if (¬ (y217 = (v198 + (1 : Int32))) ∧ ¬ (((q0_4 + (1000 : Int64)) - y219) < (5000 : Int64))) then (if (q0_4 + (1000 : Int64)) < y221 then (0 : Int32) else (nar .boolean ((0 : Int32) ||| (if ¬ (((q0_4 + (1000 : Int64)) - (q0_4 + (1000 : Int64))) < (2500 : Int64)) then (1 : Int32) else (0 : Int32))))) else (if y217 = (v198 + (1 : Int32)) then (if (q0_4 + (1000 : Int64)) < y221 then (0 : Int32) else (nar .boolean ((0 : Int32) ||| (if ¬ (((q0_4 + (1000 : Int64)) - (q0_4 + (1000 : Int64))) < (2500 : Int64)) then (1 : Int32) else (0 : Int32))))) else (if (q0_4 + (1000 : Int64)) < y221 then (0 : Int32) else (nar .boolean ((0 : Int32) ||| (if ¬ (((q0_4 + (1000 : Int64)) - y219) < (2500 : Int64)) then (1 : Int32) else (0 : Int32))))))) := ⟨_, rfl⟩
    rw [← hy271] at P263_8
    have N263 := Fr.app N261 Nq263
    obtain ⟨x272, hx272⟩ : ∃ z : Int32, z = (if (¬ (y217 = (v198 + (1 : Int32))) ∧ ¬ (((q0_4 + (1000 : Int64)) - y219) < (5000 : Int64))) then (1 : Int32) else (0 : Int32)) := ⟨_, rfl⟩
    let A273 : Array Slot := #[.val (.int p0_0), .val (.int p0_1), .val (.int p0_2), .val (.long q0_3), .second, .val (.long q0_4), .second, .val (.int p0_5), .val (.int v4), .val (.int x7), .val (.int v11), .val (.int v16), .val (.ref b19), .val (.int v11), .val (.long (0 : Int64)), .second, .val (.long (0 : Int64)), .second, .val (.int v179), .val (.int v165), .val (.int v186), .val (.int v193), .val (.int v198), .val (.int v203), .val (.long v208), .second, .val (.long v213), .second, .val (.int x222), .val (.int v238), .val (.long (q0_4 + (1000 : Int64))), .second, .val (.long ((q0_4 + (1000 : Int64)) - v208)), .second, .val (.int v245), .val (.int v260), .val (.int x272)]
    have G274 : ∀ t, Steps p.tables e below (T263.setTop (mkF m 442 A273 [(.int v238)])) t → Steps p.tables e below (T261.setTop (mkF m 424 A247 [(.int v260)])) t := by
      intro t k
      show Steps p.tables e below (T261.setTop (mkF m 424 A247 [(.int v260)])) _
      refine XS.istore X261.here hx rfl (hb hby at_424) rfl (l' := A262) rfl ?_
      show Steps p.tables e below (T261.setTop (mkF m 426 A262 [])) _
      refine XS.aload X261.here hx rfl (hb hby at_426) rfl rfl ?_
      show Steps p.tables e below (T261.setTop (mkF m 428 A262 [(.ref b19)])) _
      refine XS.iload X261.here hx rfl (hb hby at_428) rfl ?_
      show Steps p.tables e below (T261.setTop (mkF m 430 A262 [(.int v198), (.ref b19)])) _
      refine XS.iconst X261.here hx rfl (hb hby at_430) ?_
      show Steps p.tables e below (T261.setTop (mkF m 431 A262 [(.int (1 : Int32)), (.int v198), (.ref b19)])) _
      refine XS.iadd X261.here hx rfl (hb hby at_431) rfl ?_
      show Steps p.tables e below (T261.setTop (mkF m 432 A262 [(.int (v198 + (1 : Int32))), (.ref b19)])) _
      refine XS.iconst X261.here hx rfl (hb hby at_432) ?_
      show Steps p.tables e below (T261.setTop (mkF m 433 A262 [(.int (3 : Int32)), (.int (v198 + (1 : Int32))), (.ref b19)])) _
      refine XS.lload X261.here hx rfl (hb hby at_433) rfl ?_
      show Steps p.tables e below (T261.setTop (mkF m 435 A262 [(.long (q0_4 + (1000 : Int64))), (.int (3 : Int32)), (.int (v198 + (1 : Int32))), (.ref b19)])) _
      refine st263.trans ?_
      show Steps p.tables e below (T263.setTop (mkF m 438 A262 [(.int (if (¬ (y217 = (v198 + (1 : Int32))) ∧ ¬ (((q0_4 + (1000 : Int64)) - y219) < (5000 : Int64))) then (1 : Int32) else (0 : Int32)))])) _
      rw [← hx272]
      show Steps p.tables e below (T263.setTop (mkF m 438 A262 [(.int x272)])) _
      refine XS.istore X263.here hx rfl (hb hby at_438) rfl (l' := A273) rfl ?_
      show Steps p.tables e below (T263.setTop (mkF m 440 A273 [])) _
      refine XS.iload X263.here hx rfl (hb hby at_440) rfl ?_
      exact k
    obtain ⟨v281, hv281⟩ : ∃ z : Int32, z = (if ((x222 = v179 ∧ (y217 = v198 ∧ (y218 = v203 ∧ ((q0_4 - y219) = (q0_4 - v208) ∧ y220 = v213)))) ∧ (x272 = v245 ∧ (nar .boolean y271) = v260)) then (1 : Int32) else (0 : Int32)) := ⟨_, rfl⟩
    obtain ⟨T282, Lo282, X282, N282, e282, G282⟩ := own_join X263 N263 (h := T263.heap) (mkF m 442 A273 [(.int v238)]) (mkF m 467 A273 [(.int v281)]) (by
      by_cases h442_275 : (x222 = v179 ∧ (y217 = v198 ∧ (y218 = v203 ∧ ((q0_4 - y219) = (q0_4 - v208) ∧ y220 = v213))))
      · have G276 : ∀ t, Steps p.tables e below (T263.setTop (mkF m 449 A273 [(.int v245), (.int x272)])) t → Steps p.tables e below (T263.setTop (mkF m 442 A273 [(.int v238)])) t := by
          intro t k
          show Steps p.tables e below (T263.setTop (mkF m 442 A273 [(.int v238)])) _
          refine XS.ifNo X263.here hx rfl (hb hby at_442) rfl ((if0 _ _).trans (feq (own_b1 (hv238.trans (if_pos h442_275)))).1) ?_
          show Steps p.tables e below (T263.setTop (mkF m 445 A273 [])) _
          refine XS.iload X263.here hx rfl (hb hby at_445) rfl ?_
          show Steps p.tables e below (T263.setTop (mkF m 447 A273 [(.int x272)])) _
          refine XS.iload X263.here hx rfl (hb hby at_447) rfl ?_
          exact k
        by_cases h449_277 : x272 = v245
        · obtain ⟨cq278, kq278, q278a, q278b, q278c⟩ := isOf hZ rfl P263_1
          obtain ⟨_, _, ⟨T278, L278, k278, n278⟩, -, X278, ⟨Lc278, hQ278, l278, y278, z278⟩, st278⟩ := X263.virtualBack hx (y := (⟨"com/example/halozat/halozat/node/Leader", "far", "()Z"⟩ : MethodName)) (z := (⟨"com/example/halozat/halozat/node/Leader", "far", "()Z"⟩ : MethodName)) hown (mvT hZ (ow58 hw)) (mvT hZ (ow59 hw)) (notFace_of_selects (args := #[]) (mvT hZ (ow61 hw))) (mvT hZ (ow61 hw)) (mvT hZ (ow60 hw)) (by decide) (backOf (W := 0) (rm9 l Z a0 hw [] b19 y271 T263.heap n0 Z263 P263_8) hZ (ow62 hw) (ow2 hw) (by decide) (by decide)) q278a q278c (g := (mkF m 454 A273 [(.ref b19)])) rfl (by rw [hml]; rfl) (Steps.refl _) (argsL := []) (rest := []) (lenOf pd___Z rfl) rfl (by show 2 * 0 + _ ≤ _; exact Nat.le_of_eq rfl) (hb hby at_454) (fun _ _ => ⟨rfl, rfl, (by decide : 1 + 0 ≤ _), (by decide : 8 + 0 ≤ _)⟩)
          dsimp only [Pt.U, Pt.locs, Pt.cells, Pt.slots] at X278 l278 y278 z278 st278 hQ278
          subst l278 y278 z278
          obtain ⟨rfl, Nq278, e278⟩ := hQ278
          have N278 := Fr.app N263 Nq278
          have G279 : ∀ t, Steps p.tables e below (T278.setTop (mkF m 459 A273 [(.int v260), (.int (nar .boolean y271))])) t → Steps p.tables e below (T263.setTop (mkF m 449 A273 [(.int v245), (.int x272)])) t := by
            intro t k
            show Steps p.tables e below (T263.setTop (mkF m 449 A273 [(.int v245), (.int x272)])) _
            refine XS.icmpNo X263.here hx rfl (hb hby at_449) rfl (teq h449_277).2 ?_
            show Steps p.tables e below (T263.setTop (mkF m 452 A273 [])) _
            refine XS.aload X263.here hx rfl (hb hby at_452) rfl rfl ?_
            show Steps p.tables e below (T263.setTop (mkF m 454 A273 [(.ref b19)])) _
            refine st278.trans ?_
            show Steps p.tables e below (T278.setTop (mkF m 457 A273 [(.int (nar .boolean y271))])) _
            refine XS.iload X278.here hx rfl (hb hby at_457) rfl ?_
            exact k
          by_cases h459_280 : (nar .boolean y271) = v260
          · refine ⟨T278, _, X278, N278, e278, fun t k => ?_⟩
            rw [show v281 = (1 : Int32) from hv281.trans (if_pos ⟨h442_275, ⟨h449_277, h459_280⟩⟩)] at k
            refine G276 _ ?_
            refine G279 _ ?_
            show Steps p.tables e below (T278.setTop (mkF m 459 A273 [(.int v260), (.int (nar .boolean y271))])) _
            refine XS.icmpNo X278.here hx rfl (hb hby at_459) rfl (teq h459_280).2 ?_
            show Steps p.tables e below (T278.setTop (mkF m 462 A273 [])) _
            refine XS.iconst X278.here hx rfl (hb hby at_462) ?_
            show Steps p.tables e below (T278.setTop (mkF m 463 A273 [(.int (1 : Int32))])) _
            refine XS.goto X278.here hx rfl (pc0 := 463) (pc' := 467) rfl (hb hby at_463) (by decide) (by decide) ?_
            exact k
          · refine ⟨T278, _, X278, N278, e278, fun t k => ?_⟩
            rw [show v281 = (0 : Int32) from hv281.trans (if_neg (fun q => (fun q => h459_280 q.2) q.2))] at k
            refine G276 _ ?_
            refine G279 _ ?_
            show Steps p.tables e below (T278.setTop (mkF m 459 A273 [(.int v260), (.int (nar .boolean y271))])) _
            refine XS.icmpYes X278.here hx rfl (pc0 := 459) (pc' := 466) rfl (hb hby at_459) rfl (feq h459_280).2 (by decide) (by decide) ?_
            show Steps p.tables e below (T278.setTop (mkF m 466 A273 [])) _
            refine XS.iconst X278.here hx rfl (hb hby at_466) ?_
            exact k
        · refine ⟨T263, _, X263, N263, rfl, fun t k => ?_⟩
          rw [show v281 = (0 : Int32) from hv281.trans (if_neg (fun q => (fun q => h449_277 q.1) q.2))] at k
          refine G276 _ ?_
          show Steps p.tables e below (T263.setTop (mkF m 449 A273 [(.int v245), (.int x272)])) _
          refine XS.icmpYes X263.here hx rfl (pc0 := 449) (pc' := 466) rfl (hb hby at_449) rfl (feq h449_277).2 (by decide) (by decide) ?_
          show Steps p.tables e below (T263.setTop (mkF m 466 A273 [])) _
          refine XS.iconst X263.here hx rfl (hb hby at_466) ?_
          exact k
      · refine ⟨T263, _, X263, N263, rfl, fun t k => ?_⟩
        rw [show v281 = (0 : Int32) from hv281.trans (if_neg (fun q => h442_275 q.1))] at k
        show Steps p.tables e below (T263.setTop (mkF m 442 A273 [(.int v238)])) _
        refine XS.ifYes X263.here hx rfl (pc0 := 442) (pc' := 466) rfl (hb hby at_442) rfl ((if0 _ _).trans (teq (hv238.trans (if_neg h442_275))).1) (by decide) (by decide) ?_
        show Steps p.tables e below (T263.setTop (mkF m 466 A273 [])) _
        refine XS.iconst X263.here hx rfl (hb hby at_466) ?_
        exact k)
    have fin : v281 = (1 : Int32) := by
      exact own_fin2 p0_0 p0_1 p0_2 q0_3 q0_4 p0_5 v4 hv4 x7 hx7 v11 hv11 v16 hv16 y23 hy23 y24 hy24 y25 hy25 y26 hy26 y27 hy27 x28 hx28 v165 hv165 v179 hv179 v186 hv186 v193 hv193 v198 hv198 v203 hv203 v208 hv208 v213 hv213 y217 hy217 y218 hy218 y219 hy219 y220 hy220 y221 hy221 x222 hx222 v238 hv238 v245 hv245 v260 hv260 y264 hy264 y265 hy265 y266 hy266 y267 hy267 y268 hy268 y269 hy269 y270 hy270 y271 hy271 x272 hx272 v281 hv281 h77_30
    obtain ⟨fs, hr, hrun, hended, hW, hsame⟩ := X282.leave (v := some (.int (1 : Int32))) (fun h => by rw [Bd.returns] at h; cases h)
    refine ⟨_, _, pre0 _ ?_, hrun, hended, _, _, rfl, ?_, ⟨_, rfl⟩, hW, hsame.mono (by decide) (by decide)⟩
    · refine G2 _ ?_
      refine G5 _ ?_
      refine G9 _ ?_
      refine G12 _ ?_
      refine G14 _ ?_
      refine G17 _ ?_
      refine G29 _ ?_
      refine G163 _ ?_
      refine G166 _ ?_
      refine G171 _ ?_
      refine G180 _ ?_
      refine G182 _ ?_
      refine G187 _ ?_
      refine G189 _ ?_
      refine G194 _ ?_
      refine G196 _ ?_
      refine G199 _ ?_
      refine G201 _ ?_
      refine G204 _ ?_
      refine G206 _ ?_
      refine G209 _ ?_
      refine G211 _ ?_
      refine G214 _ ?_
      refine G224 _ ?_
      refine G239 _ ?_
      refine G243 _ ?_
      refine G246 _ ?_
      refine G248 _ ?_
      refine G261 _ ?_
      refine G274 _ ?_
      refine G282 _ ?_
      show Steps p.tables e below (T282.setTop (mkF m 467 A273 [(.int v281)])) _
      rw [fin]
      exact retN X282 hx (t := .boolean) Bd.returns (by simp) (hb hby at_467) hr
    · exact ⟨rfl, N282⟩
set_option maxRecDepth 65536 in
set_option maxHeartbeats 40000000 in
theorem comes_1 {Post : Tables → Env → Array Value → State → Outcome → State → Prop} (hpost : ∀ tb e args s v u, (limb_1_1.after args s (.returned v) u = true ∧ limb_1_2.after args s (.returned v) u = true ∧ True) → FrameEnd s (.returned v) u (Jvm.fieldLocs frame_1_writes args s ++ Jvm.arrayLocs frame_1_arrays args s ++ Jvm.staticLocs frame_1_statics s) 16 128 → Post tb e args s (.returned v) u) :
    ArmFor flags0 classFile x code maxLocals ret World_1 tables_1 room_1 Calls_1 rest_1 Pre_1 Post := by
  intro l hfl _ _ p e ha hc hk s m args below hf hA hF happ hP
  obtain ⟨hcalls, hrest, hpre⟩ := hP
  obtain ⟨-, -, -, hnamed, -, -, -, hat⟩ := (Spec.applies_iff hf).mp happ
  obtain ⟨hg, hn⟩ := and_e (Cond.before_iff.mp (show (Jvm.Cond.and given_1 narrow_1).before args s = true from hpre))
  obtain ⟨g1, g2⟩ := and_e hg
  obtain ⟨g3, g4⟩ := and_e g2
  obtain ⟨g5, g6⟩ := and_e g4
  obtain ⟨g7, g8⟩ := and_e g6
  obtain ⟨g9, g10⟩ := and_e g8
  obtain ⟨g11, g12⟩ := and_e g10
  obtain ⟨w0, w1, w2, w3, w4, w5, rfl⟩ : ∃ w0 w1 w2 w3 w4 w5 : Value, args = #[w0, w1, w2, w3, w4, w5] := by
    have hs : args.size = 6 := by simpa [Cond.value, given_1] using g1
    obtain ⟨L⟩ := args
    match L, hs with
    | [w0, w1, w2, w3, w4, w5], _ => exact ⟨w0, w1, w2, w3, w4, w5, rfl⟩
  have hw := fun d (hd : d ∈ tables_1) => atoms_spec (ws := Jvm.Cond.code x code maxLocals ret :: tables_1) hat d (List.mem_cons_of_mem _ hd)
  have hfit : Fit s := fun {y c} hc i hi => by
    obtain ⟨ha, rfl⟩ := Array.getElem?_eq_some_iff.mp hc
    have q := List.all_eq_true.mp ((Array.all_eq_true_iff_forall_mem.mp hF) _ (Array.getElem_mem ha)) i (List.mem_range.mpr hi)
    simpa [Array.getElem?_eq_getElem hi] using q
  obtain ⟨i0, ei0⟩ := is_v g3
  obtain rfl : w0 = (.int i0) := Option.some.inj ei0
  obtain ⟨i1, ei1⟩ := is_v g5
  obtain rfl : w1 = (.int i1) := Option.some.inj ei1
  obtain ⟨i2, ei2⟩ := is_v g7
  obtain rfl : w2 = (.int i2) := Option.some.inj ei2
  obtain ⟨i3, ei3⟩ := isL_v g9
  obtain rfl : w3 = (.long i3) := Option.some.inj ei3
  obtain ⟨i4, ei4⟩ := isL_v g11
  obtain rfl : w4 = (.long i4) := Option.some.inj ei4
  obtain ⟨i5, ei5⟩ := is_v g12
  obtain rfl : w5 = (.int i5) := Option.some.inj ei5
  obtain ⟨n, o, h1, h2, h3, _, L, rfl, ⟨rfl, N⟩, hq⟩ := rm0 l s _ hw tables_1 i0 i1 i2 i3 i4 i5 s.heap s.heap.size (Nat.le_refl _) p e ha hc hk s m _ below hf ((Spec.applies_iff_loose hf).mp happ).1 ⟨rfl, State.Warmed39.refl s, rfl⟩ trivial
  refine ⟨n, _, h1, h2, h3, hpost _ _ _ _ _ _ ⟨Cond.after_iff.mpr rfl, Cond.after_iff.mpr (eq_i res_at (Term.int_eval (1)) rfl), trivial⟩ ⟨hq.1, hq.2.1, (hq.2.2.sift fun y hy => Or.inr (N y hy)).mono (by decide) (by decide)⟩⟩
theorem main_1_1 : Claimed_1_1 := comes_1 fun _ _ _ _ _ _ h hF => ⟨h.1, hF⟩
theorem main_1_2 : Claimed_1_2 := comes_1 fun _ _ _ _ _ _ h hF => ⟨h.2.1, hF⟩
end Jvm.Pilot.@@N@@
namespace Jvm.Pilot.@@N@@
open Jvm Jvm.ClassFile Sem Op Lib Jvm.Free Jvm.Stand Jvm.Pilot.@@N@@.Jvm.D
/-! MADE BY PROGRAM (witnessworld.py) out of the Statement's table words and the real class files: 9 classes; the members and pool entries that the words name. The judged class is class 1, her method 1. -/
namespace start1
open Jvm.ClassFile
def u (s : String) : CpInfo := .utf8 (stringToUtf16 s)
/-- a pool by its gaps: so many unusable entries, then the entry; so many at the end -/
def gap : Nat → List CpInfo → List CpInfo
  | 0, r => r
  | n + 1, r => .unusable :: gap n r
def poolList (es : List (Nat × CpInfo)) (last : Nat) : List CpInfo := es.foldr (fun e r => gap e.1 (e.2 :: r)) (gap last [])
def pool (es : List (Nat × CpInfo)) (last : Nat) : Array CpInfo := ⟨poolList es last⟩
def fileOf (pool : Array CpInfo) (this : Nat) (attrs : Array Attribute := #[]) (ms : Array MethodInfo := #[]) (fl : Nat := 33) (sup : Nat := 0) (ifs : Array Nat := #[]) (fds : Array FieldInfo := #[]) : ClassFile where
  minorVersion := 0
  majorVersion := 65
  constantPool := pool
  accessFlags := fl
  thisClass := this
  superClass := sup
  interfaces := ifs
  fields := fds
  methods := ms
  attributes := attrs
def plain (name : String) (sup : Option ClassId) : Class where
  name := name
  kind := .ordinary
  loader := none
  accessFlags := 33
  super := sup
  interfaces := #[]
  cf := none
  fields := #[]
  methods := #[]
  instanceTypes := #[]
  staticTypes := #[]
  resolved := #[]
  callSites := []
  init := .initialized
  statics := none
  mirror := none

def pool0 : Array CpInfo := pool [(5, u "<init>"), (0, u "()V"), (1, .class_ 10), (1, u "java/lang/Object")] 113

def k0c0 : Code := { maxStack := 0, maxLocals := 1, code := object_method_1_code, exceptionTable := #[], attributes := #[] }
def k0m0 : Method := { name := "<init>", desc := "()V", sig := { parameters := [], returnType := none }, accessFlags := 1, code := some k0c0 }
/-- java/lang/Object -/
def k0 : Class := { plain "java/lang/Object" none with
  accessFlags := 33
  interfaces := #[]
  cf := some (fileOf pool0 8 #[] #[{ accessFlags := 1, nameIndex := 5, descriptorIndex := 6, attributes := #[] }] 33 0 #[] #[])
  fields := #[]
  methods := #[k0m0]
  instanceTypes := #[]
  staticTypes := #[]
  resolved := Array.replicate 124 none
  statics := none }

def pool1 : Array CpInfo := pool [(2, .class_ 4), (1, u "java/lang/Object"), (0, u "<init>"), (0, u "()V"), (0, .class_ 8), (0, u "com/example/halozat/halozat/node/Leader"), (0, .methodref 7 10), (0, .nameAndType 5 11), (0, u "(IJ)V"), (0, .methodref 7 13), (0, .nameAndType 14 15), (0, u "hear"), (0, u "(IIJJ)Z"), (0, .long 5000), (1, .methodref 7 19), (0, .nameAndType 20 21), (0, u "heartbeat"), (0, u "(IIJ)Z"), (0, .methodref 7 23), (0, .nameAndType 24 25), (0, u "node"), (0, u "()I"), (0, .methodref 7 27), (0, .nameAndType 28 25), (0, u "beat"), (0, .methodref 7 30), (0, .nameAndType 31 32), (0, u "age"), (0, u "(J)J"), (0, .methodref 7 34), (0, .nameAndType 35 36), (0, u "since"), (0, u "()J"), (0, .long 1000), (3, .long 9223372036854775807), (1, .long 2500), (1, .methodref 7 46), (0, .nameAndType 47 48), (0, u "far"), (0, u "()Z"), (0, .class_ 50), (0, u "com/example/halozat/halozat/node/LeaderHearPinLaw"), (2, u "law"), (0, u "(IIIJJI)Z")] 3

def k1m0 : Method := { name := "<init>", desc := "()V", sig := { parameters := [], returnType := none }, accessFlags := 1, code := none }
def k1c1 : Code := { maxStack := 7, maxLocals := 37, code := code, exceptionTable := #[], attributes := #[] }
def k1m1 : Method := { name := "law", desc := "(IIIJJI)Z", sig := { parameters := [.int, .int, .int, .long, .long, .int], returnType := some .boolean }, accessFlags := 9, code := some k1c1 }
/-- com/example/halozat/halozat/node/LeaderHearPinLaw -/
def k1 : Class := { plain "com/example/halozat/halozat/node/LeaderHearPinLaw" (some 0) with
  accessFlags := 49
  interfaces := #[]
  cf := some (fileOf pool1 49 #[] #[{ accessFlags := 1, nameIndex := 5, descriptorIndex := 6, attributes := #[] }, { accessFlags := 9, nameIndex := 53, descriptorIndex := 54, attributes := #[] }] 49 2 #[] #[])
  fields := #[]
  methods := #[k1m0, k1m1]
  instanceTypes := #[]
  staticTypes := #[]
  resolved := Array.replicate 58 none
  statics := none }

def pool2 : Array CpInfo := pool [(1, .class_ 2), (0, u "com/example/halozat/halozat/node/Leader"), (0, .methodref 4 5), (0, .class_ 6), (0, .nameAndType 7 8), (0, u "java/lang/Object"), (0, u "<init>"), (0, u "()V"), (0, .fieldref 1 10), (0, .nameAndType 11 12), (0, u "dropped"), (0, u "I"), (2, .long 9223372036854775807), (1, .fieldref 1 18), (0, .nameAndType 19 20), (0, u "checkAt"), (0, u "J"), (0, .fieldref 1 22), (0, .nameAndType 23 12), (0, u "node"), (0, .fieldref 1 25), (0, .nameAndType 26 20), (0, u "raisedAt"), (0, .fieldref 1 28), (0, .nameAndType 29 20), (0, u "since"), (0, .fieldref 1 31), (0, .nameAndType 32 12), (0, u "beat"), (0, .fieldref 1 34), (0, .nameAndType 35 36), (0, u "far"), (0, u "Z"), (0, .long 1000), (1, .fieldref 1 40), (0, .nameAndType 41 12), (0, u "droppedBeat"), (0, .long 5000), (1, .long 2500), (1, u "LIVE_MS"), (1, u "FAR_MS"), (0, u "CHECK_MS"), (0, u "(IJ)V"), (2, u "()I"), (0, u "age"), (0, u "(J)J"), (0, u "()J"), (0, u "()Z"), (2, u "hear"), (0, u "(IIJJ)Z"), (1, u "heartbeat"), (0, u "(IIJ)Z")] 2

def k2c0 : Code := { maxStack := 3, maxLocals := 4, code := prog_81_method_1_code, exceptionTable := #[], attributes := #[] }
def k2m0 : Method := { name := "<init>", desc := "(IJ)V", sig := { parameters := [.int, .long], returnType := none }, accessFlags := 0, code := some k2c0 }
def k2c1 : Code := { maxStack := 1, maxLocals := 1, code := prog_81_method_2_code, exceptionTable := #[], attributes := #[] }
def k2m1 : Method := { name := "node", desc := "()I", sig := { parameters := [], returnType := some .int }, accessFlags := 0, code := some k2c1 }
def k2c2 : Code := { maxStack := 1, maxLocals := 1, code := prog_81_method_3_code, exceptionTable := #[], attributes := #[] }
def k2m2 : Method := { name := "beat", desc := "()I", sig := { parameters := [], returnType := some .int }, accessFlags := 0, code := some k2c2 }
def k2c3 : Code := { maxStack := 4, maxLocals := 3, code := prog_81_method_4_code, exceptionTable := #[], attributes := #[] }
def k2m3 : Method := { name := "age", desc := "(J)J", sig := { parameters := [.long], returnType := some .long }, accessFlags := 0, code := some k2c3 }
def k2c4 : Code := { maxStack := 2, maxLocals := 1, code := prog_81_method_5_code, exceptionTable := #[], attributes := #[] }
def k2m4 : Method := { name := "since", desc := "()J", sig := { parameters := [], returnType := some .long }, accessFlags := 0, code := some k2c4 }
def k2c5 : Code := { maxStack := 1, maxLocals := 1, code := prog_81_method_6_code, exceptionTable := #[], attributes := #[] }
def k2m5 : Method := { name := "far", desc := "()Z", sig := { parameters := [], returnType := some .boolean }, accessFlags := 0, code := some k2c5 }
def k2c6 : Code := { maxStack := 5, maxLocals := 10, code := prog_81_method_8_code, exceptionTable := #[], attributes := #[] }
def k2m6 : Method := { name := "hear", desc := "(IIJJ)Z", sig := { parameters := [.int, .int, .long, .long], returnType := some .boolean }, accessFlags := 0, code := some k2c6 }
def k2c7 : Code := { maxStack := 6, maxLocals := 6, code := prog_81_method_9_code, exceptionTable := #[], attributes := #[] }
def k2m7 : Method := { name := "heartbeat", desc := "(IIJ)Z", sig := { parameters := [.int, .int, .long], returnType := some .boolean }, accessFlags := 0, code := some k2c7 }
/-- com/example/halozat/halozat/node/Leader -/
def k2 : Class := { plain "com/example/halozat/halozat/node/Leader" (some 0) with
  accessFlags := 48
  interfaces := #[]
  cf := some (fileOf pool2 1 #[] #[{ accessFlags := 0, nameIndex := 7, descriptorIndex := 50, attributes := #[] }, { accessFlags := 0, nameIndex := 23, descriptorIndex := 53, attributes := #[] }, { accessFlags := 0, nameIndex := 32, descriptorIndex := 53, attributes := #[] }, { accessFlags := 0, nameIndex := 54, descriptorIndex := 55, attributes := #[] }, { accessFlags := 0, nameIndex := 29, descriptorIndex := 56, attributes := #[] }, { accessFlags := 0, nameIndex := 35, descriptorIndex := 57, attributes := #[] }, { accessFlags := 0, nameIndex := 60, descriptorIndex := 61, attributes := #[] }, { accessFlags := 0, nameIndex := 63, descriptorIndex := 64, attributes := #[] }] 48 4 #[] #[{ accessFlags := 24, nameIndex := 46, descriptorIndex := 20, attributes := #[] }, { accessFlags := 24, nameIndex := 48, descriptorIndex := 20, attributes := #[] }, { accessFlags := 24, nameIndex := 49, descriptorIndex := 20, attributes := #[] }, { accessFlags := 2, nameIndex := 23, descriptorIndex := 12, attributes := #[] }, { accessFlags := 2, nameIndex := 32, descriptorIndex := 12, attributes := #[] }, { accessFlags := 2, nameIndex := 26, descriptorIndex := 20, attributes := #[] }, { accessFlags := 2, nameIndex := 29, descriptorIndex := 20, attributes := #[] }, { accessFlags := 2, nameIndex := 11, descriptorIndex := 12, attributes := #[] }, { accessFlags := 2, nameIndex := 41, descriptorIndex := 12, attributes := #[] }, { accessFlags := 2, nameIndex := 19, descriptorIndex := 20, attributes := #[] }, { accessFlags := 2, nameIndex := 35, descriptorIndex := 36, attributes := #[] }])
  fields := #[{ name := "LIVE_MS", type := .long, accessFlags := 24, slot := 0, constantValue := 0 }, { name := "FAR_MS", type := .long, accessFlags := 24, slot := 1, constantValue := 0 }, { name := "CHECK_MS", type := .long, accessFlags := 24, slot := 2, constantValue := 0 }, { name := "node", type := .int, accessFlags := 2, slot := 0, constantValue := 0 }, { name := "beat", type := .int, accessFlags := 2, slot := 1, constantValue := 0 }, { name := "raisedAt", type := .long, accessFlags := 2, slot := 2, constantValue := 0 }, { name := "since", type := .long, accessFlags := 2, slot := 3, constantValue := 0 }, { name := "dropped", type := .int, accessFlags := 2, slot := 4, constantValue := 0 }, { name := "droppedBeat", type := .int, accessFlags := 2, slot := 5, constantValue := 0 }, { name := "checkAt", type := .long, accessFlags := 2, slot := 6, constantValue := 0 }, { name := "far", type := .boolean, accessFlags := 2, slot := 7, constantValue := 0 }]
  methods := #[k2m0, k2m1, k2m2, k2m3, k2m4, k2m5, k2m6, k2m7]
  instanceTypes := #[.int, .int, .long, .long, .int, .int, .long, .boolean]
  staticTypes := #[.long, .long, .long]
  resolved := Array.replicate 67 none
  statics := none }

def pool3 : Array CpInfo := pool [(1, u "java/lang/Cloneable"), (0, .class_ 1), (0, u "java/lang/Object"), (0, .class_ 3)] 3

/-- java/lang/Cloneable -/
def k3 : Class := { plain "java/lang/Cloneable" (some 0) with
  accessFlags := 1537
  interfaces := #[]
  cf := some (fileOf pool3 2 #[] #[] 1537 4 #[] #[])
  fields := #[]
  methods := #[]
  instanceTypes := #[]
  staticTypes := #[]
  resolved := Array.replicate 8 none
  statics := none }

def pool4 : Array CpInfo := pool [(1, u "java/io/Serializable"), (0, .class_ 1), (0, u "java/lang/Object"), (0, .class_ 3)] 3

/-- java/io/Serializable -/
def k4 : Class := { plain "java/io/Serializable" (some 0) with
  accessFlags := 1537
  interfaces := #[]
  cf := some (fileOf pool4 2 #[] #[] 1537 4 #[] #[])
  fields := #[]
  methods := #[]
  instanceTypes := #[]
  staticTypes := #[]
  resolved := Array.replicate 8 none
  statics := none }

/-- the primitive byte -/
def k5 : Class := { plain "byte" none with kind := .primitive 'B', accessFlags := 0x411 }
/-- [B -/
def k6 : Class := { plain "[B" (some 0) with kind := .array 5 .byte, interfaces := #[3, 4], accessFlags := 1041 }

/-- the primitive int -/
def k7 : Class := { plain "int" none with kind := .primitive 'I', accessFlags := 0x411 }
/-- [I -/
def k8 : Class := { plain "[I" (some 0) with kind := .array 7 .int, interfaces := #[3, 4], accessFlags := 1041 }

def heap : Heap := #[]
def classes : Array Class := #[k0, k1, k2, k3, k4, k5, k6, k7, k8]
def interned : List (Array UInt16 × Addr) := []
def slotsUsed : Nat := 0
def theMethod : MethodId := ⟨1, 1⟩
def args0 : Array Value := #[.int 5, .int 5, .int 5, .long 5, .long 5, .int 5]
def aboutOver (below : List Frame) : State where
  vm := { classes := classes, interned := interned.toArray }
  heap := heap
  slotsUsed := slotsUsed
  threads := #[{ frames := .invoking theMethod args0 :: below }]
def below0 : List Frame := [.native { method := ⟨0, 0⟩, args := #[] }]
def about1 : State := aboutOver below0
def p0 : Program := .bare "" "" ""
def e0 : Env := launch0.env 0 0 0
theorem w_frames : about1.frames = Frame.invoking theMethod args0 :: below0 := rfl
set_option maxRecDepth 65536 in
theorem w_args : argsFit about1.vm theMethod args0 = true := by decide +kernel
set_option maxRecDepth 65536 in
theorem w_heap : heapFits about1 = true := by decide +kernel
set_option maxRecDepth 65536 in
theorem w_runnable : about1.curStatus? = some .runnable := by decide +kernel
set_option maxRecDepth 65536 in
theorem w_alone : about1.alone = true := by decide +kernel
set_option maxRecDepth 65536 in
theorem w_named : about1.methodNamed? x = some theMethod := by decide +kernel
set_option maxRecDepth 65536 in
theorem w_hears : about1.hears theMethod below0 = true := by decide +kernel
set_option maxRecDepth 65536 in
theorem w_ripe : about1.ripe theMethod args0 below0 = true := by decide +kernel
theorem w_running : about1.status = .running := rfl
set_option maxRecDepth 65536 in
theorem w_room : about1.hasRoom e0.platform room_1 = true :=
  launch0.hasRoom_least _ room_1 (by decide +kernel) (by decide +kernel) (by decide +kernel) (by decide +kernel) (by decide +kernel) (by decide +kernel)
theorem allAtoms_all (ts : List Jvm.Cond) (a : Array Jvm.Value) (st : Jvm.State) : (allAtoms ts).before a st = ts.all (fun c => c.before a st) := by
  induction ts with
  | nil => rfl
  | cons c t ih =>
    show (Jvm.Cond.and c (allAtoms t)).before a st = _
    rw [Jvm.Cond.before_and, ih, List.all_cons]
def words1 : List Jvm.Cond := Jvm.Cond.code x code maxLocals ret :: tables_1
/-- a 'code' word, met by the world's own term for the bytes: nothing is compared byte by byte -/
theorem code_word {y : MethodName} {bytes : ByteArray} {mx : Nat} {rt : Option FieldType} {a : Array Value} {s : State} {m : MethodId} {meth : Method} {c : Code} (h1 : s.methodNamed? y = some m) (h2 : s.vm.method? m = some meth) (h3 : meth.code = some c) (h4 : c.code = bytes)
    (h5 : (c.maxLocals == mx && c.exceptionTable.isEmpty && decide (c.maxStack ≤ mostOperands) && decide (meth.sig.returnType = rt) && !meth.locks && decide (parseMethodDescriptor y.desc = some meth.sig)) = true) : (Jvm.Cond.code y bytes mx rt).before a s = true := by
  simp only [Bool.and_eq_true, beq_iff_eq, Bool.not_eq_true', decide_eq_true_eq] at h5
  obtain ⟨⟨⟨⟨⟨g1, g2⟩, g3⟩, g4⟩, g5⟩, g6⟩ := h5
  simp [Cond.before, Cond.holds, Cond.value, h1, h2, h3, h4, g1, g2, g3, g4, g5, g6]
def isCode : Jvm.Cond → Bool
  | .code _ _ _ _ => true
  | _ => false
theorem all_split {L : List Jvm.Cond} {P : Jvm.Cond → Bool} (h1 : L.all (fun c => isCode c || P c) = true) (h2 : ∀ c ∈ L.filter isCode, P c = true) : L.all P = true := by
  refine List.all_eq_true.mpr fun c hc => ?_
  have h := List.all_eq_true.mp h1 c hc
  rcases Bool.eq_false_or_eq_true (isCode c) with hi | hi
  · exact h2 c (List.mem_filter.mpr ⟨hc, hi⟩)
  · simpa [hi] using h
set_option maxRecDepth 65536 in
theorem w_c0 : (Jvm.Cond.code x code maxLocals ret).before args0 about1 = true := code_word (m := ⟨1, 1⟩) (meth := k1m1) (c := k1c1) (by decide +kernel) rfl rfl rfl (by decide +kernel)
set_option maxRecDepth 65536 in
theorem w_c1 : (Jvm.Cond.code ({ cls := "com/example/halozat/halozat/node/Leader", name := "<init>", desc := "(IJ)V" } : Jvm.MethodName) prog_81_method_1_code (4 : Nat) (Option.none : Option Jvm.ClassFile.FieldType)).before args0 about1 = true := code_word (m := ⟨2, 0⟩) (meth := k2m0) (c := k2c0) (by decide +kernel) rfl rfl rfl (by decide +kernel)
set_option maxRecDepth 65536 in
theorem w_c2 : (Jvm.Cond.code ({ cls := "java/lang/Object", name := "<init>", desc := "()V" } : Jvm.MethodName) object_method_1_code (1 : Nat) (Option.none : Option Jvm.ClassFile.FieldType)).before args0 about1 = true := code_word (m := ⟨0, 0⟩) (meth := k0m0) (c := k0c0) (by decide +kernel) rfl rfl rfl (by decide +kernel)
set_option maxRecDepth 65536 in
theorem w_c3 : (Jvm.Cond.code ({ cls := "com/example/halozat/halozat/node/Leader", name := "hear", desc := "(IIJJ)Z" } : Jvm.MethodName) prog_81_method_8_code (10 : Nat) (Option.some Jvm.ClassFile.FieldType.boolean)).before args0 about1 = true := code_word (m := ⟨2, 6⟩) (meth := k2m6) (c := k2c6) (by decide +kernel) rfl rfl rfl (by decide +kernel)
set_option maxRecDepth 65536 in
theorem w_c4 : (Jvm.Cond.code ({ cls := "com/example/halozat/halozat/node/Leader", name := "heartbeat", desc := "(IIJ)Z" } : Jvm.MethodName) prog_81_method_9_code (6 : Nat) (Option.some Jvm.ClassFile.FieldType.boolean)).before args0 about1 = true := code_word (m := ⟨2, 7⟩) (meth := k2m7) (c := k2c7) (by decide +kernel) rfl rfl rfl (by decide +kernel)
set_option maxRecDepth 65536 in
theorem w_c5 : (Jvm.Cond.code ({ cls := "com/example/halozat/halozat/node/Leader", name := "node", desc := "()I" } : Jvm.MethodName) prog_81_method_2_code (1 : Nat) (Option.some Jvm.ClassFile.FieldType.int)).before args0 about1 = true := code_word (m := ⟨2, 1⟩) (meth := k2m1) (c := k2c1) (by decide +kernel) rfl rfl rfl (by decide +kernel)
set_option maxRecDepth 65536 in
theorem w_c6 : (Jvm.Cond.code ({ cls := "com/example/halozat/halozat/node/Leader", name := "beat", desc := "()I" } : Jvm.MethodName) prog_81_method_3_code (1 : Nat) (Option.some Jvm.ClassFile.FieldType.int)).before args0 about1 = true := code_word (m := ⟨2, 2⟩) (meth := k2m2) (c := k2c2) (by decide +kernel) rfl rfl rfl (by decide +kernel)
set_option maxRecDepth 65536 in
theorem w_c7 : (Jvm.Cond.code ({ cls := "com/example/halozat/halozat/node/Leader", name := "age", desc := "(J)J" } : Jvm.MethodName) prog_81_method_4_code (3 : Nat) (Option.some Jvm.ClassFile.FieldType.long)).before args0 about1 = true := code_word (m := ⟨2, 3⟩) (meth := k2m3) (c := k2c3) (by decide +kernel) rfl rfl rfl (by decide +kernel)
set_option maxRecDepth 65536 in
theorem w_c8 : (Jvm.Cond.code ({ cls := "com/example/halozat/halozat/node/Leader", name := "since", desc := "()J" } : Jvm.MethodName) prog_81_method_5_code (1 : Nat) (Option.some Jvm.ClassFile.FieldType.long)).before args0 about1 = true := code_word (m := ⟨2, 4⟩) (meth := k2m4) (c := k2c4) (by decide +kernel) rfl rfl rfl (by decide +kernel)
set_option maxRecDepth 65536 in
theorem w_c9 : (Jvm.Cond.code ({ cls := "com/example/halozat/halozat/node/Leader", name := "far", desc := "()Z" } : Jvm.MethodName) prog_81_method_6_code (1 : Nat) (Option.some Jvm.ClassFile.FieldType.boolean)).before args0 about1 = true := code_word (m := ⟨2, 5⟩) (meth := k2m5) (c := k2c5) (by decide +kernel) rfl rfl rfl (by decide +kernel)
def codes1 : List Jvm.Cond := [Jvm.Cond.code x code maxLocals ret, Jvm.Cond.code ({ cls := "com/example/halozat/halozat/node/Leader", name := "<init>", desc := "(IJ)V" } : Jvm.MethodName) prog_81_method_1_code (4 : Nat) (Option.none : Option Jvm.ClassFile.FieldType), Jvm.Cond.code ({ cls := "java/lang/Object", name := "<init>", desc := "()V" } : Jvm.MethodName) object_method_1_code (1 : Nat) (Option.none : Option Jvm.ClassFile.FieldType), Jvm.Cond.code ({ cls := "com/example/halozat/halozat/node/Leader", name := "hear", desc := "(IIJJ)Z" } : Jvm.MethodName) prog_81_method_8_code (10 : Nat) (Option.some Jvm.ClassFile.FieldType.boolean), Jvm.Cond.code ({ cls := "com/example/halozat/halozat/node/Leader", name := "heartbeat", desc := "(IIJ)Z" } : Jvm.MethodName) prog_81_method_9_code (6 : Nat) (Option.some Jvm.ClassFile.FieldType.boolean), Jvm.Cond.code ({ cls := "com/example/halozat/halozat/node/Leader", name := "node", desc := "()I" } : Jvm.MethodName) prog_81_method_2_code (1 : Nat) (Option.some Jvm.ClassFile.FieldType.int), Jvm.Cond.code ({ cls := "com/example/halozat/halozat/node/Leader", name := "beat", desc := "()I" } : Jvm.MethodName) prog_81_method_3_code (1 : Nat) (Option.some Jvm.ClassFile.FieldType.int), Jvm.Cond.code ({ cls := "com/example/halozat/halozat/node/Leader", name := "age", desc := "(J)J" } : Jvm.MethodName) prog_81_method_4_code (3 : Nat) (Option.some Jvm.ClassFile.FieldType.long), Jvm.Cond.code ({ cls := "com/example/halozat/halozat/node/Leader", name := "since", desc := "()J" } : Jvm.MethodName) prog_81_method_5_code (1 : Nat) (Option.some Jvm.ClassFile.FieldType.long), Jvm.Cond.code ({ cls := "com/example/halozat/halozat/node/Leader", name := "far", desc := "()Z" } : Jvm.MethodName) prog_81_method_6_code (1 : Nat) (Option.some Jvm.ClassFile.FieldType.boolean)]
set_option maxRecDepth 65536 in
theorem codes_eq : words1.filter isCode = codes1 := rfl
theorem w_codes : ∀ c ∈ words1.filter isCode, c.before args0 about1 = true := by
  rw [codes_eq]
  intro c hc
  simp only [codes1, List.mem_cons, List.not_mem_nil, or_false] at hc
  rcases hc with rfl | rfl | rfl | rfl | rfl | rfl | rfl | rfl | rfl | rfl
  · exact w_c0
  · exact w_c1
  · exact w_c2
  · exact w_c3
  · exact w_c4
  · exact w_c5
  · exact w_c6
  · exact w_c7
  · exact w_c8
  · exact w_c9
set_option maxRecDepth 65536 in
theorem w_t1 : (words1.take 24).all (fun c => isCode c || c.before args0 about1) = true := by decide +kernel
set_option maxRecDepth 65536 in
theorem w_t2 : ((words1.drop 24).take 24).all (fun c => isCode c || c.before args0 about1) = true := by decide +kernel
set_option maxRecDepth 65536 in
theorem w_t3 : ((words1.drop 24).drop 24).all (fun c => isCode c || c.before args0 about1) = true := by decide +kernel
theorem w_tables : (allAtoms (Jvm.Cond.code x code maxLocals ret :: tables_1)).before args0 about1 = true := by
  rw [allAtoms_all]
  show words1.all (fun c => c.before args0 about1) = true
  refine all_split ?_ w_codes
  rw [← List.take_append_drop 24 words1, List.all_append, w_t1, ← List.take_append_drop 24 (words1.drop 24), List.all_append, w_t2, w_t3]
  rfl
set_option maxRecDepth 65536 in
theorem w_case : (Jvm.Cond.and given_1 narrow_1).before args0 about1 = true := by decide +kernel
theorem w_applies : (headSpec (Jvm.Cond.code x code maxLocals ret :: tables_1) room_1).applies x e0.platform about1 = true :=
  (Spec.applies_iff w_frames).mpr ⟨w_running, w_runnable, w_alone, w_named, w_hears, w_ripe, w_room, w_tables⟩
theorem atStart : AtStart classFile x code maxLocals ret World_1 tables_1 room_1 Calls_1 rest_1 Pre_1 launch0 p0 e0 about1 theMethod args0 below0 :=
  ⟨lists_1, trivial, launch0.admits_env _ _ _, launch0.least_env, fairChoices_fair.cas, fairChoices_fair.clock, w_frames, w_args, w_heap, w_applies, trivial, trivial, w_case⟩
end start1
theorem witness_1 : WitnessClaimed_1 := ⟨start1.p0, start1.e0, start1.about1, start1.theMethod, start1.args0, start1.below0, start1.atStart⟩
end Jvm.Pilot.@@N@@
