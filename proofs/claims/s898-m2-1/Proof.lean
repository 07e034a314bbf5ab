import JvmDerived
import JvmDerived.Pilot.@@N@@Statement
import JvmDerived.Pilot.@@N@@Code
set_option linter.unusedVariables false
set_option linter.unusedSimpArgs false
namespace Jvm.RoadKit
open Sem ClassFile Op Lib Jvm.Stand Jvm.Free Jvm.LawKit
section New
variable {p : Program} {l : Launch} {e : Env} {R : Room} {s : State} {m : MethodId} {args : Array Value} {below : List Frame} {meth : Method} {c : Code} {T : State} {locs : List Loc} {cells slots : Nat}
theorem retI (X : Stand p l e R s m args below meth c T locs cells slots) (hx : p.tables.exec = Jvm.exec) {pc : Nat} {Ls : Array Slot} {z : Int32} {rest : List Value} (hret : meth.sig.returnType = some .int) (hd : decode c.code pc = .ok (.ireturn, 1)) {fs : List Frame}
    (hl : ∀ (f : JFrame) (acts : List Action), f.method = m → f.locked = none → f.entered = [] → (doReturn e (T.setTop f) acts (some (.int z))).1 = T.setFrames fs) : Steps p.tables e below (T.setTop (mkF m pc Ls (.int z :: rest))) (T.setFrames fs) := by
  have hm' : T.vm.method? m = some meth := X.method'
  have hn : narrow .int (.int z) = .int z := rfl
  show Steps p.tables e below (T.setTop { method := m, pc := pc, locals := Ls, stack := _ :: rest, locked := none }) _
  jvm_step X.here [X.here.top, hx, hd, hm', hret, hn]
  first | (intro acts; rw [hl _ acts rfl rfl rfl]) | rw [hl _ _ rfl rfl rfl]
  exact Steps.refl _
theorem own_join {n0 : Nat} (X : Stand p l e R s m args below meth c T locs cells slots) (N : Fr n0 locs) {h : Heap} (g g' : JFrame)
    (H : ∃ (T' : State) (locs' : List Loc), Stand p l e R s m args below meth c T' locs' cells slots ∧ Fr n0 locs' ∧ T'.heap = h ∧ ∀ t, Steps p.tables e below (T'.setTop g') t → Steps p.tables e below (T.setTop g) t) :
    ∃ (T' : State) (locs' : List Loc), Stand p l e R s m args below meth c T' locs' cells slots ∧ Fr n0 locs' ∧ T'.heap = h ∧ ∀ t, Steps p.tables e below (T'.setTop g') t → Steps p.tables e below (T.setTop g) t := H
theorem own_mono (X : Stand p l e R s m args below meth c T locs cells slots) {c' s' : Nat} (h1 : cells ≤ c') (h2 : slots ≤ s') : Stand p l e R s m args below meth c T locs c' s' :=
  ⟨X.admits, X.cas, X.clock, X.frames, X.room, X.hears, X.method, X.code, X.here, X.tail, X.warmed, X.limits, X.bytes, X.same.mono h1 h2⟩
theorem own_lrem {g : JFrame} {target : State} (X : Stand p l e R s m args below meth c T locs cells slots) (hx : p.tables.exec = Jvm.exec) (hg : g.method = m) {x y : Int64} {rest : List Value} (hd : decode c.code g.pc = .ok (.lrem, 1)) (hs : g.stack = .long y :: .long x :: rest) (hy : y ≠ 0)
    (hr : Steps p.tables e below (T.setTop { g with pc := g.pc + 1, stack := .long (x % y) :: rest }) target) : Steps p.tables e below (T.setTop g) target :=
  Jvm.Free.XS.lrem X.here hx hg hd hs hy (by rw [lrem_mod x y]; exact hr)
def Bya (Z : State) (h : Heap) (a : Addr) (z : Int32) (f : Int32 → Int32) : Prop := ∃ c : Cell, Arr Z h a c .byte ∧ c.slots.size = z.toNatClampNeg ∧ ∀ j : Int32, ¬ j < 0 → j < z → c.slots[j.toNatClampNeg]? = some (.int (f j))
theorem Bya.lt {Z : State} {h : Heap} {a : Addr} {z : Int32} {f : Int32 → Int32} (F : Bya Z h a z f) : a < h.size := by obtain ⟨c, A, -⟩ := F; exact A.lt
theorem Bya.ext {Z : State} {h h' : Heap} {a : Addr} {z : Int32} {f : Int32 → Int32} (F : Bya Z h a z f) (E : Ext h h') : Bya Z h' a z f := by obtain ⟨c, A, r⟩ := F; exact ⟨c, A.ext E, r⟩
theorem Bya.other {Z : State} {h h' : Heap} {a b : Addr} {z : Int32} {f : Int32 → Int32} {sl : Nat} {v : Value} (F : Bya Z h b z f) (W : Wr h h' a sl v) (q : b ≠ a) : Bya Z h' b z f := by obtain ⟨c, A, r⟩ := F; exact ⟨c, A.other W q, r⟩
theorem Bya.keep {Z : State} {h h' : Heap} {a : Addr} {z : Int32} {f : Int32 → Int32} {ws : List Addr} (F : Bya Z h a z f) (K : Keep h h' ws) (q : a ∉ ws) : Bya Z h' a z f := by obtain ⟨c, A, r⟩ := F; exact ⟨c, ⟨K.2.1 a c A.1 q, A.2⟩, r⟩
theorem Bya.set {Z : State} {h h' : Heap} {a : Addr} {z j v : Int32} {f : Int32 → Int32} {c : Cell} (A : Arr Z h a c .byte) (S : c.slots.size = z.toNatClampNeg) (H : ∀ j : Int32, ¬ j < 0 → j < z → c.slots[j.toNatClampNeg]? = some (.int (f j))) (hj : ¬ j < 0 ∧ j < z) (W : Wr h h' a j.toNatClampNeg (.int v)) : Bya Z h' a z (fun i => if i = j then v else f i) := by
  refine ⟨_, A.same W, by rw [sz_set]; exact S, fun i h1 h2 => ?_⟩
  by_cases q : i = j
  · rw [get_hit (inb_of S hj) q]; simp [q]
  · rw [get_miss hj.1 h1 q, H i h1 h2]; simp [q]
theorem Bya.of_arv {Z : State} {h : Heap} {a : Addr} {k : ClassId} {z : Int32} {vs : List Value} {es : List Int32} (F : Arv Z h a k .byte z vs (.int (0 : Int32))) (e : vs = es.map Value.int) : Bya Z h a z (fun i => es.getD i.toNatClampNeg 0) := by
  obtain ⟨c, A, -, S, -, H, -⟩ := F
  refine ⟨c, A, S, fun j h1 h2 => ?_⟩
  refine H.at (inb_of S ⟨h1, h2⟩) ?_
  subst e
  simp only [List.getD_eq_getElem?_getD, List.getElem?_map]
  cases es[j.toNatClampNeg]? <;> rfl
theorem own_b1 {x : Int32} (h : x = 1) : ¬ x = 0 := by rw [h]; decide
theorem own_cons {α : Type} {a b : α} {l m : List α} (h1 : a = b) (h2 : l = m) : a :: l = b :: m := by rw [h1, h2]
theorem own_arv {Z : State} {h : Heap} {a : Addr} {k : ClassId} {ty : FieldType} {z : Int32} {vs ws : List Value} {d : Value} (A : Arv Z h a k ty z vs d) (q : ws = vs) : Arv Z h a k ty z ws d := q ▸ A
theorem own_fld {Z : State} {h : Heap} {a : Addr} {C n d : String} {v w : Value} (F : Fld Z h a C n d v) (q : w = v) : Fld Z h a C n d w := q ▸ F
end New
end Jvm.RoadKit
namespace Jvm.Pilot.@@N@@
open Jvm Jvm.ClassFile Sem Op Lib Jvm.Free Jvm.Stand Jvm.LawKit Jvm.RoadKit Bundle Jvm.Pilot.@@N@@.Jvm.D
theorem ow0 {Z : State} {a0 : Array Value} (hw : ∀ d ∈ tables_1, d.before a0 Z = true) : (Jvm.Cond.constantLong "com/example/halozat/halozat/node/LeaderHeartbeatPinLaw" (7 : Nat) (65535 : Int64)).before a0 Z = true := hw _ (List.mem_of_getElem? (i := 0) rfl)
theorem ow1 {Z : State} {a0 : Array Value} (hw : ∀ d ∈ tables_1, d.before a0 Z = true) : (Jvm.Cond.constantLong "com/example/halozat/halozat/node/LeaderHeartbeatPinLaw" (9 : Nat) (4095 : Int64)).before a0 Z = true := hw _ (List.mem_of_getElem? (i := 1) rfl)
theorem ow2 {Z : State} {a0 : Array Value} (hw : ∀ d ∈ tables_1, d.before a0 Z = true) : (Jvm.Cond.constantLong "com/example/halozat/halozat/node/LeaderHeartbeatPinLaw" (11 : Nat) (3 : Int64)).before a0 Z = true := hw _ (List.mem_of_getElem? (i := 2) rfl)
theorem ow3 {Z : State} {a0 : Array Value} (hw : ∀ d ∈ tables_1, d.before a0 Z = true) : (Jvm.Cond.classLink "com/example/halozat/halozat/node/LeaderHeartbeatPinLaw" (13 : Nat) "com/example/halozat/halozat/node/Leader").before a0 Z = true := hw _ (List.mem_of_getElem? (i := 3) rfl)
theorem ow4 {Z : State} {a0 : Array Value} (hw : ∀ d ∈ tables_1, d.before a0 Z = true) : (Jvm.Cond.instantiable "com/example/halozat/halozat/node/Leader" (8 : Nat)).before a0 Z = true := hw _ (List.mem_of_getElem? (i := 4) rfl)
theorem ow5 {Z : State} {a0 : Array Value} (hw : ∀ d ∈ tables_1, d.before a0 Z = true) : (Jvm.Cond.initialized "com/example/halozat/halozat/node/Leader").before a0 Z = true := hw _ (List.mem_of_getElem? (i := 5) rfl)
theorem ow6 {Z : State} {a0 : Array Value} (hw : ∀ d ∈ tables_1, d.before a0 Z = true) : (Jvm.Cond.methodLink "com/example/halozat/halozat/node/LeaderHeartbeatPinLaw" (15 : Nat) ({ cls := "com/example/halozat/halozat/node/Leader", name := "<init>", desc := "(IJ)V" } : Jvm.MethodName)).before a0 Z = true := hw _ (List.mem_of_getElem? (i := 6) rfl)
theorem ow7 {Z : State} {a0 : Array Value} (hw : ∀ d ∈ tables_1, d.before a0 Z = true) : (Jvm.Cond.instanceMethod ({ cls := "com/example/halozat/halozat/node/Leader", name := "<init>", desc := "(IJ)V" } : Jvm.MethodName)).before a0 Z = true := hw _ (List.mem_of_getElem? (i := 7) rfl)
theorem ow8 {Z : State} {a0 : Array Value} (hw : ∀ d ∈ tables_1, d.before a0 Z = true) : (Jvm.Cond.code ({ cls := "com/example/halozat/halozat/node/Leader", name := "<init>", desc := "(IJ)V" } : Jvm.MethodName) prog_81_method_1_code (4 : Nat) (Option.none : Option Jvm.ClassFile.FieldType)).before a0 Z = true := hw _ (List.mem_of_getElem? (i := 8) rfl)
theorem ow9 {Z : State} {a0 : Array Value} (hw : ∀ d ∈ tables_1, d.before a0 Z = true) : (Jvm.Cond.methodLink "com/example/halozat/halozat/node/Leader" (3 : Nat) ({ cls := "java/lang/Object", name := "<init>", desc := "()V" } : Jvm.MethodName)).before a0 Z = true := hw _ (List.mem_of_getElem? (i := 9) rfl)
theorem ow10 {Z : State} {a0 : Array Value} (hw : ∀ d ∈ tables_1, d.before a0 Z = true) : (Jvm.Cond.instanceMethod ({ cls := "java/lang/Object", name := "<init>", desc := "()V" } : Jvm.MethodName)).before a0 Z = true := hw _ (List.mem_of_getElem? (i := 10) rfl)
theorem ow11 {Z : State} {a0 : Array Value} (hw : ∀ d ∈ tables_1, d.before a0 Z = true) : (Jvm.Cond.code ({ cls := "java/lang/Object", name := "<init>", desc := "()V" } : Jvm.MethodName) object_method_1_code (1 : Nat) (Option.none : Option Jvm.ClassFile.FieldType)).before a0 Z = true := hw _ (List.mem_of_getElem? (i := 11) rfl)
theorem ow12 {Z : State} {a0 : Array Value} (hw : ∀ d ∈ tables_1, d.before a0 Z = true) : (Jvm.Cond.fieldLink "com/example/halozat/halozat/node/Leader" (9 : Nat) "com/example/halozat/halozat/node/Leader" "dropped" "I").before a0 Z = true := hw _ (List.mem_of_getElem? (i := 12) rfl)
theorem ow13 {Z : State} {a0 : Array Value} (hw : ∀ d ∈ tables_1, d.before a0 Z = true) : (Jvm.Cond.lays "com/example/halozat/halozat/node/Leader" "com/example/halozat/halozat/node/Leader" "dropped" "I").before a0 Z = true := hw _ (List.mem_of_getElem? (i := 13) rfl)
theorem ow14 {Z : State} {a0 : Array Value} (hw : ∀ d ∈ tables_1, d.before a0 Z = true) : (Jvm.Cond.constantLong "com/example/halozat/halozat/node/Leader" (15 : Nat) (9223372036854775807 : Int64)).before a0 Z = true := hw _ (List.mem_of_getElem? (i := 14) rfl)
theorem ow15 {Z : State} {a0 : Array Value} (hw : ∀ d ∈ tables_1, d.before a0 Z = true) : (Jvm.Cond.fieldLink "com/example/halozat/halozat/node/Leader" (17 : Nat) "com/example/halozat/halozat/node/Leader" "checkAt" "J").before a0 Z = true := hw _ (List.mem_of_getElem? (i := 15) rfl)
theorem ow16 {Z : State} {a0 : Array Value} (hw : ∀ d ∈ tables_1, d.before a0 Z = true) : (Jvm.Cond.lays "com/example/halozat/halozat/node/Leader" "com/example/halozat/halozat/node/Leader" "checkAt" "J").before a0 Z = true := hw _ (List.mem_of_getElem? (i := 16) rfl)
theorem ow17 {Z : State} {a0 : Array Value} (hw : ∀ d ∈ tables_1, d.before a0 Z = true) : (Jvm.Cond.fieldLink "com/example/halozat/halozat/node/Leader" (21 : Nat) "com/example/halozat/halozat/node/Leader" "node" "I").before a0 Z = true := hw _ (List.mem_of_getElem? (i := 17) rfl)
theorem ow18 {Z : State} {a0 : Array Value} (hw : ∀ d ∈ tables_1, d.before a0 Z = true) : (Jvm.Cond.lays "com/example/halozat/halozat/node/Leader" "com/example/halozat/halozat/node/Leader" "node" "I").before a0 Z = true := hw _ (List.mem_of_getElem? (i := 18) rfl)
theorem ow19 {Z : State} {a0 : Array Value} (hw : ∀ d ∈ tables_1, d.before a0 Z = true) : (Jvm.Cond.fieldLink "com/example/halozat/halozat/node/Leader" (24 : Nat) "com/example/halozat/halozat/node/Leader" "raisedAt" "J").before a0 Z = true := hw _ (List.mem_of_getElem? (i := 19) rfl)
theorem ow20 {Z : State} {a0 : Array Value} (hw : ∀ d ∈ tables_1, d.before a0 Z = true) : (Jvm.Cond.lays "com/example/halozat/halozat/node/Leader" "com/example/halozat/halozat/node/Leader" "raisedAt" "J").before a0 Z = true := hw _ (List.mem_of_getElem? (i := 20) rfl)
theorem ow21 {Z : State} {a0 : Array Value} (hw : ∀ d ∈ tables_1, d.before a0 Z = true) : (Jvm.Cond.fieldLink "com/example/halozat/halozat/node/Leader" (27 : Nat) "com/example/halozat/halozat/node/Leader" "since" "J").before a0 Z = true := hw _ (List.mem_of_getElem? (i := 21) rfl)
theorem ow22 {Z : State} {a0 : Array Value} (hw : ∀ d ∈ tables_1, d.before a0 Z = true) : (Jvm.Cond.lays "com/example/halozat/halozat/node/Leader" "com/example/halozat/halozat/node/Leader" "since" "J").before a0 Z = true := hw _ (List.mem_of_getElem? (i := 22) rfl)
theorem ow23 {Z : State} {a0 : Array Value} (hw : ∀ d ∈ tables_1, d.before a0 Z = true) : (Jvm.Cond.methodLink "com/example/halozat/halozat/node/LeaderHeartbeatPinLaw" (18 : Nat) ({ cls := "com/example/halozat/halozat/node/Leader", name := "hear", desc := "(IIJJ)Z" } : Jvm.MethodName)).before a0 Z = true := hw _ (List.mem_of_getElem? (i := 23) rfl)
theorem ow24 {Z : State} {a0 : Array Value} (hw : ∀ d ∈ tables_1, d.before a0 Z = true) : (Jvm.Cond.declares ({ cls := "com/example/halozat/halozat/node/Leader", name := "hear", desc := "(IIJJ)Z" } : Jvm.MethodName)).before a0 Z = true := hw _ (List.mem_of_getElem? (i := 24) rfl)
theorem ow25 {Z : State} {a0 : Array Value} (hw : ∀ d ∈ tables_1, d.before a0 Z = true) : (Jvm.Cond.instanceMethod ({ cls := "com/example/halozat/halozat/node/Leader", name := "hear", desc := "(IIJJ)Z" } : Jvm.MethodName)).before a0 Z = true := hw _ (List.mem_of_getElem? (i := 25) rfl)
theorem ow26 {Z : State} {a0 : Array Value} (hw : ∀ d ∈ tables_1, d.before a0 Z = true) : (Jvm.Cond.selects "com/example/halozat/halozat/node/Leader" ({ cls := "com/example/halozat/halozat/node/Leader", name := "hear", desc := "(IIJJ)Z" } : Jvm.MethodName) ({ cls := "com/example/halozat/halozat/node/Leader", name := "hear", desc := "(IIJJ)Z" } : Jvm.MethodName)).before a0 Z = true := hw _ (List.mem_of_getElem? (i := 26) rfl)
theorem ow27 {Z : State} {a0 : Array Value} (hw : ∀ d ∈ tables_1, d.before a0 Z = true) : (Jvm.Cond.code ({ cls := "com/example/halozat/halozat/node/Leader", name := "hear", desc := "(IIJJ)Z" } : Jvm.MethodName) prog_81_method_8_code (10 : Nat) (Option.some Jvm.ClassFile.FieldType.boolean)).before a0 Z = true := hw _ (List.mem_of_getElem? (i := 27) rfl)
theorem ow28 {Z : State} {a0 : Array Value} (hw : ∀ d ∈ tables_1, d.before a0 Z = true) : (Jvm.Cond.constantLong "com/example/halozat/halozat/node/Leader" (42 : Nat) (5000 : Int64)).before a0 Z = true := hw _ (List.mem_of_getElem? (i := 28) rfl)
theorem ow29 {Z : State} {a0 : Array Value} (hw : ∀ d ∈ tables_1, d.before a0 Z = true) : (Jvm.Cond.methodLink "com/example/halozat/halozat/node/LeaderHeartbeatPinLaw" (22 : Nat) ({ cls := "com/example/halozat/halozat/node/Leader", name := "heartbeat", desc := "(IIJ)Z" } : Jvm.MethodName)).before a0 Z = true := hw _ (List.mem_of_getElem? (i := 29) rfl)
theorem ow30 {Z : State} {a0 : Array Value} (hw : ∀ d ∈ tables_1, d.before a0 Z = true) : (Jvm.Cond.declares ({ cls := "com/example/halozat/halozat/node/Leader", name := "heartbeat", desc := "(IIJ)Z" } : Jvm.MethodName)).before a0 Z = true := hw _ (List.mem_of_getElem? (i := 30) rfl)
theorem ow31 {Z : State} {a0 : Array Value} (hw : ∀ d ∈ tables_1, d.before a0 Z = true) : (Jvm.Cond.instanceMethod ({ cls := "com/example/halozat/halozat/node/Leader", name := "heartbeat", desc := "(IIJ)Z" } : Jvm.MethodName)).before a0 Z = true := hw _ (List.mem_of_getElem? (i := 31) rfl)
theorem ow32 {Z : State} {a0 : Array Value} (hw : ∀ d ∈ tables_1, d.before a0 Z = true) : (Jvm.Cond.selects "com/example/halozat/halozat/node/Leader" ({ cls := "com/example/halozat/halozat/node/Leader", name := "heartbeat", desc := "(IIJ)Z" } : Jvm.MethodName) ({ cls := "com/example/halozat/halozat/node/Leader", name := "heartbeat", desc := "(IIJ)Z" } : Jvm.MethodName)).before a0 Z = true := hw _ (List.mem_of_getElem? (i := 32) rfl)
theorem ow33 {Z : State} {a0 : Array Value} (hw : ∀ d ∈ tables_1, d.before a0 Z = true) : (Jvm.Cond.code ({ cls := "com/example/halozat/halozat/node/Leader", name := "heartbeat", desc := "(IIJ)Z" } : Jvm.MethodName) prog_81_method_9_code (6 : Nat) (Option.some Jvm.ClassFile.FieldType.boolean)).before a0 Z = true := hw _ (List.mem_of_getElem? (i := 33) rfl)
theorem ow34 {Z : State} {a0 : Array Value} (hw : ∀ d ∈ tables_1, d.before a0 Z = true) : (Jvm.Cond.fieldLink "com/example/halozat/halozat/node/Leader" (30 : Nat) "com/example/halozat/halozat/node/Leader" "beat" "I").before a0 Z = true := hw _ (List.mem_of_getElem? (i := 34) rfl)
theorem ow35 {Z : State} {a0 : Array Value} (hw : ∀ d ∈ tables_1, d.before a0 Z = true) : (Jvm.Cond.lays "com/example/halozat/halozat/node/Leader" "com/example/halozat/halozat/node/Leader" "beat" "I").before a0 Z = true := hw _ (List.mem_of_getElem? (i := 35) rfl)
theorem ow36 {Z : State} {a0 : Array Value} (hw : ∀ d ∈ tables_1, d.before a0 Z = true) : (Jvm.Cond.methodLink "com/example/halozat/halozat/node/LeaderHeartbeatPinLaw" (26 : Nat) ({ cls := "com/example/halozat/halozat/node/Leader", name := "node", desc := "()I" } : Jvm.MethodName)).before a0 Z = true := hw _ (List.mem_of_getElem? (i := 36) rfl)
theorem ow37 {Z : State} {a0 : Array Value} (hw : ∀ d ∈ tables_1, d.before a0 Z = true) : (Jvm.Cond.declares ({ cls := "com/example/halozat/halozat/node/Leader", name := "node", desc := "()I" } : Jvm.MethodName)).before a0 Z = true := hw _ (List.mem_of_getElem? (i := 37) rfl)
theorem ow38 {Z : State} {a0 : Array Value} (hw : ∀ d ∈ tables_1, d.before a0 Z = true) : (Jvm.Cond.instanceMethod ({ cls := "com/example/halozat/halozat/node/Leader", name := "node", desc := "()I" } : Jvm.MethodName)).before a0 Z = true := hw _ (List.mem_of_getElem? (i := 38) rfl)
theorem ow39 {Z : State} {a0 : Array Value} (hw : ∀ d ∈ tables_1, d.before a0 Z = true) : (Jvm.Cond.selects "com/example/halozat/halozat/node/Leader" ({ cls := "com/example/halozat/halozat/node/Leader", name := "node", desc := "()I" } : Jvm.MethodName) ({ cls := "com/example/halozat/halozat/node/Leader", name := "node", desc := "()I" } : Jvm.MethodName)).before a0 Z = true := hw _ (List.mem_of_getElem? (i := 39) rfl)
theorem ow40 {Z : State} {a0 : Array Value} (hw : ∀ d ∈ tables_1, d.before a0 Z = true) : (Jvm.Cond.code ({ cls := "com/example/halozat/halozat/node/Leader", name := "node", desc := "()I" } : Jvm.MethodName) prog_81_method_2_code (1 : Nat) (Option.some Jvm.ClassFile.FieldType.int)).before a0 Z = true := hw _ (List.mem_of_getElem? (i := 40) rfl)
theorem ow41 {Z : State} {a0 : Array Value} (hw : ∀ d ∈ tables_1, d.before a0 Z = true) : (Jvm.Cond.methodLink "com/example/halozat/halozat/node/LeaderHeartbeatPinLaw" (30 : Nat) ({ cls := "com/example/halozat/halozat/node/Leader", name := "beat", desc := "()I" } : Jvm.MethodName)).before a0 Z = true := hw _ (List.mem_of_getElem? (i := 41) rfl)
theorem ow42 {Z : State} {a0 : Array Value} (hw : ∀ d ∈ tables_1, d.before a0 Z = true) : (Jvm.Cond.declares ({ cls := "com/example/halozat/halozat/node/Leader", name := "beat", desc := "()I" } : Jvm.MethodName)).before a0 Z = true := hw _ (List.mem_of_getElem? (i := 42) rfl)
theorem ow43 {Z : State} {a0 : Array Value} (hw : ∀ d ∈ tables_1, d.before a0 Z = true) : (Jvm.Cond.instanceMethod ({ cls := "com/example/halozat/halozat/node/Leader", name := "beat", desc := "()I" } : Jvm.MethodName)).before a0 Z = true := hw _ (List.mem_of_getElem? (i := 43) rfl)
theorem ow44 {Z : State} {a0 : Array Value} (hw : ∀ d ∈ tables_1, d.before a0 Z = true) : (Jvm.Cond.selects "com/example/halozat/halozat/node/Leader" ({ cls := "com/example/halozat/halozat/node/Leader", name := "beat", desc := "()I" } : Jvm.MethodName) ({ cls := "com/example/halozat/halozat/node/Leader", name := "beat", desc := "()I" } : Jvm.MethodName)).before a0 Z = true := hw _ (List.mem_of_getElem? (i := 44) rfl)
theorem ow45 {Z : State} {a0 : Array Value} (hw : ∀ d ∈ tables_1, d.before a0 Z = true) : (Jvm.Cond.code ({ cls := "com/example/halozat/halozat/node/Leader", name := "beat", desc := "()I" } : Jvm.MethodName) prog_81_method_3_code (1 : Nat) (Option.some Jvm.ClassFile.FieldType.int)).before a0 Z = true := hw _ (List.mem_of_getElem? (i := 45) rfl)
theorem ow46 {Z : State} {a0 : Array Value} (hw : ∀ d ∈ tables_1, d.before a0 Z = true) : (Jvm.Cond.methodLink "com/example/halozat/halozat/node/LeaderHeartbeatPinLaw" (33 : Nat) ({ cls := "com/example/halozat/halozat/node/Leader", name := "age", desc := "(J)J" } : Jvm.MethodName)).before a0 Z = true := hw _ (List.mem_of_getElem? (i := 46) rfl)
theorem ow47 {Z : State} {a0 : Array Value} (hw : ∀ d ∈ tables_1, d.before a0 Z = true) : (Jvm.Cond.declares ({ cls := "com/example/halozat/halozat/node/Leader", name := "age", desc := "(J)J" } : Jvm.MethodName)).before a0 Z = true := hw _ (List.mem_of_getElem? (i := 47) rfl)
theorem ow48 {Z : State} {a0 : Array Value} (hw : ∀ d ∈ tables_1, d.before a0 Z = true) : (Jvm.Cond.instanceMethod ({ cls := "com/example/halozat/halozat/node/Leader", name := "age", desc := "(J)J" } : Jvm.MethodName)).before a0 Z = true := hw _ (List.mem_of_getElem? (i := 48) rfl)
theorem ow49 {Z : State} {a0 : Array Value} (hw : ∀ d ∈ tables_1, d.before a0 Z = true) : (Jvm.Cond.selects "com/example/halozat/halozat/node/Leader" ({ cls := "com/example/halozat/halozat/node/Leader", name := "age", desc := "(J)J" } : Jvm.MethodName) ({ cls := "com/example/halozat/halozat/node/Leader", name := "age", desc := "(J)J" } : Jvm.MethodName)).before a0 Z = true := hw _ (List.mem_of_getElem? (i := 49) rfl)
theorem ow50 {Z : State} {a0 : Array Value} (hw : ∀ d ∈ tables_1, d.before a0 Z = true) : (Jvm.Cond.code ({ cls := "com/example/halozat/halozat/node/Leader", name := "age", desc := "(J)J" } : Jvm.MethodName) prog_81_method_4_code (3 : Nat) (Option.some Jvm.ClassFile.FieldType.long)).before a0 Z = true := hw _ (List.mem_of_getElem? (i := 50) rfl)
theorem ow51 {Z : State} {a0 : Array Value} (hw : ∀ d ∈ tables_1, d.before a0 Z = true) : (Jvm.Cond.methodLink "com/example/halozat/halozat/node/LeaderHeartbeatPinLaw" (37 : Nat) ({ cls := "com/example/halozat/halozat/node/Leader", name := "since", desc := "()J" } : Jvm.MethodName)).before a0 Z = true := hw _ (List.mem_of_getElem? (i := 51) rfl)
theorem ow52 {Z : State} {a0 : Array Value} (hw : ∀ d ∈ tables_1, d.before a0 Z = true) : (Jvm.Cond.declares ({ cls := "com/example/halozat/halozat/node/Leader", name := "since", desc := "()J" } : Jvm.MethodName)).before a0 Z = true := hw _ (List.mem_of_getElem? (i := 52) rfl)
theorem ow53 {Z : State} {a0 : Array Value} (hw : ∀ d ∈ tables_1, d.before a0 Z = true) : (Jvm.Cond.instanceMethod ({ cls := "com/example/halozat/halozat/node/Leader", name := "since", desc := "()J" } : Jvm.MethodName)).before a0 Z = true := hw _ (List.mem_of_getElem? (i := 53) rfl)
theorem ow54 {Z : State} {a0 : Array Value} (hw : ∀ d ∈ tables_1, d.before a0 Z = true) : (Jvm.Cond.selects "com/example/halozat/halozat/node/Leader" ({ cls := "com/example/halozat/halozat/node/Leader", name := "since", desc := "()J" } : Jvm.MethodName) ({ cls := "com/example/halozat/halozat/node/Leader", name := "since", desc := "()J" } : Jvm.MethodName)).before a0 Z = true := hw _ (List.mem_of_getElem? (i := 54) rfl)
theorem ow55 {Z : State} {a0 : Array Value} (hw : ∀ d ∈ tables_1, d.before a0 Z = true) : (Jvm.Cond.code ({ cls := "com/example/halozat/halozat/node/Leader", name := "since", desc := "()J" } : Jvm.MethodName) prog_81_method_5_code (1 : Nat) (Option.some Jvm.ClassFile.FieldType.long)).before a0 Z = true := hw _ (List.mem_of_getElem? (i := 55) rfl)
theorem ow56 {Z : State} {a0 : Array Value} (hw : ∀ d ∈ tables_1, d.before a0 Z = true) : (Jvm.Cond.methodLink "com/example/halozat/halozat/node/LeaderHeartbeatPinLaw" (41 : Nat) ({ cls := "com/example/halozat/halozat/node/Leader", name := "far", desc := "()Z" } : Jvm.MethodName)).before a0 Z = true := hw _ (List.mem_of_getElem? (i := 56) rfl)
theorem ow57 {Z : State} {a0 : Array Value} (hw : ∀ d ∈ tables_1, d.before a0 Z = true) : (Jvm.Cond.declares ({ cls := "com/example/halozat/halozat/node/Leader", name := "far", desc := "()Z" } : Jvm.MethodName)).before a0 Z = true := hw _ (List.mem_of_getElem? (i := 57) rfl)
theorem ow58 {Z : State} {a0 : Array Value} (hw : ∀ d ∈ tables_1, d.before a0 Z = true) : (Jvm.Cond.instanceMethod ({ cls := "com/example/halozat/halozat/node/Leader", name := "far", desc := "()Z" } : Jvm.MethodName)).before a0 Z = true := hw _ (List.mem_of_getElem? (i := 58) rfl)
theorem ow59 {Z : State} {a0 : Array Value} (hw : ∀ d ∈ tables_1, d.before a0 Z = true) : (Jvm.Cond.selects "com/example/halozat/halozat/node/Leader" ({ cls := "com/example/halozat/halozat/node/Leader", name := "far", desc := "()Z" } : Jvm.MethodName) ({ cls := "com/example/halozat/halozat/node/Leader", name := "far", desc := "()Z" } : Jvm.MethodName)).before a0 Z = true := hw _ (List.mem_of_getElem? (i := 59) rfl)
theorem ow60 {Z : State} {a0 : Array Value} (hw : ∀ d ∈ tables_1, d.before a0 Z = true) : (Jvm.Cond.code ({ cls := "com/example/halozat/halozat/node/Leader", name := "far", desc := "()Z" } : Jvm.MethodName) prog_81_method_6_code (1 : Nat) (Option.some Jvm.ClassFile.FieldType.boolean)).before a0 Z = true := hw _ (List.mem_of_getElem? (i := 60) rfl)
theorem ow61 {Z : State} {a0 : Array Value} (hw : ∀ d ∈ tables_1, d.before a0 Z = true) : (Jvm.Cond.fieldLink "com/example/halozat/halozat/node/Leader" (33 : Nat) "com/example/halozat/halozat/node/Leader" "far" "Z").before a0 Z = true := hw _ (List.mem_of_getElem? (i := 61) rfl)
theorem ow62 {Z : State} {a0 : Array Value} (hw : ∀ d ∈ tables_1, d.before a0 Z = true) : (Jvm.Cond.lays "com/example/halozat/halozat/node/Leader" "com/example/halozat/halozat/node/Leader" "far" "Z").before a0 Z = true := hw _ (List.mem_of_getElem? (i := 62) rfl)
theorem ow63 {Z : State} {a0 : Array Value} (hw : ∀ d ∈ tables_1, d.before a0 Z = true) : (Jvm.Cond.constantLong "com/example/halozat/halozat/node/Leader" (37 : Nat) (1000 : Int64)).before a0 Z = true := hw _ (List.mem_of_getElem? (i := 63) rfl)
theorem ow64 {Z : State} {a0 : Array Value} (hw : ∀ d ∈ tables_1, d.before a0 Z = true) : (Jvm.Cond.constantLong "com/example/halozat/halozat/node/LeaderHeartbeatPinLaw" (45 : Nat) (5000 : Int64)).before a0 Z = true := hw _ (List.mem_of_getElem? (i := 64) rfl)
theorem ow65 {Z : State} {a0 : Array Value} (hw : ∀ d ∈ tables_1, d.before a0 Z = true) : (Jvm.Cond.constantLong "com/example/halozat/halozat/node/LeaderHeartbeatPinLaw" (47 : Nat) (1000 : Int64)).before a0 Z = true := hw _ (List.mem_of_getElem? (i := 65) rfl)
theorem ow66 {Z : State} {a0 : Array Value} (hw : ∀ d ∈ tables_1, d.before a0 Z = true) : (Jvm.Cond.fieldLink "com/example/halozat/halozat/node/Leader" (39 : Nat) "com/example/halozat/halozat/node/Leader" "droppedBeat" "I").before a0 Z = true := hw _ (List.mem_of_getElem? (i := 66) rfl)
theorem ow67 {Z : State} {a0 : Array Value} (hw : ∀ d ∈ tables_1, d.before a0 Z = true) : (Jvm.Cond.lays "com/example/halozat/halozat/node/Leader" "com/example/halozat/halozat/node/Leader" "droppedBeat" "I").before a0 Z = true := hw _ (List.mem_of_getElem? (i := 67) rfl)
theorem ow68 {Z : State} {a0 : Array Value} (hw : ∀ d ∈ tables_1, d.before a0 Z = true) : (Jvm.Cond.constantLong "com/example/halozat/halozat/node/Leader" (44 : Nat) (2500 : Int64)).before a0 Z = true := hw _ (List.mem_of_getElem? (i := 68) rfl)
theorem ow69 {Z : State} {a0 : Array Value} (hw : ∀ d ∈ tables_1, d.before a0 Z = true) : (Jvm.Cond.constantLong "com/example/halozat/halozat/node/LeaderHeartbeatPinLaw" (49 : Nat) (2500 : Int64)).before a0 Z = true := hw _ (List.mem_of_getElem? (i := 69) rfl)
theorem own_ifc {α : Type} {c d : Prop} {ic : Decidable c} {jd : Decidable d} {x y u v : α} (h : c ↔ d) (h1 : x = u) (h2 : y = v) : (if c then x else y) = (if d then u else v) := by
  subst h1; subst h2
  by_cases q : c
  · rw [if_pos q, if_pos (h.mp q)]
  · rw [if_neg q, if_neg (fun r => q (h.mpr r))]
theorem d1_0 : decode prog_81_method_1_code 0 = .ok (.aload_n 0, 1) := by decide +kernel
theorem d1_1 : decode prog_81_method_1_code 1 = .ok (.invokespecial 3, 3) := by decide +kernel
theorem d1_4 : decode prog_81_method_1_code 4 = .ok (.aload_n 0, 1) := by decide +kernel
theorem d1_5 : decode prog_81_method_1_code 5 = .ok (.iconst (-1), 1) := by decide +kernel
theorem d1_6 : decode prog_81_method_1_code 6 = .ok (.putfield 9, 3) := by decide +kernel
theorem d1_9 : decode prog_81_method_1_code 9 = .ok (.aload_n 0, 1) := by decide +kernel
theorem d1_10 : decode prog_81_method_1_code 10 = .ok (.ldc2_w 15, 3) := by decide +kernel
theorem d1_13 : decode prog_81_method_1_code 13 = .ok (.putfield 17, 3) := by decide +kernel
theorem d1_16 : decode prog_81_method_1_code 16 = .ok (.aload_n 0, 1) := by decide +kernel
theorem d1_17 : decode prog_81_method_1_code 17 = .ok (.iload_n 1, 1) := by decide +kernel
theorem d1_18 : decode prog_81_method_1_code 18 = .ok (.putfield 21, 3) := by decide +kernel
theorem d1_21 : decode prog_81_method_1_code 21 = .ok (.aload_n 0, 1) := by decide +kernel
theorem d1_22 : decode prog_81_method_1_code 22 = .ok (.lload_n 2, 1) := by decide +kernel
theorem d1_23 : decode prog_81_method_1_code 23 = .ok (.putfield 24, 3) := by decide +kernel
theorem d1_26 : decode prog_81_method_1_code 26 = .ok (.aload_n 0, 1) := by decide +kernel
theorem d1_27 : decode prog_81_method_1_code 27 = .ok (.lload_n 2, 1) := by decide +kernel
theorem d1_28 : decode prog_81_method_1_code 28 = .ok (.putfield 27, 3) := by decide +kernel
theorem d1_31 : decode prog_81_method_1_code 31 = .ok (.return_, 1) := by decide +kernel
theorem pn_1 : plainName "com/example/halozat/halozat/node/Leader" = true := by first | (simp [plainName, overriddenIn]; done) | decide +kernel
theorem ef_rm1 (m : MethodId) (y0 : Addr) (y1 : Int32) (y2 : Int64) : entryFrame m #[(.ref y0), (.int y1), (.long y2)] 4 = mkF m 0 #[.val (.ref y0), .val (.int y1), .val (.long y2), .second] [] := by first | (simp [entryFrame, mkF, argsToLocals, Value.category]; done) | rfl
def Q_rm1 (Z : State) (a1_0 : Addr) (p1_1 : Int32) (q1_2 : Int64) (w_dropped_a1_0 : Int32) (w_checkAt_a1_0 : Int64) (w_node_a1_0 : Int32) (w_raisedAt_a1_0 : Int64) (w_since_a1_0 : Int64) (w_beat_a1_0 : Int32) (w_far_a1_0 : Int32) (w_droppedBeat_a1_0 : Int32) (h0 : Heap) (n0 : Nat) (v : Option Value) (h : Heap) (L : List Loc) : Prop := v = none ∧ Fr n0 L ∧ Keep h0 h [a1_0] ∧ Exa Z h a1_0 "com/example/halozat/halozat/node/Leader" ∧ Fld Z h a1_0 "com/example/halozat/halozat/node/Leader" "dropped" "I" (.int (-1 : Int32)) ∧ Fld Z h a1_0 "com/example/halozat/halozat/node/Leader" "checkAt" "J" (.long (9223372036854775807 : Int64)) ∧ Fld Z h a1_0 "com/example/halozat/halozat/node/Leader" "node" "I" (.int p1_1) ∧ Fld Z h a1_0 "com/example/halozat/halozat/node/Leader" "raisedAt" "J" (.long q1_2) ∧ Fld Z h a1_0 "com/example/halozat/halozat/node/Leader" "since" "J" (.long q1_2) ∧ Fld Z h a1_0 "com/example/halozat/halozat/node/Leader" "beat" "I" (.int w_beat_a1_0) ∧ Fld Z h a1_0 "com/example/halozat/halozat/node/Leader" "far" "Z" (.int w_far_a1_0) ∧ Fld Z h a1_0 "com/example/halozat/halozat/node/Leader" "droppedBeat" "I" (.int w_droppedBeat_a1_0)
set_option maxRecDepth 65536 in
set_option maxHeartbeats 40000000 in
theorem rm1 (l : Launch) (Z : State) (a0 : Array Value) (hw : ∀ d ∈ tables_1, d.before a0 Z = true) (ws : List Jvm.Cond) (a1_0 : Addr) (p1_1 : Int32) (q1_2 : Int64) (w_dropped_a1_0 : Int32) (w_checkAt_a1_0 : Int64) (w_node_a1_0 : Int32) (w_raisedAt_a1_0 : Int64) (w_since_a1_0 : Int64) (w_beat_a1_0 : Int32) (w_far_a1_0 : Int32) (w_droppedBeat_a1_0 : Int32) (h0 : Heap) (n0 : Nat) (Z0 : n0 ≤ h0.size) (E_a1_0 : Exa Z h0 a1_0 "com/example/halozat/halozat/node/Leader") (F_dropped_a1_0 : Fld Z h0 a1_0 "com/example/halozat/halozat/node/Leader" "dropped" "I" (.int w_dropped_a1_0)) (g_a1_0 : n0 ≤ a1_0) (F_checkAt_a1_0 : Fld Z h0 a1_0 "com/example/halozat/halozat/node/Leader" "checkAt" "J" (.long w_checkAt_a1_0)) (F_node_a1_0 : Fld Z h0 a1_0 "com/example/halozat/halozat/node/Leader" "node" "I" (.int w_node_a1_0)) (F_raisedAt_a1_0 : Fld Z h0 a1_0 "com/example/halozat/halozat/node/Leader" "raisedAt" "J" (.long w_raisedAt_a1_0)) (F_since_a1_0 : Fld Z h0 a1_0 "com/example/halozat/halozat/node/Leader" "since" "J" (.long w_since_a1_0)) (F_beat_a1_0 : Fld Z h0 a1_0 "com/example/halozat/halozat/node/Leader" "beat" "I" (.int w_beat_a1_0)) (F_far_a1_0 : Fld Z h0 a1_0 "com/example/halozat/halozat/node/Leader" "far" "Z" (.int w_far_a1_0)) (F_droppedBeat_a1_0 : Fld Z h0 a1_0 "com/example/halozat/halozat/node/Leader" "droppedBeat" "I" (.int w_droppedBeat_a1_0)) :
    MetFree l (⟨"com/example/halozat/halozat/node/Leader", "<init>", "(IJ)V"⟩ : MethodName) (head1 (Jvm.Cond.code (⟨"com/example/halozat/halozat/node/Leader", "<init>", "(IJ)V"⟩ : MethodName) prog_81_method_1_code 4 none :: ws) ({ frames := 1, cells := 0, slots := 0, locals := 12 } : Room)) (fun a U => a = #[(.ref a1_0), (.int p1_1), (.long q1_2)] ∧ Z.Warmed39 U.vm ∧ U.heap = h0) (fun _ _ _ _ _ => True) (fun _ U o U' => ∃ v L, o = .returned v ∧ Q_rm1 Z a1_0 p1_1 q1_2 w_dropped_a1_0 w_checkAt_a1_0 w_node_a1_0 w_raisedAt_a1_0 w_since_a1_0 w_beat_a1_0 w_far_a1_0 w_droppedBeat_a1_0 h0 n0 v U'.heap L ∧ FrameEnd U o U' L ({ frames := 1, cells := 0, slots := 0, locals := 12 } : Room).cells ({ frames := 1, cells := 0, slots := 0, locals := 12 } : Room).slots) := by
  refine MetFree.of_bodySF (plainFor_of_name pn_1) hisR ?_
  intro p e s m args below meth c s₁ Bd hml0 hP hK
  obtain ⟨rfl, hZ, hh⟩ := hP
  have hx := Bd.exec
  have hby := Bd.bytes
  have hml : c.maxLocals = 4 := hml0
  have hown : s.vm.findClass "com/example/halozat/halozat/node/Leader" = some m.cls := findClass_of_methodNamed Bd.named
  have hnm := (name_of_methodNamed Bd.named Bd.method).1
  have X0 : Stand p l e ({ frames := 1, cells := 0, slots := 0, locals := 12 } : Room) s m #[(.ref a1_0), (.int p1_1), (.long q1_2)] below meth c s₁ [] 0 0 := Stand.of_body Bd
  have e0 : s₁.heap = h0 := by rw [← hh, Bd.state]; rfl
  have N0 := Fr.nil n0
  have pre0 : ∀ t, Steps p.tables e below (s₁.setTop (mkF m 0 #[.val (.ref a1_0), .val (.int p1_1), .val (.long q1_2), .second] [])) t → Steps p.tables e below (s₁.setTop (entryFrame m #[(.ref a1_0), (.int p1_1), (.long q1_2)] 4)) t := fun t k => castTop (ef_rm1 m a1_0 p1_1 q1_2) k
  obtain ⟨T1, X1, e1, st1⟩ := initO X0 hx hZ hown (ow9 hw) (ow10 hw) (ow11 hw) e0 (g := (mkF m 1 #[.val (.ref a1_0), .val (.int p1_1), .val (.long q1_2), .second] [(.ref a1_0)])) rfl (by rw [hml]; rfl) rfl (hb hby d1_1) (by decide) (W := 0) (by show 2 * 0 + _ ≤ _; exact Nat.le_of_eq rfl) (by decide)
  obtain ⟨T2, h2, X2, e2, W2, st2⟩ := putF X1 hx hZ hown (host := "") (Or.inl (ow12 hw)) Via.refl e1 F_dropped_a1_0 E_a1_0 (Or.inl (ow13 hw)) (ow4 hw) (ty := .int) (by decide) rfl rfl (g := (mkF m 6 #[.val (.ref a1_0), .val (.int p1_1), .val (.long q1_2), .second] [(.int (-1 : Int32)), (.ref a1_0)])) rfl rfl (hb hby d1_6)
  have F2 := F_dropped_a1_0.same W2
  have K2 : Keep h0 h2 [a1_0] := (Keep.refl h0 [a1_0]).wr W2 (Or.inl (List.mem_of_getElem? (i := 0) rfl))
  have Z2 : n0 ≤ h2.size := Nat.le_trans Z0 K2.1
  have N2 := Fr.snoc X2 N0 g_a1_0
  have f3 := (E_a1_0.wr W2)
  have f4 := (F_checkAt_a1_0.other W2 (Or.inr (slot_ne (Or.inl (ow16 hw)) (Or.inl (ow13 hw)) (by decide) (t := .long) (t' := .int) (by decide) (by decide))))
  obtain ⟨T5, h5, X5, e5, W5, st5⟩ := putF X2 hx hZ hown (host := "") (Or.inl (ow15 hw)) Via.refl e2 f4 f3 (Or.inl (ow16 hw)) (ow4 hw) (ty := .long) (by decide) rfl rfl (g := (mkF m 13 #[.val (.ref a1_0), .val (.int p1_1), .val (.long q1_2), .second] [(.long (9223372036854775807 : Int64)), (.ref a1_0)])) rfl rfl (hb hby d1_13)
  have F5 := f4.same W5
  have K5 : Keep h0 h5 [a1_0] := K2.wr W5 (Or.inl (List.mem_of_getElem? (i := 0) rfl))
  have Z5 : n0 ≤ h5.size := Nat.le_trans Z0 K5.1
  have N5 := Fr.snoc X5 N2 g_a1_0
  have f6 := (f3.wr W5)
  have f7 := ((F_node_a1_0.other W2 (Or.inr (slot_ne (Or.inl (ow18 hw)) (Or.inl (ow13 hw)) (by decide) (t := .int) (t' := .int) (by decide) (by decide)))).other W5 (Or.inr (slot_ne (Or.inl (ow18 hw)) (Or.inl (ow16 hw)) (by decide) (t := .int) (t' := .long) (by decide) (by decide))))
  obtain ⟨T8, h8, X8, e8, W8, st8⟩ := putF X5 hx hZ hown (host := "") (Or.inl (ow17 hw)) Via.refl e5 f7 f6 (Or.inl (ow18 hw)) (ow4 hw) (ty := .int) (by decide) rfl rfl (g := (mkF m 18 #[.val (.ref a1_0), .val (.int p1_1), .val (.long q1_2), .second] [(.int p1_1), (.ref a1_0)])) rfl rfl (hb hby d1_18)
  have F8 := f7.same W8
  have K8 : Keep h0 h8 [a1_0] := K5.wr W8 (Or.inl (List.mem_of_getElem? (i := 0) rfl))
  have Z8 : n0 ≤ h8.size := Nat.le_trans Z0 K8.1
  have N8 := Fr.snoc X8 N5 g_a1_0
  have f9 := (f6.wr W8)
  have f10 := (((F_raisedAt_a1_0.other W2 (Or.inr (slot_ne (Or.inl (ow20 hw)) (Or.inl (ow13 hw)) (by decide) (t := .long) (t' := .int) (by decide) (by decide)))).other W5 (Or.inr (slot_ne (Or.inl (ow20 hw)) (Or.inl (ow16 hw)) (by decide) (t := .long) (t' := .long) (by decide) (by decide)))).other W8 (Or.inr (slot_ne (Or.inl (ow20 hw)) (Or.inl (ow18 hw)) (by decide) (t := .long) (t' := .int) (by decide) (by decide))))
  obtain ⟨T11, h11, X11, e11, W11, st11⟩ := putF X8 hx hZ hown (host := "") (Or.inl (ow19 hw)) Via.refl e8 f10 f9 (Or.inl (ow20 hw)) (ow4 hw) (ty := .long) (by decide) rfl rfl (g := (mkF m 23 #[.val (.ref a1_0), .val (.int p1_1), .val (.long q1_2), .second] [(.long q1_2), (.ref a1_0)])) rfl rfl (hb hby d1_23)
  have F11 := f10.same W11
  have K11 : Keep h0 h11 [a1_0] := K8.wr W11 (Or.inl (List.mem_of_getElem? (i := 0) rfl))
  have Z11 : n0 ≤ h11.size := Nat.le_trans Z0 K11.1
  have N11 := Fr.snoc X11 N8 g_a1_0
  have f12 := (f9.wr W11)
  have f13 := ((((F_since_a1_0.other W2 (Or.inr (slot_ne (Or.inl (ow22 hw)) (Or.inl (ow13 hw)) (by decide) (t := .long) (t' := .int) (by decide) (by decide)))).other W5 (Or.inr (slot_ne (Or.inl (ow22 hw)) (Or.inl (ow16 hw)) (by decide) (t := .long) (t' := .long) (by decide) (by decide)))).other W8 (Or.inr (slot_ne (Or.inl (ow22 hw)) (Or.inl (ow18 hw)) (by decide) (t := .long) (t' := .int) (by decide) (by decide)))).other W11 (Or.inr (slot_ne (Or.inl (ow22 hw)) (Or.inl (ow20 hw)) (by decide) (t := .long) (t' := .long) (by decide) (by decide))))
  obtain ⟨T14, h14, X14, e14, W14, st14⟩ := putF X11 hx hZ hown (host := "") (Or.inl (ow21 hw)) Via.refl e11 f13 f12 (Or.inl (ow22 hw)) (ow4 hw) (ty := .long) (by decide) rfl rfl (g := (mkF m 28 #[.val (.ref a1_0), .val (.int p1_1), .val (.long q1_2), .second] [(.long q1_2), (.ref a1_0)])) rfl rfl (hb hby d1_28)
  have F14 := f13.same W14
  have K14 : Keep h0 h14 [a1_0] := K11.wr W14 (Or.inl (List.mem_of_getElem? (i := 0) rfl))
  have Z14 : n0 ≤ h14.size := Nat.le_trans Z0 K14.1
  have N14 := Fr.snoc X14 N11 g_a1_0
  obtain ⟨fs, hr, hrun, hended, hW, hsame⟩ := X14.leave (v := none) (fun _ => rfl)
  refine ⟨_, _, pre0 _ ?_, hrun, hended, _, _, rfl, ?_, ⟨_, rfl⟩, hW, hsame.mono (by decide) (by decide)⟩
  · show Steps p.tables e below (s₁.setTop (mkF m 0 #[.val (.ref a1_0), .val (.int p1_1), .val (.long q1_2), .second] [])) _
    refine XS.aloadN X0.here hx rfl (hb hby d1_0) rfl rfl ?_
    show Steps p.tables e below (s₁.setTop (mkF m 1 #[.val (.ref a1_0), .val (.int p1_1), .val (.long q1_2), .second] [(.ref a1_0)])) _
    refine st1 _ ?_
    show Steps p.tables e below (T1.setTop (mkF m 4 #[.val (.ref a1_0), .val (.int p1_1), .val (.long q1_2), .second] [])) _
    refine XS.aloadN X1.here hx rfl (hb hby d1_4) rfl rfl ?_
    show Steps p.tables e below (T1.setTop (mkF m 5 #[.val (.ref a1_0), .val (.int p1_1), .val (.long q1_2), .second] [(.ref a1_0)])) _
    refine XS.iconst X1.here hx rfl (hb hby d1_5) ?_
    show Steps p.tables e below (T1.setTop (mkF m 6 #[.val (.ref a1_0), .val (.int p1_1), .val (.long q1_2), .second] [(.int (-1 : Int32)), (.ref a1_0)])) _
    refine st2 _ ?_
    show Steps p.tables e below (T2.setTop (mkF m 9 #[.val (.ref a1_0), .val (.int p1_1), .val (.long q1_2), .second] [])) _
    refine XS.aloadN X2.here hx rfl (hb hby d1_9) rfl rfl ?_
    show Steps p.tables e below (T2.setTop (mkF m 10 #[.val (.ref a1_0), .val (.int p1_1), .val (.long q1_2), .second] [(.ref a1_0)])) _
    refine X2.ldc2Long hx hown (mvT hZ (ow14 hw)) (g := (mkF m 10 #[.val (.ref a1_0), .val (.int p1_1), .val (.long q1_2), .second] [(.ref a1_0)])) rfl (hb hby d1_10) _ ?_
    show Steps p.tables e below (T2.setTop (mkF m 13 #[.val (.ref a1_0), .val (.int p1_1), .val (.long q1_2), .second] [(.long (9223372036854775807 : Int64)), (.ref a1_0)])) _
    refine st5 _ ?_
    show Steps p.tables e below (T5.setTop (mkF m 16 #[.val (.ref a1_0), .val (.int p1_1), .val (.long q1_2), .second] [])) _
    refine XS.aloadN X5.here hx rfl (hb hby d1_16) rfl rfl ?_
    show Steps p.tables e below (T5.setTop (mkF m 17 #[.val (.ref a1_0), .val (.int p1_1), .val (.long q1_2), .second] [(.ref a1_0)])) _
    refine XS.iloadN X5.here hx rfl (hb hby d1_17) rfl ?_
    show Steps p.tables e below (T5.setTop (mkF m 18 #[.val (.ref a1_0), .val (.int p1_1), .val (.long q1_2), .second] [(.int p1_1), (.ref a1_0)])) _
    refine st8 _ ?_
    show Steps p.tables e below (T8.setTop (mkF m 21 #[.val (.ref a1_0), .val (.int p1_1), .val (.long q1_2), .second] [])) _
    refine XS.aloadN X8.here hx rfl (hb hby d1_21) rfl rfl ?_
    show Steps p.tables e below (T8.setTop (mkF m 22 #[.val (.ref a1_0), .val (.int p1_1), .val (.long q1_2), .second] [(.ref a1_0)])) _
    refine XS.lloadN X8.here hx rfl (hb hby d1_22) rfl ?_
    show Steps p.tables e below (T8.setTop (mkF m 23 #[.val (.ref a1_0), .val (.int p1_1), .val (.long q1_2), .second] [(.long q1_2), (.ref a1_0)])) _
    refine st11 _ ?_
    show Steps p.tables e below (T11.setTop (mkF m 26 #[.val (.ref a1_0), .val (.int p1_1), .val (.long q1_2), .second] [])) _
    refine XS.aloadN X11.here hx rfl (hb hby d1_26) rfl rfl ?_
    show Steps p.tables e below (T11.setTop (mkF m 27 #[.val (.ref a1_0), .val (.int p1_1), .val (.long q1_2), .second] [(.ref a1_0)])) _
    refine XS.lloadN X11.here hx rfl (hb hby d1_27) rfl ?_
    show Steps p.tables e below (T11.setTop (mkF m 28 #[.val (.ref a1_0), .val (.int p1_1), .val (.long q1_2), .second] [(.long q1_2), (.ref a1_0)])) _
    refine st14 _ ?_
    show Steps p.tables e below (T14.setTop (mkF m 31 #[.val (.ref a1_0), .val (.int p1_1), .val (.long q1_2), .second] [])) _
    exact X14.returnOut hx Bd.returns (hb hby d1_31) hr
  · have f15 := (f12.wr W14)
    have f16 := ((((F2.other W5 (Or.inr (slot_ne (Or.inl (ow13 hw)) (Or.inl (ow16 hw)) (by decide) (t := .int) (t' := .long) (by decide) (by decide)))).other W8 (Or.inr (slot_ne (Or.inl (ow13 hw)) (Or.inl (ow18 hw)) (by decide) (t := .int) (t' := .int) (by decide) (by decide)))).other W11 (Or.inr (slot_ne (Or.inl (ow13 hw)) (Or.inl (ow20 hw)) (by decide) (t := .int) (t' := .long) (by decide) (by decide)))).other W14 (Or.inr (slot_ne (Or.inl (ow13 hw)) (Or.inl (ow22 hw)) (by decide) (t := .int) (t' := .long) (by decide) (by decide))))
    have f17 := (((F5.other W8 (Or.inr (slot_ne (Or.inl (ow16 hw)) (Or.inl (ow18 hw)) (by decide) (t := .long) (t' := .int) (by decide) (by decide)))).other W11 (Or.inr (slot_ne (Or.inl (ow16 hw)) (Or.inl (ow20 hw)) (by decide) (t := .long) (t' := .long) (by decide) (by decide)))).other W14 (Or.inr (slot_ne (Or.inl (ow16 hw)) (Or.inl (ow22 hw)) (by decide) (t := .long) (t' := .long) (by decide) (by decide))))
    have f18 := ((F8.other W11 (Or.inr (slot_ne (Or.inl (ow18 hw)) (Or.inl (ow20 hw)) (by decide) (t := .int) (t' := .long) (by decide) (by decide)))).other W14 (Or.inr (slot_ne (Or.inl (ow18 hw)) (Or.inl (ow22 hw)) (by decide) (t := .int) (t' := .long) (by decide) (by decide))))
    have f19 := (F11.other W14 (Or.inr (slot_ne (Or.inl (ow20 hw)) (Or.inl (ow22 hw)) (by decide) (t := .long) (t' := .long) (by decide) (by decide))))
    have f20 := (((((F_beat_a1_0.other W2 (Or.inr (slot_ne (Or.inl (ow35 hw)) (Or.inl (ow13 hw)) (by decide) (t := .int) (t' := .int) (by decide) (by decide)))).other W5 (Or.inr (slot_ne (Or.inl (ow35 hw)) (Or.inl (ow16 hw)) (by decide) (t := .int) (t' := .long) (by decide) (by decide)))).other W8 (Or.inr (slot_ne (Or.inl (ow35 hw)) (Or.inl (ow18 hw)) (by decide) (t := .int) (t' := .int) (by decide) (by decide)))).other W11 (Or.inr (slot_ne (Or.inl (ow35 hw)) (Or.inl (ow20 hw)) (by decide) (t := .int) (t' := .long) (by decide) (by decide)))).other W14 (Or.inr (slot_ne (Or.inl (ow35 hw)) (Or.inl (ow22 hw)) (by decide) (t := .int) (t' := .long) (by decide) (by decide))))
    have f21 := (((((F_far_a1_0.other W2 (Or.inr (slot_ne (Or.inl (ow62 hw)) (Or.inl (ow13 hw)) (by decide) (t := .boolean) (t' := .int) (by decide) (by decide)))).other W5 (Or.inr (slot_ne (Or.inl (ow62 hw)) (Or.inl (ow16 hw)) (by decide) (t := .boolean) (t' := .long) (by decide) (by decide)))).other W8 (Or.inr (slot_ne (Or.inl (ow62 hw)) (Or.inl (ow18 hw)) (by decide) (t := .boolean) (t' := .int) (by decide) (by decide)))).other W11 (Or.inr (slot_ne (Or.inl (ow62 hw)) (Or.inl (ow20 hw)) (by decide) (t := .boolean) (t' := .long) (by decide) (by decide)))).other W14 (Or.inr (slot_ne (Or.inl (ow62 hw)) (Or.inl (ow22 hw)) (by decide) (t := .boolean) (t' := .long) (by decide) (by decide))))
    have f22 := (((((F_droppedBeat_a1_0.other W2 (Or.inr (slot_ne (Or.inl (ow67 hw)) (Or.inl (ow13 hw)) (by decide) (t := .int) (t' := .int) (by decide) (by decide)))).other W5 (Or.inr (slot_ne (Or.inl (ow67 hw)) (Or.inl (ow16 hw)) (by decide) (t := .int) (t' := .long) (by decide) (by decide)))).other W8 (Or.inr (slot_ne (Or.inl (ow67 hw)) (Or.inl (ow18 hw)) (by decide) (t := .int) (t' := .int) (by decide) (by decide)))).other W11 (Or.inr (slot_ne (Or.inl (ow67 hw)) (Or.inl (ow20 hw)) (by decide) (t := .int) (t' := .long) (by decide) (by decide)))).other W14 (Or.inr (slot_ne (Or.inl (ow67 hw)) (Or.inl (ow22 hw)) (by decide) (t := .int) (t' := .long) (by decide) (by decide))))
    show Q_rm1 Z a1_0 p1_1 q1_2 w_dropped_a1_0 w_checkAt_a1_0 w_node_a1_0 w_raisedAt_a1_0 w_since_a1_0 w_beat_a1_0 w_far_a1_0 w_droppedBeat_a1_0 h0 n0 _ T14.heap _
    rw [e14]
    exact ⟨rfl, N14, K14, f15, f16, f17, f18, f19, F14, f20, f21, f22⟩
theorem d3_0 : decode prog_81_method_8_code 0 = .ok (.iload_n 1, 1) := by decide +kernel
theorem d3_1 : decode prog_81_method_8_code 1 = .ok (.aload_n 0, 1) := by decide +kernel
theorem d3_2 : decode prog_81_method_8_code 2 = .ok (.getfield 9, 3) := by decide +kernel
theorem d3_5 : decode prog_81_method_8_code 5 = .ok (.if_icmp .ne 15, 3) := by decide +kernel
theorem d3_8 : decode prog_81_method_8_code 8 = .ok (.iload_n 2, 1) := by decide +kernel
theorem d3_9 : decode prog_81_method_8_code 9 = .ok (.aload_n 0, 1) := by decide +kernel
theorem d3_10 : decode prog_81_method_8_code 10 = .ok (.getfield 39, 3) := by decide +kernel
theorem d3_13 : decode prog_81_method_8_code 13 = .ok (.if_icmp .gt 7, 3) := by decide +kernel
theorem d3_16 : decode prog_81_method_8_code 16 = .ok (.iconst 1, 1) := by decide +kernel
theorem d3_17 : decode prog_81_method_8_code 17 = .ok (.goto 4, 3) := by decide +kernel
theorem d3_20 : decode prog_81_method_8_code 20 = .ok (.iconst 0, 1) := by decide +kernel
theorem d3_21 : decode prog_81_method_8_code 21 = .ok (.istore 7, 2) := by decide +kernel
theorem d3_23 : decode prog_81_method_8_code 23 = .ok (.lload_n 3, 1) := by decide +kernel
theorem d3_24 : decode prog_81_method_8_code 24 = .ok (.ldc2_w 42, 3) := by decide +kernel
theorem d3_27 : decode prog_81_method_8_code 27 = .ok (.lcmp, 1) := by decide +kernel
theorem d3_28 : decode prog_81_method_8_code 28 = .ok (.ifCond .ge 20, 3) := by decide +kernel
theorem d3_31 : decode prog_81_method_8_code 31 = .ok (.iload_n 1, 1) := by decide +kernel
theorem d3_32 : decode prog_81_method_8_code 32 = .ok (.aload_n 0, 1) := by decide +kernel
theorem d3_33 : decode prog_81_method_8_code 33 = .ok (.getfield 21, 3) := by decide +kernel
theorem d3_36 : decode prog_81_method_8_code 36 = .ok (.if_icmp .ge 12, 3) := by decide +kernel
theorem d3_39 : decode prog_81_method_8_code 39 = .ok (.iload 7, 2) := by decide +kernel
theorem d3_41 : decode prog_81_method_8_code 41 = .ok (.ifCond .ne 7, 3) := by decide +kernel
theorem d3_44 : decode prog_81_method_8_code 44 = .ok (.iconst 1, 1) := by decide +kernel
theorem d3_45 : decode prog_81_method_8_code 45 = .ok (.goto 4, 3) := by decide +kernel
theorem d3_48 : decode prog_81_method_8_code 48 = .ok (.iconst 0, 1) := by decide +kernel
theorem d3_49 : decode prog_81_method_8_code 49 = .ok (.istore 8, 2) := by decide +kernel
theorem d3_51 : decode prog_81_method_8_code 51 = .ok (.iload_n 1, 1) := by decide +kernel
theorem d3_52 : decode prog_81_method_8_code 52 = .ok (.aload_n 0, 1) := by decide +kernel
theorem d3_53 : decode prog_81_method_8_code 53 = .ok (.getfield 21, 3) := by decide +kernel
theorem d3_56 : decode prog_81_method_8_code 56 = .ok (.if_icmp .ne 15, 3) := by decide +kernel
theorem d3_59 : decode prog_81_method_8_code 59 = .ok (.iload_n 2, 1) := by decide +kernel
theorem d3_60 : decode prog_81_method_8_code 60 = .ok (.aload_n 0, 1) := by decide +kernel
theorem d3_61 : decode prog_81_method_8_code 61 = .ok (.getfield 30, 3) := by decide +kernel
theorem d3_64 : decode prog_81_method_8_code 64 = .ok (.if_icmp .le 7, 3) := by decide +kernel
theorem d3_67 : decode prog_81_method_8_code 67 = .ok (.iconst 1, 1) := by decide +kernel
theorem d3_68 : decode prog_81_method_8_code 68 = .ok (.goto 4, 3) := by decide +kernel
theorem d3_71 : decode prog_81_method_8_code 71 = .ok (.iconst 0, 1) := by decide +kernel
theorem d3_72 : decode prog_81_method_8_code 72 = .ok (.istore 9, 2) := by decide +kernel
theorem d3_74 : decode prog_81_method_8_code 74 = .ok (.iload 8, 2) := by decide +kernel
theorem d3_76 : decode prog_81_method_8_code 76 = .ok (.ifCond .ne 8, 3) := by decide +kernel
theorem d3_79 : decode prog_81_method_8_code 79 = .ok (.iload 9, 2) := by decide +kernel
theorem d3_81 : decode prog_81_method_8_code 81 = .ok (.ifCond .eq 21, 3) := by decide +kernel
theorem d3_84 : decode prog_81_method_8_code 84 = .ok (.aload_n 0, 1) := by decide +kernel
theorem d3_85 : decode prog_81_method_8_code 85 = .ok (.iload_n 1, 1) := by decide +kernel
theorem d3_86 : decode prog_81_method_8_code 86 = .ok (.putfield 21, 3) := by decide +kernel
theorem d3_89 : decode prog_81_method_8_code 89 = .ok (.aload_n 0, 1) := by decide +kernel
theorem d3_90 : decode prog_81_method_8_code 90 = .ok (.iload_n 2, 1) := by decide +kernel
theorem d3_91 : decode prog_81_method_8_code 91 = .ok (.putfield 30, 3) := by decide +kernel
theorem d3_94 : decode prog_81_method_8_code 94 = .ok (.aload_n 0, 1) := by decide +kernel
theorem d3_95 : decode prog_81_method_8_code 95 = .ok (.lload 5, 2) := by decide +kernel
theorem d3_97 : decode prog_81_method_8_code 97 = .ok (.lload_n 3, 1) := by decide +kernel
theorem d3_98 : decode prog_81_method_8_code 98 = .ok (.lsub, 1) := by decide +kernel
theorem d3_99 : decode prog_81_method_8_code 99 = .ok (.putfield 24, 3) := by decide +kernel
theorem d3_102 : decode prog_81_method_8_code 102 = .ok (.iload 8, 2) := by decide +kernel
theorem d3_104 : decode prog_81_method_8_code 104 = .ok (.ifCond .eq 19, 3) := by decide +kernel
theorem d3_107 : decode prog_81_method_8_code 107 = .ok (.aload_n 0, 1) := by decide +kernel
theorem d3_108 : decode prog_81_method_8_code 108 = .ok (.lload 5, 2) := by decide +kernel
theorem d3_110 : decode prog_81_method_8_code 110 = .ok (.putfield 27, 3) := by decide +kernel
theorem d3_113 : decode prog_81_method_8_code 113 = .ok (.aload_n 0, 1) := by decide +kernel
theorem d3_114 : decode prog_81_method_8_code 114 = .ok (.lload 5, 2) := by decide +kernel
theorem d3_116 : decode prog_81_method_8_code 116 = .ok (.ldc2_w 37, 3) := by decide +kernel
theorem d3_119 : decode prog_81_method_8_code 119 = .ok (.ladd, 1) := by decide +kernel
theorem d3_120 : decode prog_81_method_8_code 120 = .ok (.putfield 17, 3) := by decide +kernel
theorem d3_123 : decode prog_81_method_8_code 123 = .ok (.iload 8, 2) := by decide +kernel
theorem d3_125 : decode prog_81_method_8_code 125 = .ok (.ireturn, 1) := by decide +kernel
theorem pn_3 : plainName "com/example/halozat/halozat/node/Leader" = true := by first | (simp [plainName, overriddenIn]; done) | decide +kernel
theorem ef_rm3 (m : MethodId) (y0 : Addr) (y1 : Int32) (y2 : Int32) (y3 : Int64) (y4 : Int64) : entryFrame m #[(.ref y0), (.int y1), (.int y2), (.long y3), (.long y4)] 10 = mkF m 0 #[.val (.ref y0), .val (.int y1), .val (.int y2), .val (.long y3), .second, .val (.long y4), .second, .unset, .unset, .unset] [] := by first | (simp [entryFrame, mkF, argsToLocals, Value.category]; done) | rfl
def Q_rm3 (Z : State) (a3_0 : Addr) (p3_1 : Int32) (p3_2 : Int32) (q3_3 : Int64) (q3_4 : Int64) (w_dropped_a3_0 : Int32) (w_droppedBeat_a3_0 : Int32) (w_node_a3_0 : Int32) (w_beat_a3_0 : Int32) (w_raisedAt_a3_0 : Int64) (w_since_a3_0 : Int64) (w_checkAt_a3_0 : Int64) (w_far_a3_0 : Int32) (h0 : Heap) (n0 : Nat) (v : Option Value) (h : Heap) (L : List Loc) : Prop := v = some (.int (if (q3_3 < (5000 : Int64) ∧ (p3_1 < w_node_a3_0 ∧ ¬ ((p3_1 = w_dropped_a3_0 ∧ ¬ (w_droppedBeat_a3_0 < p3_2))))) then (1 : Int32) else (0 : Int32))) ∧ Fr n0 L ∧ Keep h0 h [a3_0] ∧ Fld Z h a3_0 "com/example/halozat/halozat/node/Leader" "dropped" "I" (.int w_dropped_a3_0) ∧ Fld Z h a3_0 "com/example/halozat/halozat/node/Leader" "node" "I" (.int (if (q3_3 < (5000 : Int64) ∧ (p3_1 < w_node_a3_0 ∧ ¬ ((p3_1 = w_dropped_a3_0 ∧ ¬ (w_droppedBeat_a3_0 < p3_2))))) then p3_1 else (if (p3_1 = w_node_a3_0 ∧ w_beat_a3_0 < p3_2) then p3_1 else w_node_a3_0))) ∧ Exa Z h a3_0 "com/example/halozat/halozat/node/Leader" ∧ Fld Z h a3_0 "com/example/halozat/halozat/node/Leader" "beat" "I" (.int (if (q3_3 < (5000 : Int64) ∧ (p3_1 < w_node_a3_0 ∧ ¬ ((p3_1 = w_dropped_a3_0 ∧ ¬ (w_droppedBeat_a3_0 < p3_2))))) then p3_2 else (if (p3_1 = w_node_a3_0 ∧ w_beat_a3_0 < p3_2) then p3_2 else w_beat_a3_0))) ∧ Fld Z h a3_0 "com/example/halozat/halozat/node/Leader" "raisedAt" "J" (.long (if (q3_3 < (5000 : Int64) ∧ (p3_1 < w_node_a3_0 ∧ ¬ ((p3_1 = w_dropped_a3_0 ∧ ¬ (w_droppedBeat_a3_0 < p3_2))))) then (q3_4 - q3_3) else (if (p3_1 = w_node_a3_0 ∧ w_beat_a3_0 < p3_2) then (q3_4 - q3_3) else w_raisedAt_a3_0))) ∧ Fld Z h a3_0 "com/example/halozat/halozat/node/Leader" "since" "J" (.long (if (q3_3 < (5000 : Int64) ∧ (p3_1 < w_node_a3_0 ∧ ¬ ((p3_1 = w_dropped_a3_0 ∧ ¬ (w_droppedBeat_a3_0 < p3_2))))) then q3_4 else w_since_a3_0)) ∧ Fld Z h a3_0 "com/example/halozat/halozat/node/Leader" "checkAt" "J" (.long (if (q3_3 < (5000 : Int64) ∧ (p3_1 < w_node_a3_0 ∧ ¬ ((p3_1 = w_dropped_a3_0 ∧ ¬ (w_droppedBeat_a3_0 < p3_2))))) then (q3_4 + (1000 : Int64)) else w_checkAt_a3_0)) ∧ Fld Z h a3_0 "com/example/halozat/halozat/node/Leader" "droppedBeat" "I" (.int w_droppedBeat_a3_0) ∧ Fld Z h a3_0 "com/example/halozat/halozat/node/Leader" "far" "Z" (.int w_far_a3_0)
set_option maxRecDepth 65536 in
set_option maxHeartbeats 40000000 in
theorem rm3 (l : Launch) (Z : State) (a0 : Array Value) (hw : ∀ d ∈ tables_1, d.before a0 Z = true) (ws : List Jvm.Cond) (a3_0 : Addr) (p3_1 : Int32) (p3_2 : Int32) (q3_3 : Int64) (q3_4 : Int64) (w_dropped_a3_0 : Int32) (w_droppedBeat_a3_0 : Int32) (w_node_a3_0 : Int32) (w_beat_a3_0 : Int32) (w_raisedAt_a3_0 : Int64) (w_since_a3_0 : Int64) (w_checkAt_a3_0 : Int64) (w_far_a3_0 : Int32) (h0 : Heap) (n0 : Nat) (Z0 : n0 ≤ h0.size) (F_dropped_a3_0 : Fld Z h0 a3_0 "com/example/halozat/halozat/node/Leader" "dropped" "I" (.int w_dropped_a3_0)) (F_droppedBeat_a3_0 : Fld Z h0 a3_0 "com/example/halozat/halozat/node/Leader" "droppedBeat" "I" (.int w_droppedBeat_a3_0)) (F_node_a3_0 : Fld Z h0 a3_0 "com/example/halozat/halozat/node/Leader" "node" "I" (.int w_node_a3_0)) (F_beat_a3_0 : Fld Z h0 a3_0 "com/example/halozat/halozat/node/Leader" "beat" "I" (.int w_beat_a3_0)) (E_a3_0 : Exa Z h0 a3_0 "com/example/halozat/halozat/node/Leader") (g_a3_0 : n0 ≤ a3_0) (F_raisedAt_a3_0 : Fld Z h0 a3_0 "com/example/halozat/halozat/node/Leader" "raisedAt" "J" (.long w_raisedAt_a3_0)) (F_since_a3_0 : Fld Z h0 a3_0 "com/example/halozat/halozat/node/Leader" "since" "J" (.long w_since_a3_0)) (F_checkAt_a3_0 : Fld Z h0 a3_0 "com/example/halozat/halozat/node/Leader" "checkAt" "J" (.long w_checkAt_a3_0)) (F_far_a3_0 : Fld Z h0 a3_0 "com/example/halozat/halozat/node/Leader" "far" "Z" (.int w_far_a3_0)) :
    MetFree l (⟨"com/example/halozat/halozat/node/Leader", "hear", "(IIJJ)Z"⟩ : MethodName) (head1 (Jvm.Cond.code (⟨"com/example/halozat/halozat/node/Leader", "hear", "(IIJJ)Z"⟩ : MethodName) prog_81_method_8_code 10 (some .boolean) :: ws) ({ frames := 0, cells := 0, slots := 0, locals := 0 } : Room)) (fun a U => a = #[(.ref a3_0), (.int p3_1), (.int p3_2), (.long q3_3), (.long q3_4)] ∧ Z.Warmed39 U.vm ∧ U.heap = h0) (fun _ _ _ _ _ => True) (fun _ U o U' => ∃ v L, o = .returned v ∧ Q_rm3 Z a3_0 p3_1 p3_2 q3_3 q3_4 w_dropped_a3_0 w_droppedBeat_a3_0 w_node_a3_0 w_beat_a3_0 w_raisedAt_a3_0 w_since_a3_0 w_checkAt_a3_0 w_far_a3_0 h0 n0 v U'.heap L ∧ FrameEnd U o U' L ({ frames := 0, cells := 0, slots := 0, locals := 0 } : Room).cells ({ frames := 0, cells := 0, slots := 0, locals := 0 } : Room).slots) := by
  refine MetFree.of_bodySF (plainFor_of_name pn_3) hisR ?_
  intro p e s m args below meth c s₁ Bd hml0 hP hK
  obtain ⟨rfl, hZ, hh⟩ := hP
  have hx := Bd.exec
  have hby := Bd.bytes
  have hml : c.maxLocals = 10 := hml0
  have hown : s.vm.findClass "com/example/halozat/halozat/node/Leader" = some m.cls := findClass_of_methodNamed Bd.named
  have hnm := (name_of_methodNamed Bd.named Bd.method).1
  have X0 : Stand p l e ({ frames := 0, cells := 0, slots := 0, locals := 0 } : Room) s m #[(.ref a3_0), (.int p3_1), (.int p3_2), (.long q3_3), (.long q3_4)] below meth c s₁ [] 0 0 := Stand.of_body Bd
  have e0 : s₁.heap = h0 := by rw [← hh, Bd.state]; rfl
  have N0 := Fr.nil n0
  have pre0 : ∀ t, Steps p.tables e below (s₁.setTop (mkF m 0 #[.val (.ref a3_0), .val (.int p3_1), .val (.int p3_2), .val (.long q3_3), .second, .val (.long q3_4), .second, .unset, .unset, .unset] [])) t → Steps p.tables e below (s₁.setTop (entryFrame m #[(.ref a3_0), (.int p3_1), (.int p3_2), (.long q3_3), (.long q3_4)] 10)) t := fun t k => castTop (ef_rm3 m a3_0 p3_1 p3_2 q3_3 q3_4) k
  obtain ⟨T1, X1, e1, st1⟩ := getF X0 hx hZ hown (host := "") (Or.inl (ow12 hw)) Via.refl e0 F_dropped_a3_0 (g := (mkF m 2 #[.val (.ref a3_0), .val (.int p3_1), .val (.int p3_2), .val (.long q3_3), .second, .val (.long q3_4), .second, .unset, .unset, .unset] [(.ref a3_0), (.int p3_1)])) rfl rfl (hb hby d3_2)
  have G2 : ∀ t, Steps p.tables e below (T1.setTop (mkF m 5 #[.val (.ref a3_0), .val (.int p3_1), .val (.int p3_2), .val (.long q3_3), .second, .val (.long q3_4), .second, .unset, .unset, .unset] [(.int w_dropped_a3_0), (.int p3_1)])) t → Steps p.tables e below (s₁.setTop (mkF m 0 #[.val (.ref a3_0), .val (.int p3_1), .val (.int p3_2), .val (.long q3_3), .second, .val (.long q3_4), .second, .unset, .unset, .unset] [])) t := by
    intro t k
    show Steps p.tables e below (s₁.setTop (mkF m 0 #[.val (.ref a3_0), .val (.int p3_1), .val (.int p3_2), .val (.long q3_3), .second, .val (.long q3_4), .second, .unset, .unset, .unset] [])) _
    refine XS.iloadN X0.here hx rfl (hb hby d3_0) rfl ?_
    show Steps p.tables e below (s₁.setTop (mkF m 1 #[.val (.ref a3_0), .val (.int p3_1), .val (.int p3_2), .val (.long q3_3), .second, .val (.long q3_4), .second, .unset, .unset, .unset] [(.int p3_1)])) _
    refine XS.aloadN X0.here hx rfl (hb hby d3_1) rfl rfl ?_
    show Steps p.tables e below (s₁.setTop (mkF m 2 #[.val (.ref a3_0), .val (.int p3_1), .val (.int p3_2), .val (.long q3_3), .second, .val (.long q3_4), .second, .unset, .unset, .unset] [(.ref a3_0), (.int p3_1)])) _
    refine st1 _ ?_
    exact k
  obtain ⟨v7, hv7⟩ : ∃ z : Int32, z = (if (p3_1 = w_dropped_a3_0 ∧ ¬ (w_droppedBeat_a3_0 < p3_2)) then (1 : Int32) else (0 : Int32)) := ⟨_, rfl⟩
  obtain ⟨T8, Lo8, X8, N8, e8, G8⟩ := own_join X1 N0 (h := h0) (mkF m 5 #[.val (.ref a3_0), .val (.int p3_1), .val (.int p3_2), .val (.long q3_3), .second, .val (.long q3_4), .second, .unset, .unset, .unset] [(.int w_dropped_a3_0), (.int p3_1)]) (mkF m 21 #[.val (.ref a3_0), .val (.int p3_1), .val (.int p3_2), .val (.long q3_3), .second, .val (.long q3_4), .second, .unset, .unset, .unset] [(.int v7)]) (by
    by_cases h5_3 : p3_1 = w_dropped_a3_0
    · obtain ⟨T4, X4, e4, st4⟩ := getF X1 hx hZ hown (host := "") (Or.inl (ow66 hw)) Via.refl e1 F_droppedBeat_a3_0 (g := (mkF m 10 #[.val (.ref a3_0), .val (.int p3_1), .val (.int p3_2), .val (.long q3_3), .second, .val (.long q3_4), .second, .unset, .unset, .unset] [(.ref a3_0), (.int p3_2)])) rfl rfl (hb hby d3_10)
      have G5 : ∀ t, Steps p.tables e below (T4.setTop (mkF m 13 #[.val (.ref a3_0), .val (.int p3_1), .val (.int p3_2), .val (.long q3_3), .second, .val (.long q3_4), .second, .unset, .unset, .unset] [(.int w_droppedBeat_a3_0), (.int p3_2)])) t → Steps p.tables e below (T1.setTop (mkF m 5 #[.val (.ref a3_0), .val (.int p3_1), .val (.int p3_2), .val (.long q3_3), .second, .val (.long q3_4), .second, .unset, .unset, .unset] [(.int w_dropped_a3_0), (.int p3_1)])) t := by
        intro t k
        show Steps p.tables e below (T1.setTop (mkF m 5 #[.val (.ref a3_0), .val (.int p3_1), .val (.int p3_2), .val (.long q3_3), .second, .val (.long q3_4), .second, .unset, .unset, .unset] [(.int w_dropped_a3_0), (.int p3_1)])) _
        refine XS.icmpNo X1.here hx rfl (hb hby d3_5) rfl (teq h5_3).2 ?_
        show Steps p.tables e below (T1.setTop (mkF m 8 #[.val (.ref a3_0), .val (.int p3_1), .val (.int p3_2), .val (.long q3_3), .second, .val (.long q3_4), .second, .unset, .unset, .unset] [])) _
        refine XS.iloadN X1.here hx rfl (hb hby d3_8) rfl ?_
        show Steps p.tables e below (T1.setTop (mkF m 9 #[.val (.ref a3_0), .val (.int p3_1), .val (.int p3_2), .val (.long q3_3), .second, .val (.long q3_4), .second, .unset, .unset, .unset] [(.int p3_2)])) _
        refine XS.aloadN X1.here hx rfl (hb hby d3_9) rfl rfl ?_
        show Steps p.tables e below (T1.setTop (mkF m 10 #[.val (.ref a3_0), .val (.int p3_1), .val (.int p3_2), .val (.long q3_3), .second, .val (.long q3_4), .second, .unset, .unset, .unset] [(.ref a3_0), (.int p3_2)])) _
        refine st4 _ ?_
        exact k
      by_cases h13_6 : w_droppedBeat_a3_0 < p3_2
      · refine ⟨T4, _, X4, N0, e4, fun t k => ?_⟩
        rw [show v7 = (0 : Int32) from hv7.trans (if_neg (fun q => (fun q => q h13_6) q.2))] at k
        refine G5 _ ?_
        show Steps p.tables e below (T4.setTop (mkF m 13 #[.val (.ref a3_0), .val (.int p3_1), .val (.int p3_2), .val (.long q3_3), .second, .val (.long q3_4), .second, .unset, .unset, .unset] [(.int w_droppedBeat_a3_0), (.int p3_2)])) _
        refine XS.icmpYes X4.here hx rfl (pc0 := 13) (pc' := 20) rfl (hb hby d3_13) rfl (tlt h13_6).2.2.1 (by decide) (by decide) ?_
        show Steps p.tables e below (T4.setTop (mkF m 20 #[.val (.ref a3_0), .val (.int p3_1), .val (.int p3_2), .val (.long q3_3), .second, .val (.long q3_4), .second, .unset, .unset, .unset] [])) _
        refine XS.iconst X4.here hx rfl (hb hby d3_20) ?_
        exact k
      · refine ⟨T4, _, X4, N0, e4, fun t k => ?_⟩
        rw [show v7 = (1 : Int32) from hv7.trans (if_pos ⟨h5_3, h13_6⟩)] at k
        refine G5 _ ?_
        show Steps p.tables e below (T4.setTop (mkF m 13 #[.val (.ref a3_0), .val (.int p3_1), .val (.int p3_2), .val (.long q3_3), .second, .val (.long q3_4), .second, .unset, .unset, .unset] [(.int w_droppedBeat_a3_0), (.int p3_2)])) _
        refine XS.icmpNo X4.here hx rfl (hb hby d3_13) rfl (flt h13_6).2.2.1 ?_
        show Steps p.tables e below (T4.setTop (mkF m 16 #[.val (.ref a3_0), .val (.int p3_1), .val (.int p3_2), .val (.long q3_3), .second, .val (.long q3_4), .second, .unset, .unset, .unset] [])) _
        refine XS.iconst X4.here hx rfl (hb hby d3_16) ?_
        show Steps p.tables e below (T4.setTop (mkF m 17 #[.val (.ref a3_0), .val (.int p3_1), .val (.int p3_2), .val (.long q3_3), .second, .val (.long q3_4), .second, .unset, .unset, .unset] [(.int (1 : Int32))])) _
        refine XS.goto X4.here hx rfl (pc0 := 17) (pc' := 21) rfl (hb hby d3_17) (by decide) (by decide) ?_
        exact k
    · refine ⟨T1, _, X1, N0, e1, fun t k => ?_⟩
      rw [show v7 = (0 : Int32) from hv7.trans (if_neg (fun q => h5_3 q.1))] at k
      show Steps p.tables e below (T1.setTop (mkF m 5 #[.val (.ref a3_0), .val (.int p3_1), .val (.int p3_2), .val (.long q3_3), .second, .val (.long q3_4), .second, .unset, .unset, .unset] [(.int w_dropped_a3_0), (.int p3_1)])) _
      refine XS.icmpYes X1.here hx rfl (pc0 := 5) (pc' := 20) rfl (hb hby d3_5) rfl (feq h5_3).2 (by decide) (by decide) ?_
      show Steps p.tables e below (T1.setTop (mkF m 20 #[.val (.ref a3_0), .val (.int p3_1), .val (.int p3_2), .val (.long q3_3), .second, .val (.long q3_4), .second, .unset, .unset, .unset] [])) _
      refine XS.iconst X1.here hx rfl (hb hby d3_20) ?_
      exact k)
  have G9 : ∀ t, Steps p.tables e below (T8.setTop (mkF m 28 #[.val (.ref a3_0), .val (.int p3_1), .val (.int p3_2), .val (.long q3_3), .second, .val (.long q3_4), .second, .val (.int v7), .unset, .unset] [(.int (lcmpW q3_3 (5000 : Int64)))])) t → Steps p.tables e below (T8.setTop (mkF m 21 #[.val (.ref a3_0), .val (.int p3_1), .val (.int p3_2), .val (.long q3_3), .second, .val (.long q3_4), .second, .unset, .unset, .unset] [(.int v7)])) t := by
    intro t k
    show Steps p.tables e below (T8.setTop (mkF m 21 #[.val (.ref a3_0), .val (.int p3_1), .val (.int p3_2), .val (.long q3_3), .second, .val (.long q3_4), .second, .unset, .unset, .unset] [(.int v7)])) _
    refine XS.istore X8.here hx rfl (hb hby d3_21) rfl (l' := #[.val (.ref a3_0), .val (.int p3_1), .val (.int p3_2), .val (.long q3_3), .second, .val (.long q3_4), .second, .val (.int v7), .unset, .unset]) rfl ?_
    show Steps p.tables e below (T8.setTop (mkF m 23 #[.val (.ref a3_0), .val (.int p3_1), .val (.int p3_2), .val (.long q3_3), .second, .val (.long q3_4), .second, .val (.int v7), .unset, .unset] [])) _
    refine XS.lloadN X8.here hx rfl (hb hby d3_23) rfl ?_
    show Steps p.tables e below (T8.setTop (mkF m 24 #[.val (.ref a3_0), .val (.int p3_1), .val (.int p3_2), .val (.long q3_3), .second, .val (.long q3_4), .second, .val (.int v7), .unset, .unset] [(.long q3_3)])) _
    refine X8.ldc2Long hx hown (mvT hZ (ow28 hw)) (g := (mkF m 24 #[.val (.ref a3_0), .val (.int p3_1), .val (.int p3_2), .val (.long q3_3), .second, .val (.long q3_4), .second, .val (.int v7), .unset, .unset] [(.long q3_3)])) rfl (hb hby d3_24) _ ?_
    show Steps p.tables e below (T8.setTop (mkF m 27 #[.val (.ref a3_0), .val (.int p3_1), .val (.int p3_2), .val (.long q3_3), .second, .val (.long q3_4), .second, .val (.int v7), .unset, .unset] [(.long (5000 : Int64)), (.long q3_3)])) _
    refine XS.lcmp X8.here hx rfl (hb hby d3_27) rfl ?_
    exact k
  obtain ⟨v16, hv16⟩ : ∃ z : Int32, z = (if (q3_3 < (5000 : Int64) ∧ (p3_1 < w_node_a3_0 ∧ ¬ ((p3_1 = w_dropped_a3_0 ∧ ¬ (w_droppedBeat_a3_0 < p3_2))))) then (1 : Int32) else (0 : Int32)) := ⟨_, rfl⟩
  obtain ⟨T17, Lo17, X17, N17, e17, G17⟩ := own_join X8 N8 (h := h0) (mkF m 28 #[.val (.ref a3_0), .val (.int p3_1), .val (.int p3_2), .val (.long q3_3), .second, .val (.long q3_4), .second, .val (.int v7), .unset, .unset] [(.int (lcmpW q3_3 (5000 : Int64)))]) (mkF m 49 #[.val (.ref a3_0), .val (.int p3_1), .val (.int p3_2), .val (.long q3_3), .second, .val (.long q3_4), .second, .val (.int v7), .unset, .unset] [(.int v16)]) (by
    by_cases h28_10 : q3_3 < (5000 : Int64)
    · obtain ⟨T11, X11, e11, st11⟩ := getF X8 hx hZ hown (host := "") (Or.inl (ow17 hw)) Via.refl e8 F_node_a3_0 (g := (mkF m 33 #[.val (.ref a3_0), .val (.int p3_1), .val (.int p3_2), .val (.long q3_3), .second, .val (.long q3_4), .second, .val (.int v7), .unset, .unset] [(.ref a3_0), (.int p3_1)])) rfl rfl (hb hby d3_33)
      have G12 : ∀ t, Steps p.tables e below (T11.setTop (mkF m 36 #[.val (.ref a3_0), .val (.int p3_1), .val (.int p3_2), .val (.long q3_3), .second, .val (.long q3_4), .second, .val (.int v7), .unset, .unset] [(.int w_node_a3_0), (.int p3_1)])) t → Steps p.tables e below (T8.setTop (mkF m 28 #[.val (.ref a3_0), .val (.int p3_1), .val (.int p3_2), .val (.long q3_3), .second, .val (.long q3_4), .second, .val (.int v7), .unset, .unset] [(.int (lcmpW q3_3 (5000 : Int64)))])) t := by
        intro t k
        show Steps p.tables e below (T8.setTop (mkF m 28 #[.val (.ref a3_0), .val (.int p3_1), .val (.int p3_2), .val (.long q3_3), .second, .val (.long q3_4), .second, .val (.int v7), .unset, .unset] [(.int (lcmpW q3_3 (5000 : Int64)))])) _
        refine XS.ifNo X8.here hx rfl (hb hby d3_28) rfl ((if0 _ _).trans (tlt ((lw_lt _ _).mpr h28_10)).2.1) ?_
        show Steps p.tables e below (T8.setTop (mkF m 31 #[.val (.ref a3_0), .val (.int p3_1), .val (.int p3_2), .val (.long q3_3), .second, .val (.long q3_4), .second, .val (.int v7), .unset, .unset] [])) _
        refine XS.iloadN X8.here hx rfl (hb hby d3_31) rfl ?_
        show Steps p.tables e below (T8.setTop (mkF m 32 #[.val (.ref a3_0), .val (.int p3_1), .val (.int p3_2), .val (.long q3_3), .second, .val (.long q3_4), .second, .val (.int v7), .unset, .unset] [(.int p3_1)])) _
        refine XS.aloadN X8.here hx rfl (hb hby d3_32) rfl rfl ?_
        show Steps p.tables e below (T8.setTop (mkF m 33 #[.val (.ref a3_0), .val (.int p3_1), .val (.int p3_2), .val (.long q3_3), .second, .val (.long q3_4), .second, .val (.int v7), .unset, .unset] [(.ref a3_0), (.int p3_1)])) _
        refine st11 _ ?_
        exact k
      by_cases h36_13 : p3_1 < w_node_a3_0
      · have G14 : ∀ t, Steps p.tables e below (T11.setTop (mkF m 41 #[.val (.ref a3_0), .val (.int p3_1), .val (.int p3_2), .val (.long q3_3), .second, .val (.long q3_4), .second, .val (.int v7), .unset, .unset] [(.int v7)])) t → Steps p.tables e below (T11.setTop (mkF m 36 #[.val (.ref a3_0), .val (.int p3_1), .val (.int p3_2), .val (.long q3_3), .second, .val (.long q3_4), .second, .val (.int v7), .unset, .unset] [(.int w_node_a3_0), (.int p3_1)])) t := by
          intro t k
          show Steps p.tables e below (T11.setTop (mkF m 36 #[.val (.ref a3_0), .val (.int p3_1), .val (.int p3_2), .val (.long q3_3), .second, .val (.long q3_4), .second, .val (.int v7), .unset, .unset] [(.int w_node_a3_0), (.int p3_1)])) _
          refine XS.icmpNo X11.here hx rfl (hb hby d3_36) rfl (tlt h36_13).2.1 ?_
          show Steps p.tables e below (T11.setTop (mkF m 39 #[.val (.ref a3_0), .val (.int p3_1), .val (.int p3_2), .val (.long q3_3), .second, .val (.long q3_4), .second, .val (.int v7), .unset, .unset] [])) _
          refine XS.iload X11.here hx rfl (hb hby d3_39) rfl ?_
          exact k
        by_cases h41_15 : (p3_1 = w_dropped_a3_0 ∧ ¬ (w_droppedBeat_a3_0 < p3_2))
        · refine ⟨T11, _, X11, N8, e11, fun t k => ?_⟩
          rw [show v16 = (0 : Int32) from hv16.trans (if_neg (fun q => (fun q => (fun q => q h41_15) q.2) q.2))] at k
          refine G12 _ ?_
          refine G14 _ ?_
          show Steps p.tables e below (T11.setTop (mkF m 41 #[.val (.ref a3_0), .val (.int p3_1), .val (.int p3_2), .val (.long q3_3), .second, .val (.long q3_4), .second, .val (.int v7), .unset, .unset] [(.int v7)])) _
          refine XS.ifYes X11.here hx rfl (pc0 := 41) (pc' := 48) rfl (hb hby d3_41) rfl ((if0 _ _).trans (feq (own_b1 (hv7.trans (if_pos h41_15)))).2) (by decide) (by decide) ?_
          show Steps p.tables e below (T11.setTop (mkF m 48 #[.val (.ref a3_0), .val (.int p3_1), .val (.int p3_2), .val (.long q3_3), .second, .val (.long q3_4), .second, .val (.int v7), .unset, .unset] [])) _
          refine XS.iconst X11.here hx rfl (hb hby d3_48) ?_
          exact k
        · refine ⟨T11, _, X11, N8, e11, fun t k => ?_⟩
          rw [show v16 = (1 : Int32) from hv16.trans (if_pos ⟨h28_10, ⟨h36_13, h41_15⟩⟩)] at k
          refine G12 _ ?_
          refine G14 _ ?_
          show Steps p.tables e below (T11.setTop (mkF m 41 #[.val (.ref a3_0), .val (.int p3_1), .val (.int p3_2), .val (.long q3_3), .second, .val (.long q3_4), .second, .val (.int v7), .unset, .unset] [(.int v7)])) _
          refine XS.ifNo X11.here hx rfl (hb hby d3_41) rfl ((if0 _ _).trans (teq (hv7.trans (if_neg h41_15))).2) ?_
          show Steps p.tables e below (T11.setTop (mkF m 44 #[.val (.ref a3_0), .val (.int p3_1), .val (.int p3_2), .val (.long q3_3), .second, .val (.long q3_4), .second, .val (.int v7), .unset, .unset] [])) _
          refine XS.iconst X11.here hx rfl (hb hby d3_44) ?_
          show Steps p.tables e below (T11.setTop (mkF m 45 #[.val (.ref a3_0), .val (.int p3_1), .val (.int p3_2), .val (.long q3_3), .second, .val (.long q3_4), .second, .val (.int v7), .unset, .unset] [(.int (1 : Int32))])) _
          refine XS.goto X11.here hx rfl (pc0 := 45) (pc' := 49) rfl (hb hby d3_45) (by decide) (by decide) ?_
          exact k
      · refine ⟨T11, _, X11, N8, e11, fun t k => ?_⟩
        rw [show v16 = (0 : Int32) from hv16.trans (if_neg (fun q => (fun q => h36_13 q.1) q.2))] at k
        refine G12 _ ?_
        show Steps p.tables e below (T11.setTop (mkF m 36 #[.val (.ref a3_0), .val (.int p3_1), .val (.int p3_2), .val (.long q3_3), .second, .val (.long q3_4), .second, .val (.int v7), .unset, .unset] [(.int w_node_a3_0), (.int p3_1)])) _
        refine XS.icmpYes X11.here hx rfl (pc0 := 36) (pc' := 48) rfl (hb hby d3_36) rfl (flt h36_13).2.1 (by decide) (by decide) ?_
        show Steps p.tables e below (T11.setTop (mkF m 48 #[.val (.ref a3_0), .val (.int p3_1), .val (.int p3_2), .val (.long q3_3), .second, .val (.long q3_4), .second, .val (.int v7), .unset, .unset] [])) _
        refine XS.iconst X11.here hx rfl (hb hby d3_48) ?_
        exact k
    · refine ⟨T8, _, X8, N8, e8, fun t k => ?_⟩
      rw [show v16 = (0 : Int32) from hv16.trans (if_neg (fun q => h28_10 q.1))] at k
      show Steps p.tables e below (T8.setTop (mkF m 28 #[.val (.ref a3_0), .val (.int p3_1), .val (.int p3_2), .val (.long q3_3), .second, .val (.long q3_4), .second, .val (.int v7), .unset, .unset] [(.int (lcmpW q3_3 (5000 : Int64)))])) _
      refine XS.ifYes X8.here hx rfl (pc0 := 28) (pc' := 48) rfl (hb hby d3_28) rfl ((if0 _ _).trans (flt (fun q => h28_10 ((lw_lt _ _).mp q))).2.1) (by decide) (by decide) ?_
      show Steps p.tables e below (T8.setTop (mkF m 48 #[.val (.ref a3_0), .val (.int p3_1), .val (.int p3_2), .val (.long q3_3), .second, .val (.long q3_4), .second, .val (.int v7), .unset, .unset] [])) _
      refine XS.iconst X8.here hx rfl (hb hby d3_48) ?_
      exact k)
  obtain ⟨T18, X18, e18, st18⟩ := getF X17 hx hZ hown (host := "") (Or.inl (ow17 hw)) Via.refl e17 F_node_a3_0 (g := (mkF m 53 #[.val (.ref a3_0), .val (.int p3_1), .val (.int p3_2), .val (.long q3_3), .second, .val (.long q3_4), .second, .val (.int v7), .val (.int v16), .unset] [(.ref a3_0), (.int p3_1)])) rfl rfl (hb hby d3_53)
  have G19 : ∀ t, Steps p.tables e below (T18.setTop (mkF m 56 #[.val (.ref a3_0), .val (.int p3_1), .val (.int p3_2), .val (.long q3_3), .second, .val (.long q3_4), .second, .val (.int v7), .val (.int v16), .unset] [(.int w_node_a3_0), (.int p3_1)])) t → Steps p.tables e below (T17.setTop (mkF m 49 #[.val (.ref a3_0), .val (.int p3_1), .val (.int p3_2), .val (.long q3_3), .second, .val (.long q3_4), .second, .val (.int v7), .unset, .unset] [(.int v16)])) t := by
    intro t k
    show Steps p.tables e below (T17.setTop (mkF m 49 #[.val (.ref a3_0), .val (.int p3_1), .val (.int p3_2), .val (.long q3_3), .second, .val (.long q3_4), .second, .val (.int v7), .unset, .unset] [(.int v16)])) _
    refine XS.istore X17.here hx rfl (hb hby d3_49) rfl (l' := #[.val (.ref a3_0), .val (.int p3_1), .val (.int p3_2), .val (.long q3_3), .second, .val (.long q3_4), .second, .val (.int v7), .val (.int v16), .unset]) rfl ?_
    show Steps p.tables e below (T17.setTop (mkF m 51 #[.val (.ref a3_0), .val (.int p3_1), .val (.int p3_2), .val (.long q3_3), .second, .val (.long q3_4), .second, .val (.int v7), .val (.int v16), .unset] [])) _
    refine XS.iloadN X17.here hx rfl (hb hby d3_51) rfl ?_
    show Steps p.tables e below (T17.setTop (mkF m 52 #[.val (.ref a3_0), .val (.int p3_1), .val (.int p3_2), .val (.long q3_3), .second, .val (.long q3_4), .second, .val (.int v7), .val (.int v16), .unset] [(.int p3_1)])) _
    refine XS.aloadN X17.here hx rfl (hb hby d3_52) rfl rfl ?_
    show Steps p.tables e below (T17.setTop (mkF m 53 #[.val (.ref a3_0), .val (.int p3_1), .val (.int p3_2), .val (.long q3_3), .second, .val (.long q3_4), .second, .val (.int v7), .val (.int v16), .unset] [(.ref a3_0), (.int p3_1)])) _
    refine st18 _ ?_
    exact k
  obtain ⟨v24, hv24⟩ : ∃ z : Int32, z = (if (p3_1 = w_node_a3_0 ∧ w_beat_a3_0 < p3_2) then (1 : Int32) else (0 : Int32)) := ⟨_, rfl⟩
  obtain ⟨T25, Lo25, X25, N25, e25, G25⟩ := own_join X18 N17 (h := h0) (mkF m 56 #[.val (.ref a3_0), .val (.int p3_1), .val (.int p3_2), .val (.long q3_3), .second, .val (.long q3_4), .second, .val (.int v7), .val (.int v16), .unset] [(.int w_node_a3_0), (.int p3_1)]) (mkF m 72 #[.val (.ref a3_0), .val (.int p3_1), .val (.int p3_2), .val (.long q3_3), .second, .val (.long q3_4), .second, .val (.int v7), .val (.int v16), .unset] [(.int v24)]) (by
    by_cases h56_20 : p3_1 = w_node_a3_0
    · obtain ⟨T21, X21, e21, st21⟩ := getF X18 hx hZ hown (host := "") (Or.inl (ow34 hw)) Via.refl e18 F_beat_a3_0 (g := (mkF m 61 #[.val (.ref a3_0), .val (.int p3_1), .val (.int p3_2), .val (.long q3_3), .second, .val (.long q3_4), .second, .val (.int v7), .val (.int v16), .unset] [(.ref a3_0), (.int p3_2)])) rfl rfl (hb hby d3_61)
      have G22 : ∀ t, Steps p.tables e below (T21.setTop (mkF m 64 #[.val (.ref a3_0), .val (.int p3_1), .val (.int p3_2), .val (.long q3_3), .second, .val (.long q3_4), .second, .val (.int v7), .val (.int v16), .unset] [(.int w_beat_a3_0), (.int p3_2)])) t → Steps p.tables e below (T18.setTop (mkF m 56 #[.val (.ref a3_0), .val (.int p3_1), .val (.int p3_2), .val (.long q3_3), .second, .val (.long q3_4), .second, .val (.int v7), .val (.int v16), .unset] [(.int w_node_a3_0), (.int p3_1)])) t := by
        intro t k
        show Steps p.tables e below (T18.setTop (mkF m 56 #[.val (.ref a3_0), .val (.int p3_1), .val (.int p3_2), .val (.long q3_3), .second, .val (.long q3_4), .second, .val (.int v7), .val (.int v16), .unset] [(.int w_node_a3_0), (.int p3_1)])) _
        refine XS.icmpNo X18.here hx rfl (hb hby d3_56) rfl (teq h56_20).2 ?_
        show Steps p.tables e below (T18.setTop (mkF m 59 #[.val (.ref a3_0), .val (.int p3_1), .val (.int p3_2), .val (.long q3_3), .second, .val (.long q3_4), .second, .val (.int v7), .val (.int v16), .unset] [])) _
        refine XS.iloadN X18.here hx rfl (hb hby d3_59) rfl ?_
        show Steps p.tables e below (T18.setTop (mkF m 60 #[.val (.ref a3_0), .val (.int p3_1), .val (.int p3_2), .val (.long q3_3), .second, .val (.long q3_4), .second, .val (.int v7), .val (.int v16), .unset] [(.int p3_2)])) _
        refine XS.aloadN X18.here hx rfl (hb hby d3_60) rfl rfl ?_
        show Steps p.tables e below (T18.setTop (mkF m 61 #[.val (.ref a3_0), .val (.int p3_1), .val (.int p3_2), .val (.long q3_3), .second, .val (.long q3_4), .second, .val (.int v7), .val (.int v16), .unset] [(.ref a3_0), (.int p3_2)])) _
        refine st21 _ ?_
        exact k
      by_cases h64_23 : w_beat_a3_0 < p3_2
      · refine ⟨T21, _, X21, N17, e21, fun t k => ?_⟩
        rw [show v24 = (1 : Int32) from hv24.trans (if_pos ⟨h56_20, h64_23⟩)] at k
        refine G22 _ ?_
        show Steps p.tables e below (T21.setTop (mkF m 64 #[.val (.ref a3_0), .val (.int p3_1), .val (.int p3_2), .val (.long q3_3), .second, .val (.long q3_4), .second, .val (.int v7), .val (.int v16), .unset] [(.int w_beat_a3_0), (.int p3_2)])) _
        refine XS.icmpNo X21.here hx rfl (hb hby d3_64) rfl (tlt h64_23).2.2.2 ?_
        show Steps p.tables e below (T21.setTop (mkF m 67 #[.val (.ref a3_0), .val (.int p3_1), .val (.int p3_2), .val (.long q3_3), .second, .val (.long q3_4), .second, .val (.int v7), .val (.int v16), .unset] [])) _
        refine XS.iconst X21.here hx rfl (hb hby d3_67) ?_
        show Steps p.tables e below (T21.setTop (mkF m 68 #[.val (.ref a3_0), .val (.int p3_1), .val (.int p3_2), .val (.long q3_3), .second, .val (.long q3_4), .second, .val (.int v7), .val (.int v16), .unset] [(.int (1 : Int32))])) _
        refine XS.goto X21.here hx rfl (pc0 := 68) (pc' := 72) rfl (hb hby d3_68) (by decide) (by decide) ?_
        exact k
      · refine ⟨T21, _, X21, N17, e21, fun t k => ?_⟩
        rw [show v24 = (0 : Int32) from hv24.trans (if_neg (fun q => h64_23 q.2))] at k
        refine G22 _ ?_
        show Steps p.tables e below (T21.setTop (mkF m 64 #[.val (.ref a3_0), .val (.int p3_1), .val (.int p3_2), .val (.long q3_3), .second, .val (.long q3_4), .second, .val (.int v7), .val (.int v16), .unset] [(.int w_beat_a3_0), (.int p3_2)])) _
        refine XS.icmpYes X21.here hx rfl (pc0 := 64) (pc' := 71) rfl (hb hby d3_64) rfl (flt h64_23).2.2.2 (by decide) (by decide) ?_
        show Steps p.tables e below (T21.setTop (mkF m 71 #[.val (.ref a3_0), .val (.int p3_1), .val (.int p3_2), .val (.long q3_3), .second, .val (.long q3_4), .second, .val (.int v7), .val (.int v16), .unset] [])) _
        refine XS.iconst X21.here hx rfl (hb hby d3_71) ?_
        exact k
    · refine ⟨T18, _, X18, N17, e18, fun t k => ?_⟩
      rw [show v24 = (0 : Int32) from hv24.trans (if_neg (fun q => h56_20 q.1))] at k
      show Steps p.tables e below (T18.setTop (mkF m 56 #[.val (.ref a3_0), .val (.int p3_1), .val (.int p3_2), .val (.long q3_3), .second, .val (.long q3_4), .second, .val (.int v7), .val (.int v16), .unset] [(.int w_node_a3_0), (.int p3_1)])) _
      refine XS.icmpYes X18.here hx rfl (pc0 := 56) (pc' := 71) rfl (hb hby d3_56) rfl (feq h56_20).2 (by decide) (by decide) ?_
      show Steps p.tables e below (T18.setTop (mkF m 71 #[.val (.ref a3_0), .val (.int p3_1), .val (.int p3_2), .val (.long q3_3), .second, .val (.long q3_4), .second, .val (.int v7), .val (.int v16), .unset] [])) _
      refine XS.iconst X18.here hx rfl (hb hby d3_71) ?_
      exact k)
  have G26 : ∀ t, Steps p.tables e below (T25.setTop (mkF m 76 #[.val (.ref a3_0), .val (.int p3_1), .val (.int p3_2), .val (.long q3_3), .second, .val (.long q3_4), .second, .val (.int v7), .val (.int v16), .val (.int v24)] [(.int v16)])) t → Steps p.tables e below (T25.setTop (mkF m 72 #[.val (.ref a3_0), .val (.int p3_1), .val (.int p3_2), .val (.long q3_3), .second, .val (.long q3_4), .second, .val (.int v7), .val (.int v16), .unset] [(.int v24)])) t := by
    intro t k
    show Steps p.tables e below (T25.setTop (mkF m 72 #[.val (.ref a3_0), .val (.int p3_1), .val (.int p3_2), .val (.long q3_3), .second, .val (.long q3_4), .second, .val (.int v7), .val (.int v16), .unset] [(.int v24)])) _
    refine XS.istore X25.here hx rfl (hb hby d3_72) rfl (l' := #[.val (.ref a3_0), .val (.int p3_1), .val (.int p3_2), .val (.long q3_3), .second, .val (.long q3_4), .second, .val (.int v7), .val (.int v16), .val (.int v24)]) rfl ?_
    show Steps p.tables e below (T25.setTop (mkF m 74 #[.val (.ref a3_0), .val (.int p3_1), .val (.int p3_2), .val (.long q3_3), .second, .val (.long q3_4), .second, .val (.int v7), .val (.int v16), .val (.int v24)] [])) _
    refine XS.iload X25.here hx rfl (hb hby d3_74) rfl ?_
    exact k
  by_cases h76_27 : (q3_3 < (5000 : Int64) ∧ (p3_1 < w_node_a3_0 ∧ ¬ ((p3_1 = w_dropped_a3_0 ∧ ¬ (w_droppedBeat_a3_0 < p3_2)))))
  · obtain ⟨T28, h28, X28, e28, W28, st28⟩ := putF X25 hx hZ hown (host := "") (Or.inl (ow17 hw)) Via.refl e25 F_node_a3_0 E_a3_0 (Or.inl (ow18 hw)) (ow4 hw) (ty := .int) (by decide) rfl rfl (g := (mkF m 86 #[.val (.ref a3_0), .val (.int p3_1), .val (.int p3_2), .val (.long q3_3), .second, .val (.long q3_4), .second, .val (.int v7), .val (.int v16), .val (.int v24)] [(.int p3_1), (.ref a3_0)])) rfl rfl (hb hby d3_86)
    have F28 := F_node_a3_0.same W28
    have K28 : Keep h0 h28 [a3_0] := (Keep.refl h0 [a3_0]).wr W28 (Or.inl (List.mem_of_getElem? (i := 0) rfl))
    have Z28 : n0 ≤ h28.size := Nat.le_trans Z0 K28.1
    have N28 := Fr.snoc X28 N25 g_a3_0
    have f29 := (E_a3_0.wr W28)
    have f30 := (F_beat_a3_0.other W28 (Or.inr (slot_ne (Or.inl (ow35 hw)) (Or.inl (ow18 hw)) (by decide) (t := .int) (t' := .int) (by decide) (by decide))))
    obtain ⟨T31, h31, X31, e31, W31, st31⟩ := putF X28 hx hZ hown (host := "") (Or.inl (ow34 hw)) Via.refl e28 f30 f29 (Or.inl (ow35 hw)) (ow4 hw) (ty := .int) (by decide) rfl rfl (g := (mkF m 91 #[.val (.ref a3_0), .val (.int p3_1), .val (.int p3_2), .val (.long q3_3), .second, .val (.long q3_4), .second, .val (.int v7), .val (.int v16), .val (.int v24)] [(.int p3_2), (.ref a3_0)])) rfl rfl (hb hby d3_91)
    have F31 := f30.same W31
    have K31 : Keep h0 h31 [a3_0] := K28.wr W31 (Or.inl (List.mem_of_getElem? (i := 0) rfl))
    have Z31 : n0 ≤ h31.size := Nat.le_trans Z0 K31.1
    have N31 := Fr.snoc X31 N28 g_a3_0
    have f32 := (f29.wr W31)
    have f33 := ((F_raisedAt_a3_0.other W28 (Or.inr (slot_ne (Or.inl (ow20 hw)) (Or.inl (ow18 hw)) (by decide) (t := .long) (t' := .int) (by decide) (by decide)))).other W31 (Or.inr (slot_ne (Or.inl (ow20 hw)) (Or.inl (ow35 hw)) (by decide) (t := .long) (t' := .int) (by decide) (by decide))))
    obtain ⟨T34, h34, X34, e34, W34, st34⟩ := putF X31 hx hZ hown (host := "") (Or.inl (ow19 hw)) Via.refl e31 f33 f32 (Or.inl (ow20 hw)) (ow4 hw) (ty := .long) (by decide) rfl rfl (g := (mkF m 99 #[.val (.ref a3_0), .val (.int p3_1), .val (.int p3_2), .val (.long q3_3), .second, .val (.long q3_4), .second, .val (.int v7), .val (.int v16), .val (.int v24)] [(.long (q3_4 - q3_3)), (.ref a3_0)])) rfl rfl (hb hby d3_99)
    have F34 := f33.same W34
    have K34 : Keep h0 h34 [a3_0] := K31.wr W34 (Or.inl (List.mem_of_getElem? (i := 0) rfl))
    have Z34 : n0 ≤ h34.size := Nat.le_trans Z0 K34.1
    have N34 := Fr.snoc X34 N31 g_a3_0
    have f35 := (f32.wr W34)
    have f36 := (((F_since_a3_0.other W28 (Or.inr (slot_ne (Or.inl (ow22 hw)) (Or.inl (ow18 hw)) (by decide) (t := .long) (t' := .int) (by decide) (by decide)))).other W31 (Or.inr (slot_ne (Or.inl (ow22 hw)) (Or.inl (ow35 hw)) (by decide) (t := .long) (t' := .int) (by decide) (by decide)))).other W34 (Or.inr (slot_ne (Or.inl (ow22 hw)) (Or.inl (ow20 hw)) (by decide) (t := .long) (t' := .long) (by decide) (by decide))))
    obtain ⟨T37, h37, X37, e37, W37, st37⟩ := putF X34 hx hZ hown (host := "") (Or.inl (ow21 hw)) Via.refl e34 f36 f35 (Or.inl (ow22 hw)) (ow4 hw) (ty := .long) (by decide) rfl rfl (g := (mkF m 110 #[.val (.ref a3_0), .val (.int p3_1), .val (.int p3_2), .val (.long q3_3), .second, .val (.long q3_4), .second, .val (.int v7), .val (.int v16), .val (.int v24)] [(.long q3_4), (.ref a3_0)])) rfl rfl (hb hby d3_110)
    have F37 := f36.same W37
    have K37 : Keep h0 h37 [a3_0] := K34.wr W37 (Or.inl (List.mem_of_getElem? (i := 0) rfl))
    have Z37 : n0 ≤ h37.size := Nat.le_trans Z0 K37.1
    have N37 := Fr.snoc X37 N34 g_a3_0
    have f38 := (f35.wr W37)
    have f39 := ((((F_checkAt_a3_0.other W28 (Or.inr (slot_ne (Or.inl (ow16 hw)) (Or.inl (ow18 hw)) (by decide) (t := .long) (t' := .int) (by decide) (by decide)))).other W31 (Or.inr (slot_ne (Or.inl (ow16 hw)) (Or.inl (ow35 hw)) (by decide) (t := .long) (t' := .int) (by decide) (by decide)))).other W34 (Or.inr (slot_ne (Or.inl (ow16 hw)) (Or.inl (ow20 hw)) (by decide) (t := .long) (t' := .long) (by decide) (by decide)))).other W37 (Or.inr (slot_ne (Or.inl (ow16 hw)) (Or.inl (ow22 hw)) (by decide) (t := .long) (t' := .long) (by decide) (by decide))))
    obtain ⟨T40, h40, X40, e40, W40, st40⟩ := putF X37 hx hZ hown (host := "") (Or.inl (ow15 hw)) Via.refl e37 f39 f38 (Or.inl (ow16 hw)) (ow4 hw) (ty := .long) (by decide) rfl rfl (g := (mkF m 120 #[.val (.ref a3_0), .val (.int p3_1), .val (.int p3_2), .val (.long q3_3), .second, .val (.long q3_4), .second, .val (.int v7), .val (.int v16), .val (.int v24)] [(.long (q3_4 + (1000 : Int64))), (.ref a3_0)])) rfl rfl (hb hby d3_120)
    have F40 := f39.same W40
    have K40 : Keep h0 h40 [a3_0] := K37.wr W40 (Or.inl (List.mem_of_getElem? (i := 0) rfl))
    have Z40 : n0 ≤ h40.size := Nat.le_trans Z0 K40.1
    have N40 := Fr.snoc X40 N37 g_a3_0
    obtain ⟨fs, hr, hrun, hended, hW, hsame⟩ := X40.leave (v := some (.int (1 : Int32))) (fun h => by rw [Bd.returns] at h; cases h)
    refine ⟨_, _, pre0 _ ?_, hrun, hended, _, _, rfl, ?_, ⟨_, rfl⟩, hW, hsame.mono (by decide) (by decide)⟩
    · refine G2 _ ?_
      refine G8 _ ?_
      refine G9 _ ?_
      refine G17 _ ?_
      refine G19 _ ?_
      refine G25 _ ?_
      refine G26 _ ?_
      show Steps p.tables e below (T25.setTop (mkF m 76 #[.val (.ref a3_0), .val (.int p3_1), .val (.int p3_2), .val (.long q3_3), .second, .val (.long q3_4), .second, .val (.int v7), .val (.int v16), .val (.int v24)] [(.int v16)])) _
      refine XS.ifYes X25.here hx rfl (pc0 := 76) (pc' := 84) rfl (hb hby d3_76) rfl ((if0 _ _).trans (feq (own_b1 (hv16.trans (if_pos h76_27)))).2) (by decide) (by decide) ?_
      show Steps p.tables e below (T25.setTop (mkF m 84 #[.val (.ref a3_0), .val (.int p3_1), .val (.int p3_2), .val (.long q3_3), .second, .val (.long q3_4), .second, .val (.int v7), .val (.int v16), .val (.int v24)] [])) _
      refine XS.aloadN X25.here hx rfl (hb hby d3_84) rfl rfl ?_
      show Steps p.tables e below (T25.setTop (mkF m 85 #[.val (.ref a3_0), .val (.int p3_1), .val (.int p3_2), .val (.long q3_3), .second, .val (.long q3_4), .second, .val (.int v7), .val (.int v16), .val (.int v24)] [(.ref a3_0)])) _
      refine XS.iloadN X25.here hx rfl (hb hby d3_85) rfl ?_
      show Steps p.tables e below (T25.setTop (mkF m 86 #[.val (.ref a3_0), .val (.int p3_1), .val (.int p3_2), .val (.long q3_3), .second, .val (.long q3_4), .second, .val (.int v7), .val (.int v16), .val (.int v24)] [(.int p3_1), (.ref a3_0)])) _
      refine st28 _ ?_
      show Steps p.tables e below (T28.setTop (mkF m 89 #[.val (.ref a3_0), .val (.int p3_1), .val (.int p3_2), .val (.long q3_3), .second, .val (.long q3_4), .second, .val (.int v7), .val (.int v16), .val (.int v24)] [])) _
      refine XS.aloadN X28.here hx rfl (hb hby d3_89) rfl rfl ?_
      show Steps p.tables e below (T28.setTop (mkF m 90 #[.val (.ref a3_0), .val (.int p3_1), .val (.int p3_2), .val (.long q3_3), .second, .val (.long q3_4), .second, .val (.int v7), .val (.int v16), .val (.int v24)] [(.ref a3_0)])) _
      refine XS.iloadN X28.here hx rfl (hb hby d3_90) rfl ?_
      show Steps p.tables e below (T28.setTop (mkF m 91 #[.val (.ref a3_0), .val (.int p3_1), .val (.int p3_2), .val (.long q3_3), .second, .val (.long q3_4), .second, .val (.int v7), .val (.int v16), .val (.int v24)] [(.int p3_2), (.ref a3_0)])) _
      refine st31 _ ?_
      show Steps p.tables e below (T31.setTop (mkF m 94 #[.val (.ref a3_0), .val (.int p3_1), .val (.int p3_2), .val (.long q3_3), .second, .val (.long q3_4), .second, .val (.int v7), .val (.int v16), .val (.int v24)] [])) _
      refine XS.aloadN X31.here hx rfl (hb hby d3_94) rfl rfl ?_
      show Steps p.tables e below (T31.setTop (mkF m 95 #[.val (.ref a3_0), .val (.int p3_1), .val (.int p3_2), .val (.long q3_3), .second, .val (.long q3_4), .second, .val (.int v7), .val (.int v16), .val (.int v24)] [(.ref a3_0)])) _
      refine XS.lload X31.here hx rfl (hb hby d3_95) rfl ?_
      show Steps p.tables e below (T31.setTop (mkF m 97 #[.val (.ref a3_0), .val (.int p3_1), .val (.int p3_2), .val (.long q3_3), .second, .val (.long q3_4), .second, .val (.int v7), .val (.int v16), .val (.int v24)] [(.long q3_4), (.ref a3_0)])) _
      refine XS.lloadN X31.here hx rfl (hb hby d3_97) rfl ?_
      show Steps p.tables e below (T31.setTop (mkF m 98 #[.val (.ref a3_0), .val (.int p3_1), .val (.int p3_2), .val (.long q3_3), .second, .val (.long q3_4), .second, .val (.int v7), .val (.int v16), .val (.int v24)] [(.long q3_3), (.long q3_4), (.ref a3_0)])) _
      refine XS.lsub X31.here hx rfl (hb hby d3_98) rfl ?_
      show Steps p.tables e below (T31.setTop (mkF m 99 #[.val (.ref a3_0), .val (.int p3_1), .val (.int p3_2), .val (.long q3_3), .second, .val (.long q3_4), .second, .val (.int v7), .val (.int v16), .val (.int v24)] [(.long (q3_4 - q3_3)), (.ref a3_0)])) _
      refine st34 _ ?_
      show Steps p.tables e below (T34.setTop (mkF m 102 #[.val (.ref a3_0), .val (.int p3_1), .val (.int p3_2), .val (.long q3_3), .second, .val (.long q3_4), .second, .val (.int v7), .val (.int v16), .val (.int v24)] [])) _
      refine XS.iload X34.here hx rfl (hb hby d3_102) rfl ?_
      show Steps p.tables e below (T34.setTop (mkF m 104 #[.val (.ref a3_0), .val (.int p3_1), .val (.int p3_2), .val (.long q3_3), .second, .val (.long q3_4), .second, .val (.int v7), .val (.int v16), .val (.int v24)] [(.int v16)])) _
      refine XS.ifNo X34.here hx rfl (hb hby d3_104) rfl ((if0 _ _).trans (feq (own_b1 (hv16.trans (if_pos h76_27)))).1) ?_
      show Steps p.tables e below (T34.setTop (mkF m 107 #[.val (.ref a3_0), .val (.int p3_1), .val (.int p3_2), .val (.long q3_3), .second, .val (.long q3_4), .second, .val (.int v7), .val (.int v16), .val (.int v24)] [])) _
      refine XS.aloadN X34.here hx rfl (hb hby d3_107) rfl rfl ?_
      show Steps p.tables e below (T34.setTop (mkF m 108 #[.val (.ref a3_0), .val (.int p3_1), .val (.int p3_2), .val (.long q3_3), .second, .val (.long q3_4), .second, .val (.int v7), .val (.int v16), .val (.int v24)] [(.ref a3_0)])) _
      refine XS.lload X34.here hx rfl (hb hby d3_108) rfl ?_
      show Steps p.tables e below (T34.setTop (mkF m 110 #[.val (.ref a3_0), .val (.int p3_1), .val (.int p3_2), .val (.long q3_3), .second, .val (.long q3_4), .second, .val (.int v7), .val (.int v16), .val (.int v24)] [(.long q3_4), (.ref a3_0)])) _
      refine st37 _ ?_
      show Steps p.tables e below (T37.setTop (mkF m 113 #[.val (.ref a3_0), .val (.int p3_1), .val (.int p3_2), .val (.long q3_3), .second, .val (.long q3_4), .second, .val (.int v7), .val (.int v16), .val (.int v24)] [])) _
      refine XS.aloadN X37.here hx rfl (hb hby d3_113) rfl rfl ?_
      show Steps p.tables e below (T37.setTop (mkF m 114 #[.val (.ref a3_0), .val (.int p3_1), .val (.int p3_2), .val (.long q3_3), .second, .val (.long q3_4), .second, .val (.int v7), .val (.int v16), .val (.int v24)] [(.ref a3_0)])) _
      refine XS.lload X37.here hx rfl (hb hby d3_114) rfl ?_
      show Steps p.tables e below (T37.setTop (mkF m 116 #[.val (.ref a3_0), .val (.int p3_1), .val (.int p3_2), .val (.long q3_3), .second, .val (.long q3_4), .second, .val (.int v7), .val (.int v16), .val (.int v24)] [(.long q3_4), (.ref a3_0)])) _
      refine X37.ldc2Long hx hown (mvT hZ (ow63 hw)) (g := (mkF m 116 #[.val (.ref a3_0), .val (.int p3_1), .val (.int p3_2), .val (.long q3_3), .second, .val (.long q3_4), .second, .val (.int v7), .val (.int v16), .val (.int v24)] [(.long q3_4), (.ref a3_0)])) rfl (hb hby d3_116) _ ?_
      show Steps p.tables e below (T37.setTop (mkF m 119 #[.val (.ref a3_0), .val (.int p3_1), .val (.int p3_2), .val (.long q3_3), .second, .val (.long q3_4), .second, .val (.int v7), .val (.int v16), .val (.int v24)] [(.long (1000 : Int64)), (.long q3_4), (.ref a3_0)])) _
      refine XS.ladd X37.here hx rfl (hb hby d3_119) rfl ?_
      show Steps p.tables e below (T37.setTop (mkF m 120 #[.val (.ref a3_0), .val (.int p3_1), .val (.int p3_2), .val (.long q3_3), .second, .val (.long q3_4), .second, .val (.int v7), .val (.int v16), .val (.int v24)] [(.long (q3_4 + (1000 : Int64))), (.ref a3_0)])) _
      refine st40 _ ?_
      show Steps p.tables e below (T40.setTop (mkF m 123 #[.val (.ref a3_0), .val (.int p3_1), .val (.int p3_2), .val (.long q3_3), .second, .val (.long q3_4), .second, .val (.int v7), .val (.int v16), .val (.int v24)] [])) _
      refine XS.iload X40.here hx rfl (hb hby d3_123) rfl ?_
      show Steps p.tables e below (T40.setTop (mkF m 125 #[.val (.ref a3_0), .val (.int p3_1), .val (.int p3_2), .val (.long q3_3), .second, .val (.long q3_4), .second, .val (.int v7), .val (.int v16), .val (.int v24)] [(.int v16)])) _
      rw [show v16 = (1 : Int32) from hv16.trans (if_pos h76_27)]
      show Steps p.tables e below (T40.setTop (mkF m 125 #[.val (.ref a3_0), .val (.int p3_1), .val (.int p3_2), .val (.long q3_3), .second, .val (.long q3_4), .second, .val (.int v7), .val (.int (1 : Int32)), .val (.int v24)] [(.int (1 : Int32))])) _
      exact retN X40 hx (t := .boolean) Bd.returns (by simp) (hb hby d3_125) hr
    · have f50 := (((((F_dropped_a3_0.other W28 (Or.inr (slot_ne (Or.inl (ow13 hw)) (Or.inl (ow18 hw)) (by decide) (t := .int) (t' := .int) (by decide) (by decide)))).other W31 (Or.inr (slot_ne (Or.inl (ow13 hw)) (Or.inl (ow35 hw)) (by decide) (t := .int) (t' := .int) (by decide) (by decide)))).other W34 (Or.inr (slot_ne (Or.inl (ow13 hw)) (Or.inl (ow20 hw)) (by decide) (t := .int) (t' := .long) (by decide) (by decide)))).other W37 (Or.inr (slot_ne (Or.inl (ow13 hw)) (Or.inl (ow22 hw)) (by decide) (t := .int) (t' := .long) (by decide) (by decide)))).other W40 (Or.inr (slot_ne (Or.inl (ow13 hw)) (Or.inl (ow16 hw)) (by decide) (t := .int) (t' := .long) (by decide) (by decide))))
      have f51 := ((((F28.other W31 (Or.inr (slot_ne (Or.inl (ow18 hw)) (Or.inl (ow35 hw)) (by decide) (t := .int) (t' := .int) (by decide) (by decide)))).other W34 (Or.inr (slot_ne (Or.inl (ow18 hw)) (Or.inl (ow20 hw)) (by decide) (t := .int) (t' := .long) (by decide) (by decide)))).other W37 (Or.inr (slot_ne (Or.inl (ow18 hw)) (Or.inl (ow22 hw)) (by decide) (t := .int) (t' := .long) (by decide) (by decide)))).other W40 (Or.inr (slot_ne (Or.inl (ow18 hw)) (Or.inl (ow16 hw)) (by decide) (t := .int) (t' := .long) (by decide) (by decide))))
      have f52 := (f38.wr W40)
      have f53 := (((F31.other W34 (Or.inr (slot_ne (Or.inl (ow35 hw)) (Or.inl (ow20 hw)) (by decide) (t := .int) (t' := .long) (by decide) (by decide)))).other W37 (Or.inr (slot_ne (Or.inl (ow35 hw)) (Or.inl (ow22 hw)) (by decide) (t := .int) (t' := .long) (by decide) (by decide)))).other W40 (Or.inr (slot_ne (Or.inl (ow35 hw)) (Or.inl (ow16 hw)) (by decide) (t := .int) (t' := .long) (by decide) (by decide))))
      have f54 := ((F34.other W37 (Or.inr (slot_ne (Or.inl (ow20 hw)) (Or.inl (ow22 hw)) (by decide) (t := .long) (t' := .long) (by decide) (by decide)))).other W40 (Or.inr (slot_ne (Or.inl (ow20 hw)) (Or.inl (ow16 hw)) (by decide) (t := .long) (t' := .long) (by decide) (by decide))))
      have f55 := (F37.other W40 (Or.inr (slot_ne (Or.inl (ow22 hw)) (Or.inl (ow16 hw)) (by decide) (t := .long) (t' := .long) (by decide) (by decide))))
      have f56 := (((((F_droppedBeat_a3_0.other W28 (Or.inr (slot_ne (Or.inl (ow67 hw)) (Or.inl (ow18 hw)) (by decide) (t := .int) (t' := .int) (by decide) (by decide)))).other W31 (Or.inr (slot_ne (Or.inl (ow67 hw)) (Or.inl (ow35 hw)) (by decide) (t := .int) (t' := .int) (by decide) (by decide)))).other W34 (Or.inr (slot_ne (Or.inl (ow67 hw)) (Or.inl (ow20 hw)) (by decide) (t := .int) (t' := .long) (by decide) (by decide)))).other W37 (Or.inr (slot_ne (Or.inl (ow67 hw)) (Or.inl (ow22 hw)) (by decide) (t := .int) (t' := .long) (by decide) (by decide)))).other W40 (Or.inr (slot_ne (Or.inl (ow67 hw)) (Or.inl (ow16 hw)) (by decide) (t := .int) (t' := .long) (by decide) (by decide))))
      have f57 := (((((F_far_a3_0.other W28 (Or.inr (slot_ne (Or.inl (ow62 hw)) (Or.inl (ow18 hw)) (by decide) (t := .boolean) (t' := .int) (by decide) (by decide)))).other W31 (Or.inr (slot_ne (Or.inl (ow62 hw)) (Or.inl (ow35 hw)) (by decide) (t := .boolean) (t' := .int) (by decide) (by decide)))).other W34 (Or.inr (slot_ne (Or.inl (ow62 hw)) (Or.inl (ow20 hw)) (by decide) (t := .boolean) (t' := .long) (by decide) (by decide)))).other W37 (Or.inr (slot_ne (Or.inl (ow62 hw)) (Or.inl (ow22 hw)) (by decide) (t := .boolean) (t' := .long) (by decide) (by decide)))).other W40 (Or.inr (slot_ne (Or.inl (ow62 hw)) (Or.inl (ow16 hw)) (by decide) (t := .boolean) (t' := .long) (by decide) (by decide))))
      show Q_rm3 Z a3_0 p3_1 p3_2 q3_3 q3_4 w_dropped_a3_0 w_droppedBeat_a3_0 w_node_a3_0 w_beat_a3_0 w_raisedAt_a3_0 w_since_a3_0 w_checkAt_a3_0 w_far_a3_0 h0 n0 _ T40.heap _
      rw [e40]
      subst hv24
      subst hv16
      subst hv7
      exact ⟨(congrArg (fun z => some (Value.int z)) (if_pos h76_27).symm), N40, K40, f50, (own_fld f51 (congrArg Value.int (if_pos h76_27))), f52, (own_fld f53 (congrArg Value.int (if_pos h76_27))), (own_fld f54 (congrArg Value.long (if_pos h76_27))), (own_fld f55 (congrArg Value.long (if_pos h76_27))), (own_fld F40 (congrArg Value.long (if_pos h76_27))), f56, f57⟩
  · have G41 : ∀ t, Steps p.tables e below (T25.setTop (mkF m 81 #[.val (.ref a3_0), .val (.int p3_1), .val (.int p3_2), .val (.long q3_3), .second, .val (.long q3_4), .second, .val (.int v7), .val (.int v16), .val (.int v24)] [(.int v24)])) t → Steps p.tables e below (T25.setTop (mkF m 76 #[.val (.ref a3_0), .val (.int p3_1), .val (.int p3_2), .val (.long q3_3), .second, .val (.long q3_4), .second, .val (.int v7), .val (.int v16), .val (.int v24)] [(.int v16)])) t := by
      intro t k
      show Steps p.tables e below (T25.setTop (mkF m 76 #[.val (.ref a3_0), .val (.int p3_1), .val (.int p3_2), .val (.long q3_3), .second, .val (.long q3_4), .second, .val (.int v7), .val (.int v16), .val (.int v24)] [(.int v16)])) _
      refine XS.ifNo X25.here hx rfl (hb hby d3_76) rfl ((if0 _ _).trans (teq (hv16.trans (if_neg h76_27))).2) ?_
      show Steps p.tables e below (T25.setTop (mkF m 79 #[.val (.ref a3_0), .val (.int p3_1), .val (.int p3_2), .val (.long q3_3), .second, .val (.long q3_4), .second, .val (.int v7), .val (.int v16), .val (.int v24)] [])) _
      refine XS.iload X25.here hx rfl (hb hby d3_79) rfl ?_
      exact k
    by_cases h81_42 : (p3_1 = w_node_a3_0 ∧ w_beat_a3_0 < p3_2)
    · obtain ⟨T43, h43, X43, e43, W43, st43⟩ := putF X25 hx hZ hown (host := "") (Or.inl (ow17 hw)) Via.refl e25 F_node_a3_0 E_a3_0 (Or.inl (ow18 hw)) (ow4 hw) (ty := .int) (by decide) rfl rfl (g := (mkF m 86 #[.val (.ref a3_0), .val (.int p3_1), .val (.int p3_2), .val (.long q3_3), .second, .val (.long q3_4), .second, .val (.int v7), .val (.int v16), .val (.int v24)] [(.int p3_1), (.ref a3_0)])) rfl rfl (hb hby d3_86)
      have F43 := F_node_a3_0.same W43
      have K43 : Keep h0 h43 [a3_0] := (Keep.refl h0 [a3_0]).wr W43 (Or.inl (List.mem_of_getElem? (i := 0) rfl))
      have Z43 : n0 ≤ h43.size := Nat.le_trans Z0 K43.1
      have N43 := Fr.snoc X43 N25 g_a3_0
      have f44 := (E_a3_0.wr W43)
      have f45 := (F_beat_a3_0.other W43 (Or.inr (slot_ne (Or.inl (ow35 hw)) (Or.inl (ow18 hw)) (by decide) (t := .int) (t' := .int) (by decide) (by decide))))
      obtain ⟨T46, h46, X46, e46, W46, st46⟩ := putF X43 hx hZ hown (host := "") (Or.inl (ow34 hw)) Via.refl e43 f45 f44 (Or.inl (ow35 hw)) (ow4 hw) (ty := .int) (by decide) rfl rfl (g := (mkF m 91 #[.val (.ref a3_0), .val (.int p3_1), .val (.int p3_2), .val (.long q3_3), .second, .val (.long q3_4), .second, .val (.int v7), .val (.int v16), .val (.int v24)] [(.int p3_2), (.ref a3_0)])) rfl rfl (hb hby d3_91)
      have F46 := f45.same W46
      have K46 : Keep h0 h46 [a3_0] := K43.wr W46 (Or.inl (List.mem_of_getElem? (i := 0) rfl))
      have Z46 : n0 ≤ h46.size := Nat.le_trans Z0 K46.1
      have N46 := Fr.snoc X46 N43 g_a3_0
      have f47 := (f44.wr W46)
      have f48 := ((F_raisedAt_a3_0.other W43 (Or.inr (slot_ne (Or.inl (ow20 hw)) (Or.inl (ow18 hw)) (by decide) (t := .long) (t' := .int) (by decide) (by decide)))).other W46 (Or.inr (slot_ne (Or.inl (ow20 hw)) (Or.inl (ow35 hw)) (by decide) (t := .long) (t' := .int) (by decide) (by decide))))
      obtain ⟨T49, h49, X49, e49, W49, st49⟩ := putF X46 hx hZ hown (host := "") (Or.inl (ow19 hw)) Via.refl e46 f48 f47 (Or.inl (ow20 hw)) (ow4 hw) (ty := .long) (by decide) rfl rfl (g := (mkF m 99 #[.val (.ref a3_0), .val (.int p3_1), .val (.int p3_2), .val (.long q3_3), .second, .val (.long q3_4), .second, .val (.int v7), .val (.int v16), .val (.int v24)] [(.long (q3_4 - q3_3)), (.ref a3_0)])) rfl rfl (hb hby d3_99)
      have F49 := f48.same W49
      have K49 : Keep h0 h49 [a3_0] := K46.wr W49 (Or.inl (List.mem_of_getElem? (i := 0) rfl))
      have Z49 : n0 ≤ h49.size := Nat.le_trans Z0 K49.1
      have N49 := Fr.snoc X49 N46 g_a3_0
      obtain ⟨fs, hr, hrun, hended, hW, hsame⟩ := X49.leave (v := some (.int (0 : Int32))) (fun h => by rw [Bd.returns] at h; cases h)
      refine ⟨_, _, pre0 _ ?_, hrun, hended, _, _, rfl, ?_, ⟨_, rfl⟩, hW, hsame.mono (by decide) (by decide)⟩
      · refine G2 _ ?_
        refine G8 _ ?_
        refine G9 _ ?_
        refine G17 _ ?_
        refine G19 _ ?_
        refine G25 _ ?_
        refine G26 _ ?_
        refine G41 _ ?_
        show Steps p.tables e below (T25.setTop (mkF m 81 #[.val (.ref a3_0), .val (.int p3_1), .val (.int p3_2), .val (.long q3_3), .second, .val (.long q3_4), .second, .val (.int v7), .val (.int v16), .val (.int v24)] [(.int v24)])) _
        refine XS.ifNo X25.here hx rfl (hb hby d3_81) rfl ((if0 _ _).trans (feq (own_b1 (hv24.trans (if_pos h81_42)))).1) ?_
        show Steps p.tables e below (T25.setTop (mkF m 84 #[.val (.ref a3_0), .val (.int p3_1), .val (.int p3_2), .val (.long q3_3), .second, .val (.long q3_4), .second, .val (.int v7), .val (.int v16), .val (.int v24)] [])) _
        refine XS.aloadN X25.here hx rfl (hb hby d3_84) rfl rfl ?_
        show Steps p.tables e below (T25.setTop (mkF m 85 #[.val (.ref a3_0), .val (.int p3_1), .val (.int p3_2), .val (.long q3_3), .second, .val (.long q3_4), .second, .val (.int v7), .val (.int v16), .val (.int v24)] [(.ref a3_0)])) _
        refine XS.iloadN X25.here hx rfl (hb hby d3_85) rfl ?_
        show Steps p.tables e below (T25.setTop (mkF m 86 #[.val (.ref a3_0), .val (.int p3_1), .val (.int p3_2), .val (.long q3_3), .second, .val (.long q3_4), .second, .val (.int v7), .val (.int v16), .val (.int v24)] [(.int p3_1), (.ref a3_0)])) _
        refine st43 _ ?_
        show Steps p.tables e below (T43.setTop (mkF m 89 #[.val (.ref a3_0), .val (.int p3_1), .val (.int p3_2), .val (.long q3_3), .second, .val (.long q3_4), .second, .val (.int v7), .val (.int v16), .val (.int v24)] [])) _
        refine XS.aloadN X43.here hx rfl (hb hby d3_89) rfl rfl ?_
        show Steps p.tables e below (T43.setTop (mkF m 90 #[.val (.ref a3_0), .val (.int p3_1), .val (.int p3_2), .val (.long q3_3), .second, .val (.long q3_4), .second, .val (.int v7), .val (.int v16), .val (.int v24)] [(.ref a3_0)])) _
        refine XS.iloadN X43.here hx rfl (hb hby d3_90) rfl ?_
        show Steps p.tables e below (T43.setTop (mkF m 91 #[.val (.ref a3_0), .val (.int p3_1), .val (.int p3_2), .val (.long q3_3), .second, .val (.long q3_4), .second, .val (.int v7), .val (.int v16), .val (.int v24)] [(.int p3_2), (.ref a3_0)])) _
        refine st46 _ ?_
        show Steps p.tables e below (T46.setTop (mkF m 94 #[.val (.ref a3_0), .val (.int p3_1), .val (.int p3_2), .val (.long q3_3), .second, .val (.long q3_4), .second, .val (.int v7), .val (.int v16), .val (.int v24)] [])) _
        refine XS.aloadN X46.here hx rfl (hb hby d3_94) rfl rfl ?_
        show Steps p.tables e below (T46.setTop (mkF m 95 #[.val (.ref a3_0), .val (.int p3_1), .val (.int p3_2), .val (.long q3_3), .second, .val (.long q3_4), .second, .val (.int v7), .val (.int v16), .val (.int v24)] [(.ref a3_0)])) _
        refine XS.lload X46.here hx rfl (hb hby d3_95) rfl ?_
        show Steps p.tables e below (T46.setTop (mkF m 97 #[.val (.ref a3_0), .val (.int p3_1), .val (.int p3_2), .val (.long q3_3), .second, .val (.long q3_4), .second, .val (.int v7), .val (.int v16), .val (.int v24)] [(.long q3_4), (.ref a3_0)])) _
        refine XS.lloadN X46.here hx rfl (hb hby d3_97) rfl ?_
        show Steps p.tables e below (T46.setTop (mkF m 98 #[.val (.ref a3_0), .val (.int p3_1), .val (.int p3_2), .val (.long q3_3), .second, .val (.long q3_4), .second, .val (.int v7), .val (.int v16), .val (.int v24)] [(.long q3_3), (.long q3_4), (.ref a3_0)])) _
        refine XS.lsub X46.here hx rfl (hb hby d3_98) rfl ?_
        show Steps p.tables e below (T46.setTop (mkF m 99 #[.val (.ref a3_0), .val (.int p3_1), .val (.int p3_2), .val (.long q3_3), .second, .val (.long q3_4), .second, .val (.int v7), .val (.int v16), .val (.int v24)] [(.long (q3_4 - q3_3)), (.ref a3_0)])) _
        refine st49 _ ?_
        show Steps p.tables e below (T49.setTop (mkF m 102 #[.val (.ref a3_0), .val (.int p3_1), .val (.int p3_2), .val (.long q3_3), .second, .val (.long q3_4), .second, .val (.int v7), .val (.int v16), .val (.int v24)] [])) _
        refine XS.iload X49.here hx rfl (hb hby d3_102) rfl ?_
        show Steps p.tables e below (T49.setTop (mkF m 104 #[.val (.ref a3_0), .val (.int p3_1), .val (.int p3_2), .val (.long q3_3), .second, .val (.long q3_4), .second, .val (.int v7), .val (.int v16), .val (.int v24)] [(.int v16)])) _
        refine XS.ifYes X49.here hx rfl (pc0 := 104) (pc' := 123) rfl (hb hby d3_104) rfl ((if0 _ _).trans (teq (hv16.trans (if_neg h76_27))).1) (by decide) (by decide) ?_
        show Steps p.tables e below (T49.setTop (mkF m 123 #[.val (.ref a3_0), .val (.int p3_1), .val (.int p3_2), .val (.long q3_3), .second, .val (.long q3_4), .second, .val (.int v7), .val (.int v16), .val (.int v24)] [])) _
        refine XS.iload X49.here hx rfl (hb hby d3_123) rfl ?_
        show Steps p.tables e below (T49.setTop (mkF m 125 #[.val (.ref a3_0), .val (.int p3_1), .val (.int p3_2), .val (.long q3_3), .second, .val (.long q3_4), .second, .val (.int v7), .val (.int v16), .val (.int v24)] [(.int v16)])) _
        rw [show v16 = (0 : Int32) from hv16.trans (if_neg h76_27)]
        show Steps p.tables e below (T49.setTop (mkF m 125 #[.val (.ref a3_0), .val (.int p3_1), .val (.int p3_2), .val (.long q3_3), .second, .val (.long q3_4), .second, .val (.int v7), .val (.int (0 : Int32)), .val (.int v24)] [(.int (0 : Int32))])) _
        exact retN X49 hx (t := .boolean) Bd.returns (by simp) (hb hby d3_125) hr
      · have f58 := (((F_dropped_a3_0.other W43 (Or.inr (slot_ne (Or.inl (ow13 hw)) (Or.inl (ow18 hw)) (by decide) (t := .int) (t' := .int) (by decide) (by decide)))).other W46 (Or.inr (slot_ne (Or.inl (ow13 hw)) (Or.inl (ow35 hw)) (by decide) (t := .int) (t' := .int) (by decide) (by decide)))).other W49 (Or.inr (slot_ne (Or.inl (ow13 hw)) (Or.inl (ow20 hw)) (by decide) (t := .int) (t' := .long) (by decide) (by decide))))
        have f59 := ((F43.other W46 (Or.inr (slot_ne (Or.inl (ow18 hw)) (Or.inl (ow35 hw)) (by decide) (t := .int) (t' := .int) (by decide) (by decide)))).other W49 (Or.inr (slot_ne (Or.inl (ow18 hw)) (Or.inl (ow20 hw)) (by decide) (t := .int) (t' := .long) (by decide) (by decide))))
        have f60 := (f47.wr W49)
        have f61 := (F46.other W49 (Or.inr (slot_ne (Or.inl (ow35 hw)) (Or.inl (ow20 hw)) (by decide) (t := .int) (t' := .long) (by decide) (by decide))))
        have f62 := (((F_since_a3_0.other W43 (Or.inr (slot_ne (Or.inl (ow22 hw)) (Or.inl (ow18 hw)) (by decide) (t := .long) (t' := .int) (by decide) (by decide)))).other W46 (Or.inr (slot_ne (Or.inl (ow22 hw)) (Or.inl (ow35 hw)) (by decide) (t := .long) (t' := .int) (by decide) (by decide)))).other W49 (Or.inr (slot_ne (Or.inl (ow22 hw)) (Or.inl (ow20 hw)) (by decide) (t := .long) (t' := .long) (by decide) (by decide))))
        have f63 := (((F_checkAt_a3_0.other W43 (Or.inr (slot_ne (Or.inl (ow16 hw)) (Or.inl (ow18 hw)) (by decide) (t := .long) (t' := .int) (by decide) (by decide)))).other W46 (Or.inr (slot_ne (Or.inl (ow16 hw)) (Or.inl (ow35 hw)) (by decide) (t := .long) (t' := .int) (by decide) (by decide)))).other W49 (Or.inr (slot_ne (Or.inl (ow16 hw)) (Or.inl (ow20 hw)) (by decide) (t := .long) (t' := .long) (by decide) (by decide))))
        have f64 := (((F_droppedBeat_a3_0.other W43 (Or.inr (slot_ne (Or.inl (ow67 hw)) (Or.inl (ow18 hw)) (by decide) (t := .int) (t' := .int) (by decide) (by decide)))).other W46 (Or.inr (slot_ne (Or.inl (ow67 hw)) (Or.inl (ow35 hw)) (by decide) (t := .int) (t' := .int) (by decide) (by decide)))).other W49 (Or.inr (slot_ne (Or.inl (ow67 hw)) (Or.inl (ow20 hw)) (by decide) (t := .int) (t' := .long) (by decide) (by decide))))
        have f65 := (((F_far_a3_0.other W43 (Or.inr (slot_ne (Or.inl (ow62 hw)) (Or.inl (ow18 hw)) (by decide) (t := .boolean) (t' := .int) (by decide) (by decide)))).other W46 (Or.inr (slot_ne (Or.inl (ow62 hw)) (Or.inl (ow35 hw)) (by decide) (t := .boolean) (t' := .int) (by decide) (by decide)))).other W49 (Or.inr (slot_ne (Or.inl (ow62 hw)) (Or.inl (ow20 hw)) (by decide) (t := .boolean) (t' := .long) (by decide) (by decide))))
        show Q_rm3 Z a3_0 p3_1 p3_2 q3_3 q3_4 w_dropped_a3_0 w_droppedBeat_a3_0 w_node_a3_0 w_beat_a3_0 w_raisedAt_a3_0 w_since_a3_0 w_checkAt_a3_0 w_far_a3_0 h0 n0 _ T49.heap _
        rw [e49]
        subst hv24
        subst hv16
        subst hv7
        exact ⟨(congrArg (fun z => some (Value.int z)) (if_neg h76_27).symm), N49, K49, f58, (own_fld f59 (congrArg Value.int ((if_neg h76_27).trans (if_pos h81_42)))), f60, (own_fld f61 (congrArg Value.int ((if_neg h76_27).trans (if_pos h81_42)))), (own_fld F49 (congrArg Value.long ((if_neg h76_27).trans (if_pos h81_42)))), (own_fld f62 (congrArg Value.long (if_neg h76_27))), (own_fld f63 (congrArg Value.long (if_neg h76_27))), f64, f65⟩
    · obtain ⟨fs, hr, hrun, hended, hW, hsame⟩ := X25.leave (v := some (.int (0 : Int32))) (fun h => by rw [Bd.returns] at h; cases h)
      refine ⟨_, _, pre0 _ ?_, hrun, hended, _, _, rfl, ?_, ⟨_, rfl⟩, hW, hsame.mono (by decide) (by decide)⟩
      · refine G2 _ ?_
        refine G8 _ ?_
        refine G9 _ ?_
        refine G17 _ ?_
        refine G19 _ ?_
        refine G25 _ ?_
        refine G26 _ ?_
        refine G41 _ ?_
        show Steps p.tables e below (T25.setTop (mkF m 81 #[.val (.ref a3_0), .val (.int p3_1), .val (.int p3_2), .val (.long q3_3), .second, .val (.long q3_4), .second, .val (.int v7), .val (.int v16), .val (.int v24)] [(.int v24)])) _
        refine XS.ifYes X25.here hx rfl (pc0 := 81) (pc' := 102) rfl (hb hby d3_81) rfl ((if0 _ _).trans (teq (hv24.trans (if_neg h81_42))).1) (by decide) (by decide) ?_
        show Steps p.tables e below (T25.setTop (mkF m 102 #[.val (.ref a3_0), .val (.int p3_1), .val (.int p3_2), .val (.long q3_3), .second, .val (.long q3_4), .second, .val (.int v7), .val (.int v16), .val (.int v24)] [])) _
        refine XS.iload X25.here hx rfl (hb hby d3_102) rfl ?_
        show Steps p.tables e below (T25.setTop (mkF m 104 #[.val (.ref a3_0), .val (.int p3_1), .val (.int p3_2), .val (.long q3_3), .second, .val (.long q3_4), .second, .val (.int v7), .val (.int v16), .val (.int v24)] [(.int v16)])) _
        refine XS.ifYes X25.here hx rfl (pc0 := 104) (pc' := 123) rfl (hb hby d3_104) rfl ((if0 _ _).trans (teq (hv16.trans (if_neg h76_27))).1) (by decide) (by decide) ?_
        show Steps p.tables e below (T25.setTop (mkF m 123 #[.val (.ref a3_0), .val (.int p3_1), .val (.int p3_2), .val (.long q3_3), .second, .val (.long q3_4), .second, .val (.int v7), .val (.int v16), .val (.int v24)] [])) _
        refine XS.iload X25.here hx rfl (hb hby d3_123) rfl ?_
        show Steps p.tables e below (T25.setTop (mkF m 125 #[.val (.ref a3_0), .val (.int p3_1), .val (.int p3_2), .val (.long q3_3), .second, .val (.long q3_4), .second, .val (.int v7), .val (.int v16), .val (.int v24)] [(.int v16)])) _
        rw [show v16 = (0 : Int32) from hv16.trans (if_neg h76_27)]
        show Steps p.tables e below (T25.setTop (mkF m 125 #[.val (.ref a3_0), .val (.int p3_1), .val (.int p3_2), .val (.long q3_3), .second, .val (.long q3_4), .second, .val (.int v7), .val (.int (0 : Int32)), .val (.int v24)] [(.int (0 : Int32))])) _
        exact retN X25 hx (t := .boolean) Bd.returns (by simp) (hb hby d3_125) hr
      · show Q_rm3 Z a3_0 p3_1 p3_2 q3_3 q3_4 w_dropped_a3_0 w_droppedBeat_a3_0 w_node_a3_0 w_beat_a3_0 w_raisedAt_a3_0 w_since_a3_0 w_checkAt_a3_0 w_far_a3_0 h0 n0 _ T25.heap _
        rw [e25]
        subst hv24
        subst hv16
        subst hv7
        exact ⟨(congrArg (fun z => some (Value.int z)) (if_neg h76_27).symm), N25, (Keep.refl h0 [a3_0]), F_dropped_a3_0, (own_fld F_node_a3_0 (congrArg Value.int ((if_neg h76_27).trans (if_neg h81_42)))), E_a3_0, (own_fld F_beat_a3_0 (congrArg Value.int ((if_neg h76_27).trans (if_neg h81_42)))), (own_fld F_raisedAt_a3_0 (congrArg Value.long ((if_neg h76_27).trans (if_neg h81_42)))), (own_fld F_since_a3_0 (congrArg Value.long (if_neg h76_27))), (own_fld F_checkAt_a3_0 (congrArg Value.long (if_neg h76_27))), F_droppedBeat_a3_0, F_far_a3_0⟩
theorem d4_0 : decode prog_81_method_9_code 0 = .ok (.aload_n 0, 1) := by decide +kernel
theorem d4_1 : decode prog_81_method_9_code 1 = .ok (.getfield 21, 3) := by decide +kernel
theorem d4_4 : decode prog_81_method_9_code 4 = .ok (.iload_n 1, 1) := by decide +kernel
theorem d4_5 : decode prog_81_method_9_code 5 = .ok (.if_icmp .eq 20, 3) := by decide +kernel
theorem d4_8 : decode prog_81_method_9_code 8 = .ok (.lload_n 3, 1) := by decide +kernel
theorem d4_9 : decode prog_81_method_9_code 9 = .ok (.aload_n 0, 1) := by decide +kernel
theorem d4_10 : decode prog_81_method_9_code 10 = .ok (.getfield 24, 3) := by decide +kernel
theorem d4_13 : decode prog_81_method_9_code 13 = .ok (.lsub, 1) := by decide +kernel
theorem d4_14 : decode prog_81_method_9_code 14 = .ok (.ldc2_w 42, 3) := by decide +kernel
theorem d4_17 : decode prog_81_method_9_code 17 = .ok (.lcmp, 1) := by decide +kernel
theorem d4_18 : decode prog_81_method_9_code 18 = .ok (.ifCond .lt 7, 3) := by decide +kernel
theorem d4_21 : decode prog_81_method_9_code 21 = .ok (.iconst 1, 1) := by decide +kernel
theorem d4_22 : decode prog_81_method_9_code 22 = .ok (.goto 4, 3) := by decide +kernel
theorem d4_25 : decode prog_81_method_9_code 25 = .ok (.iconst 0, 1) := by decide +kernel
theorem d4_26 : decode prog_81_method_9_code 26 = .ok (.istore 5, 2) := by decide +kernel
theorem d4_28 : decode prog_81_method_9_code 28 = .ok (.iload 5, 2) := by decide +kernel
theorem d4_30 : decode prog_81_method_9_code 30 = .ok (.ifCond .eq 29, 3) := by decide +kernel
theorem d4_33 : decode prog_81_method_9_code 33 = .ok (.aload_n 0, 1) := by decide +kernel
theorem d4_34 : decode prog_81_method_9_code 34 = .ok (.aload_n 0, 1) := by decide +kernel
theorem d4_35 : decode prog_81_method_9_code 35 = .ok (.getfield 21, 3) := by decide +kernel
theorem d4_38 : decode prog_81_method_9_code 38 = .ok (.putfield 9, 3) := by decide +kernel
theorem d4_41 : decode prog_81_method_9_code 41 = .ok (.aload_n 0, 1) := by decide +kernel
theorem d4_42 : decode prog_81_method_9_code 42 = .ok (.aload_n 0, 1) := by decide +kernel
theorem d4_43 : decode prog_81_method_9_code 43 = .ok (.getfield 30, 3) := by decide +kernel
theorem d4_46 : decode prog_81_method_9_code 46 = .ok (.putfield 39, 3) := by decide +kernel
theorem d4_49 : decode prog_81_method_9_code 49 = .ok (.aload_n 0, 1) := by decide +kernel
theorem d4_50 : decode prog_81_method_9_code 50 = .ok (.iload_n 1, 1) := by decide +kernel
theorem d4_51 : decode prog_81_method_9_code 51 = .ok (.putfield 21, 3) := by decide +kernel
theorem d4_54 : decode prog_81_method_9_code 54 = .ok (.aload_n 0, 1) := by decide +kernel
theorem d4_55 : decode prog_81_method_9_code 55 = .ok (.lload_n 3, 1) := by decide +kernel
theorem d4_56 : decode prog_81_method_9_code 56 = .ok (.putfield 27, 3) := by decide +kernel
theorem d4_59 : decode prog_81_method_9_code 59 = .ok (.aload_n 0, 1) := by decide +kernel
theorem d4_60 : decode prog_81_method_9_code 60 = .ok (.getfield 21, 3) := by decide +kernel
theorem d4_63 : decode prog_81_method_9_code 63 = .ok (.iload_n 1, 1) := by decide +kernel
theorem d4_64 : decode prog_81_method_9_code 64 = .ok (.if_icmp .ne 13, 3) := by decide +kernel
theorem d4_67 : decode prog_81_method_9_code 67 = .ok (.aload_n 0, 1) := by decide +kernel
theorem d4_68 : decode prog_81_method_9_code 68 = .ok (.iload_n 2, 1) := by decide +kernel
theorem d4_69 : decode prog_81_method_9_code 69 = .ok (.putfield 30, 3) := by decide +kernel
theorem d4_72 : decode prog_81_method_9_code 72 = .ok (.aload_n 0, 1) := by decide +kernel
theorem d4_73 : decode prog_81_method_9_code 73 = .ok (.lload_n 3, 1) := by decide +kernel
theorem d4_74 : decode prog_81_method_9_code 74 = .ok (.putfield 24, 3) := by decide +kernel
theorem d4_77 : decode prog_81_method_9_code 77 = .ok (.lload_n 3, 1) := by decide +kernel
theorem d4_78 : decode prog_81_method_9_code 78 = .ok (.aload_n 0, 1) := by decide +kernel
theorem d4_79 : decode prog_81_method_9_code 79 = .ok (.getfield 17, 3) := by decide +kernel
theorem d4_82 : decode prog_81_method_9_code 82 = .ok (.lcmp, 1) := by decide +kernel
theorem d4_83 : decode prog_81_method_9_code 83 = .ok (.ifCond .lt 37, 3) := by decide +kernel
theorem d4_86 : decode prog_81_method_9_code 86 = .ok (.aload_n 0, 1) := by decide +kernel
theorem d4_87 : decode prog_81_method_9_code 87 = .ok (.ldc2_w 15, 3) := by decide +kernel
theorem d4_90 : decode prog_81_method_9_code 90 = .ok (.putfield 17, 3) := by decide +kernel
theorem d4_93 : decode prog_81_method_9_code 93 = .ok (.aload_n 0, 1) := by decide +kernel
theorem d4_94 : decode prog_81_method_9_code 94 = .ok (.dup, 1) := by decide +kernel
theorem d4_95 : decode prog_81_method_9_code 95 = .ok (.getfield 33, 3) := by decide +kernel
theorem d4_98 : decode prog_81_method_9_code 98 = .ok (.lload_n 3, 1) := by decide +kernel
theorem d4_99 : decode prog_81_method_9_code 99 = .ok (.aload_n 0, 1) := by decide +kernel
theorem d4_100 : decode prog_81_method_9_code 100 = .ok (.getfield 24, 3) := by decide +kernel
theorem d4_103 : decode prog_81_method_9_code 103 = .ok (.lsub, 1) := by decide +kernel
theorem d4_104 : decode prog_81_method_9_code 104 = .ok (.ldc2_w 44, 3) := by decide +kernel
theorem d4_107 : decode prog_81_method_9_code 107 = .ok (.lcmp, 1) := by decide +kernel
theorem d4_108 : decode prog_81_method_9_code 108 = .ok (.ifCond .lt 7, 3) := by decide +kernel
theorem d4_111 : decode prog_81_method_9_code 111 = .ok (.iconst 1, 1) := by decide +kernel
theorem d4_112 : decode prog_81_method_9_code 112 = .ok (.goto 4, 3) := by decide +kernel
theorem d4_115 : decode prog_81_method_9_code 115 = .ok (.iconst 0, 1) := by decide +kernel
theorem d4_116 : decode prog_81_method_9_code 116 = .ok (.ior, 1) := by decide +kernel
theorem d4_117 : decode prog_81_method_9_code 117 = .ok (.putfield 33, 3) := by decide +kernel
theorem d4_120 : decode prog_81_method_9_code 120 = .ok (.iload 5, 2) := by decide +kernel
theorem d4_122 : decode prog_81_method_9_code 122 = .ok (.ireturn, 1) := by decide +kernel
theorem pn_4 : plainName "com/example/halozat/halozat/node/Leader" = true := by first | (simp [plainName, overriddenIn]; done) | decide +kernel
theorem ef_rm4 (m : MethodId) (y0 : Addr) (y1 : Int32) (y2 : Int32) (y3 : Int64) : entryFrame m #[(.ref y0), (.int y1), (.int y2), (.long y3)] 6 = mkF m 0 #[.val (.ref y0), .val (.int y1), .val (.int y2), .val (.long y3), .second, .unset] [] := by first | (simp [entryFrame, mkF, argsToLocals, Value.category]; done) | rfl
def Q_rm4 (Z : State) (a4_0 : Addr) (p4_1 : Int32) (p4_2 : Int32) (q4_3 : Int64) (w_node_a4_0 : Int32) (w_raisedAt_a4_0 : Int64) (w_dropped_a4_0 : Int32) (w_beat_a4_0 : Int32) (w_droppedBeat_a4_0 : Int32) (w_since_a4_0 : Int64) (w_checkAt_a4_0 : Int64) (w_far_a4_0 : Int32) (h0 : Heap) (n0 : Nat) (v : Option Value) (h : Heap) (L : List Loc) : Prop := v = some (.int (if (¬ (w_node_a4_0 = p4_1) ∧ ¬ ((q4_3 - w_raisedAt_a4_0) < (5000 : Int64))) then (1 : Int32) else (0 : Int32))) ∧ Fr n0 L ∧ Keep h0 h [a4_0] ∧ Fld Z h a4_0 "com/example/halozat/halozat/node/Leader" "node" "I" (.int (if (¬ (w_node_a4_0 = p4_1) ∧ ¬ ((q4_3 - w_raisedAt_a4_0) < (5000 : Int64))) then p4_1 else w_node_a4_0)) ∧ Exa Z h a4_0 "com/example/halozat/halozat/node/Leader" ∧ Fld Z h a4_0 "com/example/halozat/halozat/node/Leader" "dropped" "I" (.int (if (¬ (w_node_a4_0 = p4_1) ∧ ¬ ((q4_3 - w_raisedAt_a4_0) < (5000 : Int64))) then w_node_a4_0 else w_dropped_a4_0)) ∧ Fld Z h a4_0 "com/example/halozat/halozat/node/Leader" "beat" "I" (.int (if (¬ (w_node_a4_0 = p4_1) ∧ ¬ ((q4_3 - w_raisedAt_a4_0) < (5000 : Int64))) then p4_2 else (if w_node_a4_0 = p4_1 then p4_2 else w_beat_a4_0))) ∧ Fld Z h a4_0 "com/example/halozat/halozat/node/Leader" "droppedBeat" "I" (.int (if (¬ (w_node_a4_0 = p4_1) ∧ ¬ ((q4_3 - w_raisedAt_a4_0) < (5000 : Int64))) then w_beat_a4_0 else w_droppedBeat_a4_0)) ∧ Fld Z h a4_0 "com/example/halozat/halozat/node/Leader" "since" "J" (.long (if (¬ (w_node_a4_0 = p4_1) ∧ ¬ ((q4_3 - w_raisedAt_a4_0) < (5000 : Int64))) then q4_3 else w_since_a4_0)) ∧ Fld Z h a4_0 "com/example/halozat/halozat/node/Leader" "raisedAt" "J" (.long (if (¬ (w_node_a4_0 = p4_1) ∧ ¬ ((q4_3 - w_raisedAt_a4_0) < (5000 : Int64))) then q4_3 else (if w_node_a4_0 = p4_1 then q4_3 else w_raisedAt_a4_0))) ∧ Fld Z h a4_0 "com/example/halozat/halozat/node/Leader" "checkAt" "J" (.long (if q4_3 < w_checkAt_a4_0 then w_checkAt_a4_0 else (9223372036854775807 : Int64))) ∧ Fld Z h a4_0 "com/example/halozat/halozat/node/Leader" "far" "Z" (.int (if (¬ (w_node_a4_0 = p4_1) ∧ ¬ ((q4_3 - w_raisedAt_a4_0) < (5000 : Int64))) then (if q4_3 < w_checkAt_a4_0 then w_far_a4_0 else (nar .boolean (w_far_a4_0 ||| (if ¬ ((q4_3 - q4_3) < (2500 : Int64)) then (1 : Int32) else (0 : Int32))))) else (if w_node_a4_0 = p4_1 then (if q4_3 < w_checkAt_a4_0 then w_far_a4_0 else (nar .boolean (w_far_a4_0 ||| (if ¬ ((q4_3 - q4_3) < (2500 : Int64)) then (1 : Int32) else (0 : Int32))))) else (if q4_3 < w_checkAt_a4_0 then w_far_a4_0 else (nar .boolean (w_far_a4_0 ||| (if ¬ ((q4_3 - w_raisedAt_a4_0) < (2500 : Int64)) then (1 : Int32) else (0 : Int32))))))))
set_option maxRecDepth 65536 in
set_option maxHeartbeats 40000000 in
theorem rm4 (l : Launch) (Z : State) (a0 : Array Value) (hw : ∀ d ∈ tables_1, d.before a0 Z = true) (ws : List Jvm.Cond) (a4_0 : Addr) (p4_1 : Int32) (p4_2 : Int32) (q4_3 : Int64) (w_node_a4_0 : Int32) (w_raisedAt_a4_0 : Int64) (w_dropped_a4_0 : Int32) (w_beat_a4_0 : Int32) (w_droppedBeat_a4_0 : Int32) (w_since_a4_0 : Int64) (w_checkAt_a4_0 : Int64) (w_far_a4_0 : Int32) (h0 : Heap) (n0 : Nat) (Z0 : n0 ≤ h0.size) (F_node_a4_0 : Fld Z h0 a4_0 "com/example/halozat/halozat/node/Leader" "node" "I" (.int w_node_a4_0)) (F_raisedAt_a4_0 : Fld Z h0 a4_0 "com/example/halozat/halozat/node/Leader" "raisedAt" "J" (.long w_raisedAt_a4_0)) (E_a4_0 : Exa Z h0 a4_0 "com/example/halozat/halozat/node/Leader") (F_dropped_a4_0 : Fld Z h0 a4_0 "com/example/halozat/halozat/node/Leader" "dropped" "I" (.int w_dropped_a4_0)) (g_a4_0 : n0 ≤ a4_0) (F_beat_a4_0 : Fld Z h0 a4_0 "com/example/halozat/halozat/node/Leader" "beat" "I" (.int w_beat_a4_0)) (F_droppedBeat_a4_0 : Fld Z h0 a4_0 "com/example/halozat/halozat/node/Leader" "droppedBeat" "I" (.int w_droppedBeat_a4_0)) (F_since_a4_0 : Fld Z h0 a4_0 "com/example/halozat/halozat/node/Leader" "since" "J" (.long w_since_a4_0)) (F_checkAt_a4_0 : Fld Z h0 a4_0 "com/example/halozat/halozat/node/Leader" "checkAt" "J" (.long w_checkAt_a4_0)) (F_far_a4_0 : Fld Z h0 a4_0 "com/example/halozat/halozat/node/Leader" "far" "Z" (.int w_far_a4_0)) :
    MetFree l (⟨"com/example/halozat/halozat/node/Leader", "heartbeat", "(IIJ)Z"⟩ : MethodName) (head1 (Jvm.Cond.code (⟨"com/example/halozat/halozat/node/Leader", "heartbeat", "(IIJ)Z"⟩ : MethodName) prog_81_method_9_code 6 (some .boolean) :: ws) ({ frames := 0, cells := 0, slots := 0, locals := 0 } : Room)) (fun a U => a = #[(.ref a4_0), (.int p4_1), (.int p4_2), (.long q4_3)] ∧ Z.Warmed39 U.vm ∧ U.heap = h0) (fun _ _ _ _ _ => True) (fun _ U o U' => ∃ v L, o = .returned v ∧ Q_rm4 Z a4_0 p4_1 p4_2 q4_3 w_node_a4_0 w_raisedAt_a4_0 w_dropped_a4_0 w_beat_a4_0 w_droppedBeat_a4_0 w_since_a4_0 w_checkAt_a4_0 w_far_a4_0 h0 n0 v U'.heap L ∧ FrameEnd U o U' L ({ frames := 0, cells := 0, slots := 0, locals := 0 } : Room).cells ({ frames := 0, cells := 0, slots := 0, locals := 0 } : Room).slots) := by
  refine MetFree.of_bodySF (plainFor_of_name pn_4) hisR ?_
  intro p e s m args below meth c s₁ Bd hml0 hP hK
  obtain ⟨rfl, hZ, hh⟩ := hP
  have hx := Bd.exec
  have hby := Bd.bytes
  have hml : c.maxLocals = 6 := hml0
  have hown : s.vm.findClass "com/example/halozat/halozat/node/Leader" = some m.cls := findClass_of_methodNamed Bd.named
  have hnm := (name_of_methodNamed Bd.named Bd.method).1
  have X0 : Stand p l e ({ frames := 0, cells := 0, slots := 0, locals := 0 } : Room) s m #[(.ref a4_0), (.int p4_1), (.int p4_2), (.long q4_3)] below meth c s₁ [] 0 0 := Stand.of_body Bd
  have e0 : s₁.heap = h0 := by rw [← hh, Bd.state]; rfl
  have N0 := Fr.nil n0
  have pre0 : ∀ t, Steps p.tables e below (s₁.setTop (mkF m 0 #[.val (.ref a4_0), .val (.int p4_1), .val (.int p4_2), .val (.long q4_3), .second, .unset] [])) t → Steps p.tables e below (s₁.setTop (entryFrame m #[(.ref a4_0), (.int p4_1), (.int p4_2), (.long q4_3)] 6)) t := fun t k => castTop (ef_rm4 m a4_0 p4_1 p4_2 q4_3) k
  obtain ⟨T1, X1, e1, st1⟩ := getF X0 hx hZ hown (host := "") (Or.inl (ow17 hw)) Via.refl e0 F_node_a4_0 (g := (mkF m 1 #[.val (.ref a4_0), .val (.int p4_1), .val (.int p4_2), .val (.long q4_3), .second, .unset] [(.ref a4_0)])) rfl rfl (hb hby d4_1)
  have G2 : ∀ t, Steps p.tables e below (T1.setTop (mkF m 5 #[.val (.ref a4_0), .val (.int p4_1), .val (.int p4_2), .val (.long q4_3), .second, .unset] [(.int p4_1), (.int w_node_a4_0)])) t → Steps p.tables e below (s₁.setTop (mkF m 0 #[.val (.ref a4_0), .val (.int p4_1), .val (.int p4_2), .val (.long q4_3), .second, .unset] [])) t := by
    intro t k
    show Steps p.tables e below (s₁.setTop (mkF m 0 #[.val (.ref a4_0), .val (.int p4_1), .val (.int p4_2), .val (.long q4_3), .second, .unset] [])) _
    refine XS.aloadN X0.here hx rfl (hb hby d4_0) rfl rfl ?_
    show Steps p.tables e below (s₁.setTop (mkF m 1 #[.val (.ref a4_0), .val (.int p4_1), .val (.int p4_2), .val (.long q4_3), .second, .unset] [(.ref a4_0)])) _
    refine st1 _ ?_
    show Steps p.tables e below (T1.setTop (mkF m 4 #[.val (.ref a4_0), .val (.int p4_1), .val (.int p4_2), .val (.long q4_3), .second, .unset] [(.int w_node_a4_0)])) _
    refine XS.iloadN X1.here hx rfl (hb hby d4_4) rfl ?_
    exact k
  obtain ⟨v7, hv7⟩ : ∃ z : Int32, z = (if (¬ (w_node_a4_0 = p4_1) ∧ ¬ ((q4_3 - w_raisedAt_a4_0) < (5000 : Int64))) then (1 : Int32) else (0 : Int32)) := ⟨_, rfl⟩
  obtain ⟨T8, Lo8, X8, N8, e8, G8⟩ := own_join X1 N0 (h := h0) (mkF m 5 #[.val (.ref a4_0), .val (.int p4_1), .val (.int p4_2), .val (.long q4_3), .second, .unset] [(.int p4_1), (.int w_node_a4_0)]) (mkF m 26 #[.val (.ref a4_0), .val (.int p4_1), .val (.int p4_2), .val (.long q4_3), .second, .unset] [(.int v7)]) (by
    by_cases h5_3 : w_node_a4_0 = p4_1
    · refine ⟨T1, _, X1, N0, e1, fun t k => ?_⟩
      rw [show v7 = (0 : Int32) from hv7.trans (if_neg (fun q => q.1 h5_3))] at k
      show Steps p.tables e below (T1.setTop (mkF m 5 #[.val (.ref a4_0), .val (.int p4_1), .val (.int p4_2), .val (.long q4_3), .second, .unset] [(.int p4_1), (.int w_node_a4_0)])) _
      refine XS.icmpYes X1.here hx rfl (pc0 := 5) (pc' := 25) rfl (hb hby d4_5) rfl (teq h5_3).1 (by decide) (by decide) ?_
      show Steps p.tables e below (T1.setTop (mkF m 25 #[.val (.ref a4_0), .val (.int p4_1), .val (.int p4_2), .val (.long q4_3), .second, .unset] [])) _
      refine XS.iconst X1.here hx rfl (hb hby d4_25) ?_
      exact k
    · obtain ⟨T4, X4, e4, st4⟩ := getF X1 hx hZ hown (host := "") (Or.inl (ow19 hw)) Via.refl e1 F_raisedAt_a4_0 (g := (mkF m 10 #[.val (.ref a4_0), .val (.int p4_1), .val (.int p4_2), .val (.long q4_3), .second, .unset] [(.ref a4_0), (.long q4_3)])) rfl rfl (hb hby d4_10)
      have G5 : ∀ t, Steps p.tables e below (T4.setTop (mkF m 18 #[.val (.ref a4_0), .val (.int p4_1), .val (.int p4_2), .val (.long q4_3), .second, .unset] [(.int (lcmpW (q4_3 - w_raisedAt_a4_0) (5000 : Int64)))])) t → Steps p.tables e below (T1.setTop (mkF m 5 #[.val (.ref a4_0), .val (.int p4_1), .val (.int p4_2), .val (.long q4_3), .second, .unset] [(.int p4_1), (.int w_node_a4_0)])) t := by
        intro t k
        show Steps p.tables e below (T1.setTop (mkF m 5 #[.val (.ref a4_0), .val (.int p4_1), .val (.int p4_2), .val (.long q4_3), .second, .unset] [(.int p4_1), (.int w_node_a4_0)])) _
        refine XS.icmpNo X1.here hx rfl (hb hby d4_5) rfl (feq h5_3).1 ?_
        show Steps p.tables e below (T1.setTop (mkF m 8 #[.val (.ref a4_0), .val (.int p4_1), .val (.int p4_2), .val (.long q4_3), .second, .unset] [])) _
        refine XS.lloadN X1.here hx rfl (hb hby d4_8) rfl ?_
        show Steps p.tables e below (T1.setTop (mkF m 9 #[.val (.ref a4_0), .val (.int p4_1), .val (.int p4_2), .val (.long q4_3), .second, .unset] [(.long q4_3)])) _
        refine XS.aloadN X1.here hx rfl (hb hby d4_9) rfl rfl ?_
        show Steps p.tables e below (T1.setTop (mkF m 10 #[.val (.ref a4_0), .val (.int p4_1), .val (.int p4_2), .val (.long q4_3), .second, .unset] [(.ref a4_0), (.long q4_3)])) _
        refine st4 _ ?_
        show Steps p.tables e below (T4.setTop (mkF m 13 #[.val (.ref a4_0), .val (.int p4_1), .val (.int p4_2), .val (.long q4_3), .second, .unset] [(.long w_raisedAt_a4_0), (.long q4_3)])) _
        refine XS.lsub X4.here hx rfl (hb hby d4_13) rfl ?_
        show Steps p.tables e below (T4.setTop (mkF m 14 #[.val (.ref a4_0), .val (.int p4_1), .val (.int p4_2), .val (.long q4_3), .second, .unset] [(.long (q4_3 - w_raisedAt_a4_0))])) _
        refine X4.ldc2Long hx hown (mvT hZ (ow28 hw)) (g := (mkF m 14 #[.val (.ref a4_0), .val (.int p4_1), .val (.int p4_2), .val (.long q4_3), .second, .unset] [(.long (q4_3 - w_raisedAt_a4_0))])) rfl (hb hby d4_14) _ ?_
        show Steps p.tables e below (T4.setTop (mkF m 17 #[.val (.ref a4_0), .val (.int p4_1), .val (.int p4_2), .val (.long q4_3), .second, .unset] [(.long (5000 : Int64)), (.long (q4_3 - w_raisedAt_a4_0))])) _
        refine XS.lcmp X4.here hx rfl (hb hby d4_17) rfl ?_
        exact k
      by_cases h18_6 : (q4_3 - w_raisedAt_a4_0) < (5000 : Int64)
      · refine ⟨T4, _, X4, N0, e4, fun t k => ?_⟩
        rw [show v7 = (0 : Int32) from hv7.trans (if_neg (fun q => (fun q => q h18_6) q.2))] at k
        refine G5 _ ?_
        show Steps p.tables e below (T4.setTop (mkF m 18 #[.val (.ref a4_0), .val (.int p4_1), .val (.int p4_2), .val (.long q4_3), .second, .unset] [(.int (lcmpW (q4_3 - w_raisedAt_a4_0) (5000 : Int64)))])) _
        refine XS.ifYes X4.here hx rfl (pc0 := 18) (pc' := 25) rfl (hb hby d4_18) rfl ((if0 _ _).trans (tlt ((lw_lt _ _).mpr h18_6)).1) (by decide) (by decide) ?_
        show Steps p.tables e below (T4.setTop (mkF m 25 #[.val (.ref a4_0), .val (.int p4_1), .val (.int p4_2), .val (.long q4_3), .second, .unset] [])) _
        refine XS.iconst X4.here hx rfl (hb hby d4_25) ?_
        exact k
      · refine ⟨T4, _, X4, N0, e4, fun t k => ?_⟩
        rw [show v7 = (1 : Int32) from hv7.trans (if_pos ⟨h5_3, h18_6⟩)] at k
        refine G5 _ ?_
        show Steps p.tables e below (T4.setTop (mkF m 18 #[.val (.ref a4_0), .val (.int p4_1), .val (.int p4_2), .val (.long q4_3), .second, .unset] [(.int (lcmpW (q4_3 - w_raisedAt_a4_0) (5000 : Int64)))])) _
        refine XS.ifNo X4.here hx rfl (hb hby d4_18) rfl ((if0 _ _).trans (flt (fun q => h18_6 ((lw_lt _ _).mp q))).1) ?_
        show Steps p.tables e below (T4.setTop (mkF m 21 #[.val (.ref a4_0), .val (.int p4_1), .val (.int p4_2), .val (.long q4_3), .second, .unset] [])) _
        refine XS.iconst X4.here hx rfl (hb hby d4_21) ?_
        show Steps p.tables e below (T4.setTop (mkF m 22 #[.val (.ref a4_0), .val (.int p4_1), .val (.int p4_2), .val (.long q4_3), .second, .unset] [(.int (1 : Int32))])) _
        refine XS.goto X4.here hx rfl (pc0 := 22) (pc' := 26) rfl (hb hby d4_22) (by decide) (by decide) ?_
        exact k)
  have G9 : ∀ t, Steps p.tables e below (T8.setTop (mkF m 30 #[.val (.ref a4_0), .val (.int p4_1), .val (.int p4_2), .val (.long q4_3), .second, .val (.int v7)] [(.int v7)])) t → Steps p.tables e below (T8.setTop (mkF m 26 #[.val (.ref a4_0), .val (.int p4_1), .val (.int p4_2), .val (.long q4_3), .second, .unset] [(.int v7)])) t := by
    intro t k
    show Steps p.tables e below (T8.setTop (mkF m 26 #[.val (.ref a4_0), .val (.int p4_1), .val (.int p4_2), .val (.long q4_3), .second, .unset] [(.int v7)])) _
    refine XS.istore X8.here hx rfl (hb hby d4_26) rfl (l' := #[.val (.ref a4_0), .val (.int p4_1), .val (.int p4_2), .val (.long q4_3), .second, .val (.int v7)]) rfl ?_
    show Steps p.tables e below (T8.setTop (mkF m 28 #[.val (.ref a4_0), .val (.int p4_1), .val (.int p4_2), .val (.long q4_3), .second, .val (.int v7)] [])) _
    refine XS.iload X8.here hx rfl (hb hby d4_28) rfl ?_
    exact k
  by_cases h30_10 : (¬ (w_node_a4_0 = p4_1) ∧ ¬ ((q4_3 - w_raisedAt_a4_0) < (5000 : Int64)))
  · obtain ⟨T11, X11, e11, st11⟩ := getF X8 hx hZ hown (host := "") (Or.inl (ow17 hw)) Via.refl e8 F_node_a4_0 (g := (mkF m 35 #[.val (.ref a4_0), .val (.int p4_1), .val (.int p4_2), .val (.long q4_3), .second, .val (.int v7)] [(.ref a4_0), (.ref a4_0)])) rfl rfl (hb hby d4_35)
    obtain ⟨T12, h12, X12, e12, W12, st12⟩ := putF X11 hx hZ hown (host := "") (Or.inl (ow12 hw)) Via.refl e11 F_dropped_a4_0 E_a4_0 (Or.inl (ow13 hw)) (ow4 hw) (ty := .int) (by decide) rfl rfl (g := (mkF m 38 #[.val (.ref a4_0), .val (.int p4_1), .val (.int p4_2), .val (.long q4_3), .second, .val (.int v7)] [(.int w_node_a4_0), (.ref a4_0)])) rfl rfl (hb hby d4_38)
    have F12 := F_dropped_a4_0.same W12
    have K12 : Keep h0 h12 [a4_0] := (Keep.refl h0 [a4_0]).wr W12 (Or.inl (List.mem_of_getElem? (i := 0) rfl))
    have Z12 : n0 ≤ h12.size := Nat.le_trans Z0 K12.1
    have N12 := Fr.snoc X12 N8 g_a4_0
    have f13 := (F_beat_a4_0.other W12 (Or.inr (slot_ne (Or.inl (ow35 hw)) (Or.inl (ow13 hw)) (by decide) (t := .int) (t' := .int) (by decide) (by decide))))
    obtain ⟨T14, X14, e14, st14⟩ := getF X12 hx hZ hown (host := "") (Or.inl (ow34 hw)) Via.refl e12 f13 (g := (mkF m 43 #[.val (.ref a4_0), .val (.int p4_1), .val (.int p4_2), .val (.long q4_3), .second, .val (.int v7)] [(.ref a4_0), (.ref a4_0)])) rfl rfl (hb hby d4_43)
    have f15 := (E_a4_0.wr W12)
    have f16 := (F_droppedBeat_a4_0.other W12 (Or.inr (slot_ne (Or.inl (ow67 hw)) (Or.inl (ow13 hw)) (by decide) (t := .int) (t' := .int) (by decide) (by decide))))
    obtain ⟨T17, h17, X17, e17, W17, st17⟩ := putF X14 hx hZ hown (host := "") (Or.inl (ow66 hw)) Via.refl e14 f16 f15 (Or.inl (ow67 hw)) (ow4 hw) (ty := .int) (by decide) rfl rfl (g := (mkF m 46 #[.val (.ref a4_0), .val (.int p4_1), .val (.int p4_2), .val (.long q4_3), .second, .val (.int v7)] [(.int w_beat_a4_0), (.ref a4_0)])) rfl rfl (hb hby d4_46)
    have F17 := f16.same W17
    have K17 : Keep h0 h17 [a4_0] := K12.wr W17 (Or.inl (List.mem_of_getElem? (i := 0) rfl))
    have Z17 : n0 ≤ h17.size := Nat.le_trans Z0 K17.1
    have N17 := Fr.snoc X17 N12 g_a4_0
    have f18 := (f15.wr W17)
    have f19 := ((F_node_a4_0.other W12 (Or.inr (slot_ne (Or.inl (ow18 hw)) (Or.inl (ow13 hw)) (by decide) (t := .int) (t' := .int) (by decide) (by decide)))).other W17 (Or.inr (slot_ne (Or.inl (ow18 hw)) (Or.inl (ow67 hw)) (by decide) (t := .int) (t' := .int) (by decide) (by decide))))
    obtain ⟨T20, h20, X20, e20, W20, st20⟩ := putF X17 hx hZ hown (host := "") (Or.inl (ow17 hw)) Via.refl e17 f19 f18 (Or.inl (ow18 hw)) (ow4 hw) (ty := .int) (by decide) rfl rfl (g := (mkF m 51 #[.val (.ref a4_0), .val (.int p4_1), .val (.int p4_2), .val (.long q4_3), .second, .val (.int v7)] [(.int p4_1), (.ref a4_0)])) rfl rfl (hb hby d4_51)
    have F20 := f19.same W20
    have K20 : Keep h0 h20 [a4_0] := K17.wr W20 (Or.inl (List.mem_of_getElem? (i := 0) rfl))
    have Z20 : n0 ≤ h20.size := Nat.le_trans Z0 K20.1
    have N20 := Fr.snoc X20 N17 g_a4_0
    have f21 := (f18.wr W20)
    have f22 := (((F_since_a4_0.other W12 (Or.inr (slot_ne (Or.inl (ow22 hw)) (Or.inl (ow13 hw)) (by decide) (t := .long) (t' := .int) (by decide) (by decide)))).other W17 (Or.inr (slot_ne (Or.inl (ow22 hw)) (Or.inl (ow67 hw)) (by decide) (t := .long) (t' := .int) (by decide) (by decide)))).other W20 (Or.inr (slot_ne (Or.inl (ow22 hw)) (Or.inl (ow18 hw)) (by decide) (t := .long) (t' := .int) (by decide) (by decide))))
    obtain ⟨T23, h23, X23, e23, W23, st23⟩ := putF X20 hx hZ hown (host := "") (Or.inl (ow21 hw)) Via.refl e20 f22 f21 (Or.inl (ow22 hw)) (ow4 hw) (ty := .long) (by decide) rfl rfl (g := (mkF m 56 #[.val (.ref a4_0), .val (.int p4_1), .val (.int p4_2), .val (.long q4_3), .second, .val (.int v7)] [(.long q4_3), (.ref a4_0)])) rfl rfl (hb hby d4_56)
    have F23 := f22.same W23
    have K23 : Keep h0 h23 [a4_0] := K20.wr W23 (Or.inl (List.mem_of_getElem? (i := 0) rfl))
    have Z23 : n0 ≤ h23.size := Nat.le_trans Z0 K23.1
    have N23 := Fr.snoc X23 N20 g_a4_0
    have f24 := (F20.other W23 (Or.inr (slot_ne (Or.inl (ow18 hw)) (Or.inl (ow22 hw)) (by decide) (t := .int) (t' := .long) (by decide) (by decide))))
    obtain ⟨T25, X25, e25, st25⟩ := getF X23 hx hZ hown (host := "") (Or.inl (ow17 hw)) Via.refl e23 f24 (g := (mkF m 60 #[.val (.ref a4_0), .val (.int p4_1), .val (.int p4_2), .val (.long q4_3), .second, .val (.int v7)] [(.ref a4_0)])) rfl rfl (hb hby d4_60)
    have f26 := (f21.wr W23)
    have f27 := (((f13.other W17 (Or.inr (slot_ne (Or.inl (ow35 hw)) (Or.inl (ow67 hw)) (by decide) (t := .int) (t' := .int) (by decide) (by decide)))).other W20 (Or.inr (slot_ne (Or.inl (ow35 hw)) (Or.inl (ow18 hw)) (by decide) (t := .int) (t' := .int) (by decide) (by decide)))).other W23 (Or.inr (slot_ne (Or.inl (ow35 hw)) (Or.inl (ow22 hw)) (by decide) (t := .int) (t' := .long) (by decide) (by decide))))
    obtain ⟨T28, h28, X28, e28, W28, st28⟩ := putF X25 hx hZ hown (host := "") (Or.inl (ow34 hw)) Via.refl e25 f27 f26 (Or.inl (ow35 hw)) (ow4 hw) (ty := .int) (by decide) rfl rfl (g := (mkF m 69 #[.val (.ref a4_0), .val (.int p4_1), .val (.int p4_2), .val (.long q4_3), .second, .val (.int v7)] [(.int p4_2), (.ref a4_0)])) rfl rfl (hb hby d4_69)
    have F28 := f27.same W28
    have K28 : Keep h0 h28 [a4_0] := K23.wr W28 (Or.inl (List.mem_of_getElem? (i := 0) rfl))
    have Z28 : n0 ≤ h28.size := Nat.le_trans Z0 K28.1
    have N28 := Fr.snoc X28 N23 g_a4_0
    have f29 := (f26.wr W28)
    have f30 := (((((F_raisedAt_a4_0.other W12 (Or.inr (slot_ne (Or.inl (ow20 hw)) (Or.inl (ow13 hw)) (by decide) (t := .long) (t' := .int) (by decide) (by decide)))).other W17 (Or.inr (slot_ne (Or.inl (ow20 hw)) (Or.inl (ow67 hw)) (by decide) (t := .long) (t' := .int) (by decide) (by decide)))).other W20 (Or.inr (slot_ne (Or.inl (ow20 hw)) (Or.inl (ow18 hw)) (by decide) (t := .long) (t' := .int) (by decide) (by decide)))).other W23 (Or.inr (slot_ne (Or.inl (ow20 hw)) (Or.inl (ow22 hw)) (by decide) (t := .long) (t' := .long) (by decide) (by decide)))).other W28 (Or.inr (slot_ne (Or.inl (ow20 hw)) (Or.inl (ow35 hw)) (by decide) (t := .long) (t' := .int) (by decide) (by decide))))
    obtain ⟨T31, h31, X31, e31, W31, st31⟩ := putF X28 hx hZ hown (host := "") (Or.inl (ow19 hw)) Via.refl e28 f30 f29 (Or.inl (ow20 hw)) (ow4 hw) (ty := .long) (by decide) rfl rfl (g := (mkF m 74 #[.val (.ref a4_0), .val (.int p4_1), .val (.int p4_2), .val (.long q4_3), .second, .val (.int v7)] [(.long q4_3), (.ref a4_0)])) rfl rfl (hb hby d4_74)
    have F31 := f30.same W31
    have K31 : Keep h0 h31 [a4_0] := K28.wr W31 (Or.inl (List.mem_of_getElem? (i := 0) rfl))
    have Z31 : n0 ≤ h31.size := Nat.le_trans Z0 K31.1
    have N31 := Fr.snoc X31 N28 g_a4_0
    have f32 := ((((((F_checkAt_a4_0.other W12 (Or.inr (slot_ne (Or.inl (ow16 hw)) (Or.inl (ow13 hw)) (by decide) (t := .long) (t' := .int) (by decide) (by decide)))).other W17 (Or.inr (slot_ne (Or.inl (ow16 hw)) (Or.inl (ow67 hw)) (by decide) (t := .long) (t' := .int) (by decide) (by decide)))).other W20 (Or.inr (slot_ne (Or.inl (ow16 hw)) (Or.inl (ow18 hw)) (by decide) (t := .long) (t' := .int) (by decide) (by decide)))).other W23 (Or.inr (slot_ne (Or.inl (ow16 hw)) (Or.inl (ow22 hw)) (by decide) (t := .long) (t' := .long) (by decide) (by decide)))).other W28 (Or.inr (slot_ne (Or.inl (ow16 hw)) (Or.inl (ow35 hw)) (by decide) (t := .long) (t' := .int) (by decide) (by decide)))).other W31 (Or.inr (slot_ne (Or.inl (ow16 hw)) (Or.inl (ow20 hw)) (by decide) (t := .long) (t' := .long) (by decide) (by decide))))
    obtain ⟨T33, X33, e33, st33⟩ := getF X31 hx hZ hown (host := "") (Or.inl (ow15 hw)) Via.refl e31 f32 (g := (mkF m 79 #[.val (.ref a4_0), .val (.int p4_1), .val (.int p4_2), .val (.long q4_3), .second, .val (.int v7)] [(.ref a4_0), (.long q4_3)])) rfl rfl (hb hby d4_79)
    have G34 : ∀ t, Steps p.tables e below (T33.setTop (mkF m 83 #[.val (.ref a4_0), .val (.int p4_1), .val (.int p4_2), .val (.long q4_3), .second, .val (.int v7)] [(.int (lcmpW q4_3 w_checkAt_a4_0))])) t → Steps p.tables e below (T8.setTop (mkF m 30 #[.val (.ref a4_0), .val (.int p4_1), .val (.int p4_2), .val (.long q4_3), .second, .val (.int v7)] [(.int v7)])) t := by
      intro t k
      show Steps p.tables e below (T8.setTop (mkF m 30 #[.val (.ref a4_0), .val (.int p4_1), .val (.int p4_2), .val (.long q4_3), .second, .val (.int v7)] [(.int v7)])) _
      refine XS.ifNo X8.here hx rfl (hb hby d4_30) rfl ((if0 _ _).trans (feq (own_b1 (hv7.trans (if_pos h30_10)))).1) ?_
      show Steps p.tables e below (T8.setTop (mkF m 33 #[.val (.ref a4_0), .val (.int p4_1), .val (.int p4_2), .val (.long q4_3), .second, .val (.int v7)] [])) _
      refine XS.aloadN X8.here hx rfl (hb hby d4_33) rfl rfl ?_
      show Steps p.tables e below (T8.setTop (mkF m 34 #[.val (.ref a4_0), .val (.int p4_1), .val (.int p4_2), .val (.long q4_3), .second, .val (.int v7)] [(.ref a4_0)])) _
      refine XS.aloadN X8.here hx rfl (hb hby d4_34) rfl rfl ?_
      show Steps p.tables e below (T8.setTop (mkF m 35 #[.val (.ref a4_0), .val (.int p4_1), .val (.int p4_2), .val (.long q4_3), .second, .val (.int v7)] [(.ref a4_0), (.ref a4_0)])) _
      refine st11 _ ?_
      show Steps p.tables e below (T11.setTop (mkF m 38 #[.val (.ref a4_0), .val (.int p4_1), .val (.int p4_2), .val (.long q4_3), .second, .val (.int v7)] [(.int w_node_a4_0), (.ref a4_0)])) _
      refine st12 _ ?_
      show Steps p.tables e below (T12.setTop (mkF m 41 #[.val (.ref a4_0), .val (.int p4_1), .val (.int p4_2), .val (.long q4_3), .second, .val (.int v7)] [])) _
      refine XS.aloadN X12.here hx rfl (hb hby d4_41) rfl rfl ?_
      show Steps p.tables e below (T12.setTop (mkF m 42 #[.val (.ref a4_0), .val (.int p4_1), .val (.int p4_2), .val (.long q4_3), .second, .val (.int v7)] [(.ref a4_0)])) _
      refine XS.aloadN X12.here hx rfl (hb hby d4_42) rfl rfl ?_
      show Steps p.tables e below (T12.setTop (mkF m 43 #[.val (.ref a4_0), .val (.int p4_1), .val (.int p4_2), .val (.long q4_3), .second, .val (.int v7)] [(.ref a4_0), (.ref a4_0)])) _
      refine st14 _ ?_
      show Steps p.tables e below (T14.setTop (mkF m 46 #[.val (.ref a4_0), .val (.int p4_1), .val (.int p4_2), .val (.long q4_3), .second, .val (.int v7)] [(.int w_beat_a4_0), (.ref a4_0)])) _
      refine st17 _ ?_
      show Steps p.tables e below (T17.setTop (mkF m 49 #[.val (.ref a4_0), .val (.int p4_1), .val (.int p4_2), .val (.long q4_3), .second, .val (.int v7)] [])) _
      refine XS.aloadN X17.here hx rfl (hb hby d4_49) rfl rfl ?_
      show Steps p.tables e below (T17.setTop (mkF m 50 #[.val (.ref a4_0), .val (.int p4_1), .val (.int p4_2), .val (.long q4_3), .second, .val (.int v7)] [(.ref a4_0)])) _
      refine XS.iloadN X17.here hx rfl (hb hby d4_50) rfl ?_
      show Steps p.tables e below (T17.setTop (mkF m 51 #[.val (.ref a4_0), .val (.int p4_1), .val (.int p4_2), .val (.long q4_3), .second, .val (.int v7)] [(.int p4_1), (.ref a4_0)])) _
      refine st20 _ ?_
      show Steps p.tables e below (T20.setTop (mkF m 54 #[.val (.ref a4_0), .val (.int p4_1), .val (.int p4_2), .val (.long q4_3), .second, .val (.int v7)] [])) _
      refine XS.aloadN X20.here hx rfl (hb hby d4_54) rfl rfl ?_
      show Steps p.tables e below (T20.setTop (mkF m 55 #[.val (.ref a4_0), .val (.int p4_1), .val (.int p4_2), .val (.long q4_3), .second, .val (.int v7)] [(.ref a4_0)])) _
      refine XS.lloadN X20.here hx rfl (hb hby d4_55) rfl ?_
      show Steps p.tables e below (T20.setTop (mkF m 56 #[.val (.ref a4_0), .val (.int p4_1), .val (.int p4_2), .val (.long q4_3), .second, .val (.int v7)] [(.long q4_3), (.ref a4_0)])) _
      refine st23 _ ?_
      show Steps p.tables e below (T23.setTop (mkF m 59 #[.val (.ref a4_0), .val (.int p4_1), .val (.int p4_2), .val (.long q4_3), .second, .val (.int v7)] [])) _
      refine XS.aloadN X23.here hx rfl (hb hby d4_59) rfl rfl ?_
      show Steps p.tables e below (T23.setTop (mkF m 60 #[.val (.ref a4_0), .val (.int p4_1), .val (.int p4_2), .val (.long q4_3), .second, .val (.int v7)] [(.ref a4_0)])) _
      refine st25 _ ?_
      show Steps p.tables e below (T25.setTop (mkF m 63 #[.val (.ref a4_0), .val (.int p4_1), .val (.int p4_2), .val (.long q4_3), .second, .val (.int v7)] [(.int p4_1)])) _
      refine XS.iloadN X25.here hx rfl (hb hby d4_63) rfl ?_
      show Steps p.tables e below (T25.setTop (mkF m 64 #[.val (.ref a4_0), .val (.int p4_1), .val (.int p4_2), .val (.long q4_3), .second, .val (.int v7)] [(.int p4_1), (.int p4_1)])) _
      refine XS.icmpNo X25.here hx rfl (hb hby d4_64) rfl (teq rfl).2 ?_
      show Steps p.tables e below (T25.setTop (mkF m 67 #[.val (.ref a4_0), .val (.int p4_1), .val (.int p4_2), .val (.long q4_3), .second, .val (.int v7)] [])) _
      refine XS.aloadN X25.here hx rfl (hb hby d4_67) rfl rfl ?_
      show Steps p.tables e below (T25.setTop (mkF m 68 #[.val (.ref a4_0), .val (.int p4_1), .val (.int p4_2), .val (.long q4_3), .second, .val (.int v7)] [(.ref a4_0)])) _
      refine XS.iloadN X25.here hx rfl (hb hby d4_68) rfl ?_
      show Steps p.tables e below (T25.setTop (mkF m 69 #[.val (.ref a4_0), .val (.int p4_1), .val (.int p4_2), .val (.long q4_3), .second, .val (.int v7)] [(.int p4_2), (.ref a4_0)])) _
      refine st28 _ ?_
      show Steps p.tables e below (T28.setTop (mkF m 72 #[.val (.ref a4_0), .val (.int p4_1), .val (.int p4_2), .val (.long q4_3), .second, .val (.int v7)] [])) _
      refine XS.aloadN X28.here hx rfl (hb hby d4_72) rfl rfl ?_
      show Steps p.tables e below (T28.setTop (mkF m 73 #[.val (.ref a4_0), .val (.int p4_1), .val (.int p4_2), .val (.long q4_3), .second, .val (.int v7)] [(.ref a4_0)])) _
      refine XS.lloadN X28.here hx rfl (hb hby d4_73) rfl ?_
      show Steps p.tables e below (T28.setTop (mkF m 74 #[.val (.ref a4_0), .val (.int p4_1), .val (.int p4_2), .val (.long q4_3), .second, .val (.int v7)] [(.long q4_3), (.ref a4_0)])) _
      refine st31 _ ?_
      show Steps p.tables e below (T31.setTop (mkF m 77 #[.val (.ref a4_0), .val (.int p4_1), .val (.int p4_2), .val (.long q4_3), .second, .val (.int v7)] [])) _
      refine XS.lloadN X31.here hx rfl (hb hby d4_77) rfl ?_
      show Steps p.tables e below (T31.setTop (mkF m 78 #[.val (.ref a4_0), .val (.int p4_1), .val (.int p4_2), .val (.long q4_3), .second, .val (.int v7)] [(.long q4_3)])) _
      refine XS.aloadN X31.here hx rfl (hb hby d4_78) rfl rfl ?_
      show Steps p.tables e below (T31.setTop (mkF m 79 #[.val (.ref a4_0), .val (.int p4_1), .val (.int p4_2), .val (.long q4_3), .second, .val (.int v7)] [(.ref a4_0), (.long q4_3)])) _
      refine st33 _ ?_
      show Steps p.tables e below (T33.setTop (mkF m 82 #[.val (.ref a4_0), .val (.int p4_1), .val (.int p4_2), .val (.long q4_3), .second, .val (.int v7)] [(.long w_checkAt_a4_0), (.long q4_3)])) _
      refine XS.lcmp X33.here hx rfl (hb hby d4_82) rfl ?_
      exact k
    by_cases h83_35 : q4_3 < w_checkAt_a4_0
    · obtain ⟨fs, hr, hrun, hended, hW, hsame⟩ := X33.leave (v := some (.int (1 : Int32))) (fun h => by rw [Bd.returns] at h; cases h)
      refine ⟨_, _, pre0 _ ?_, hrun, hended, _, _, rfl, ?_, ⟨_, rfl⟩, hW, hsame.mono (by decide) (by decide)⟩
      · refine G2 _ ?_
        refine G8 _ ?_
        refine G9 _ ?_
        refine G34 _ ?_
        show Steps p.tables e below (T33.setTop (mkF m 83 #[.val (.ref a4_0), .val (.int p4_1), .val (.int p4_2), .val (.long q4_3), .second, .val (.int v7)] [(.int (lcmpW q4_3 w_checkAt_a4_0))])) _
        refine XS.ifYes X33.here hx rfl (pc0 := 83) (pc' := 120) rfl (hb hby d4_83) rfl ((if0 _ _).trans (tlt ((lw_lt _ _).mpr h83_35)).1) (by decide) (by decide) ?_
        show Steps p.tables e below (T33.setTop (mkF m 120 #[.val (.ref a4_0), .val (.int p4_1), .val (.int p4_2), .val (.long q4_3), .second, .val (.int v7)] [])) _
        refine XS.iload X33.here hx rfl (hb hby d4_120) rfl ?_
        show Steps p.tables e below (T33.setTop (mkF m 122 #[.val (.ref a4_0), .val (.int p4_1), .val (.int p4_2), .val (.long q4_3), .second, .val (.int v7)] [(.int v7)])) _
        rw [show v7 = (1 : Int32) from hv7.trans (if_pos h30_10)]
        show Steps p.tables e below (T33.setTop (mkF m 122 #[.val (.ref a4_0), .val (.int p4_1), .val (.int p4_2), .val (.long q4_3), .second, .val (.int (1 : Int32))] [(.int (1 : Int32))])) _
        exact retN X33 hx (t := .boolean) Bd.returns (by simp) (hb hby d4_122) hr
      · have f85 := ((f24.other W28 (Or.inr (slot_ne (Or.inl (ow18 hw)) (Or.inl (ow35 hw)) (by decide) (t := .int) (t' := .int) (by decide) (by decide)))).other W31 (Or.inr (slot_ne (Or.inl (ow18 hw)) (Or.inl (ow20 hw)) (by decide) (t := .int) (t' := .long) (by decide) (by decide))))
        have f86 := (f29.wr W31)
        have f87 := (((((F12.other W17 (Or.inr (slot_ne (Or.inl (ow13 hw)) (Or.inl (ow67 hw)) (by decide) (t := .int) (t' := .int) (by decide) (by decide)))).other W20 (Or.inr (slot_ne (Or.inl (ow13 hw)) (Or.inl (ow18 hw)) (by decide) (t := .int) (t' := .int) (by decide) (by decide)))).other W23 (Or.inr (slot_ne (Or.inl (ow13 hw)) (Or.inl (ow22 hw)) (by decide) (t := .int) (t' := .long) (by decide) (by decide)))).other W28 (Or.inr (slot_ne (Or.inl (ow13 hw)) (Or.inl (ow35 hw)) (by decide) (t := .int) (t' := .int) (by decide) (by decide)))).other W31 (Or.inr (slot_ne (Or.inl (ow13 hw)) (Or.inl (ow20 hw)) (by decide) (t := .int) (t' := .long) (by decide) (by decide))))
        have f88 := (F28.other W31 (Or.inr (slot_ne (Or.inl (ow35 hw)) (Or.inl (ow20 hw)) (by decide) (t := .int) (t' := .long) (by decide) (by decide))))
        have f89 := ((((F17.other W20 (Or.inr (slot_ne (Or.inl (ow67 hw)) (Or.inl (ow18 hw)) (by decide) (t := .int) (t' := .int) (by decide) (by decide)))).other W23 (Or.inr (slot_ne (Or.inl (ow67 hw)) (Or.inl (ow22 hw)) (by decide) (t := .int) (t' := .long) (by decide) (by decide)))).other W28 (Or.inr (slot_ne (Or.inl (ow67 hw)) (Or.inl (ow35 hw)) (by decide) (t := .int) (t' := .int) (by decide) (by decide)))).other W31 (Or.inr (slot_ne (Or.inl (ow67 hw)) (Or.inl (ow20 hw)) (by decide) (t := .int) (t' := .long) (by decide) (by decide))))
        have f90 := ((F23.other W28 (Or.inr (slot_ne (Or.inl (ow22 hw)) (Or.inl (ow35 hw)) (by decide) (t := .long) (t' := .int) (by decide) (by decide)))).other W31 (Or.inr (slot_ne (Or.inl (ow22 hw)) (Or.inl (ow20 hw)) (by decide) (t := .long) (t' := .long) (by decide) (by decide))))
        have f91 := ((((((F_far_a4_0.other W12 (Or.inr (slot_ne (Or.inl (ow62 hw)) (Or.inl (ow13 hw)) (by decide) (t := .boolean) (t' := .int) (by decide) (by decide)))).other W17 (Or.inr (slot_ne (Or.inl (ow62 hw)) (Or.inl (ow67 hw)) (by decide) (t := .boolean) (t' := .int) (by decide) (by decide)))).other W20 (Or.inr (slot_ne (Or.inl (ow62 hw)) (Or.inl (ow18 hw)) (by decide) (t := .boolean) (t' := .int) (by decide) (by decide)))).other W23 (Or.inr (slot_ne (Or.inl (ow62 hw)) (Or.inl (ow22 hw)) (by decide) (t := .boolean) (t' := .long) (by decide) (by decide)))).other W28 (Or.inr (slot_ne (Or.inl (ow62 hw)) (Or.inl (ow35 hw)) (by decide) (t := .boolean) (t' := .int) (by decide) (by decide)))).other W31 (Or.inr (slot_ne (Or.inl (ow62 hw)) (Or.inl (ow20 hw)) (by decide) (t := .boolean) (t' := .long) (by decide) (by decide))))
        show Q_rm4 Z a4_0 p4_1 p4_2 q4_3 w_node_a4_0 w_raisedAt_a4_0 w_dropped_a4_0 w_beat_a4_0 w_droppedBeat_a4_0 w_since_a4_0 w_checkAt_a4_0 w_far_a4_0 h0 n0 _ T33.heap _
        rw [e33]
        subst hv7
        exact ⟨(congrArg (fun z => some (Value.int z)) (if_pos h30_10).symm), N31, K31, (own_fld f85 (congrArg Value.int (if_pos h30_10))), f86, (own_fld f87 (congrArg Value.int (if_pos h30_10))), (own_fld f88 (congrArg Value.int (if_pos h30_10))), (own_fld f89 (congrArg Value.int (if_pos h30_10))), (own_fld f90 (congrArg Value.long (if_pos h30_10))), (own_fld F31 (congrArg Value.long (if_pos h30_10))), (own_fld f32 (congrArg Value.long (if_pos h83_35))), (own_fld f91 (congrArg Value.int ((if_pos h30_10).trans (if_pos h83_35))))⟩
    · have f36 := (f29.wr W31)
      obtain ⟨T37, h37, X37, e37, W37, st37⟩ := putF X33 hx hZ hown (host := "") (Or.inl (ow15 hw)) Via.refl e33 f32 f36 (Or.inl (ow16 hw)) (ow4 hw) (ty := .long) (by decide) rfl rfl (g := (mkF m 90 #[.val (.ref a4_0), .val (.int p4_1), .val (.int p4_2), .val (.long q4_3), .second, .val (.int v7)] [(.long (9223372036854775807 : Int64)), (.ref a4_0)])) rfl rfl (hb hby d4_90)
      have F37 := f32.same W37
      have K37 : Keep h0 h37 [a4_0] := K31.wr W37 (Or.inl (List.mem_of_getElem? (i := 0) rfl))
      have Z37 : n0 ≤ h37.size := Nat.le_trans Z0 K37.1
      have N37 := Fr.snoc X37 N31 g_a4_0
      have f38 := (((((((F_far_a4_0.other W12 (Or.inr (slot_ne (Or.inl (ow62 hw)) (Or.inl (ow13 hw)) (by decide) (t := .boolean) (t' := .int) (by decide) (by decide)))).other W17 (Or.inr (slot_ne (Or.inl (ow62 hw)) (Or.inl (ow67 hw)) (by decide) (t := .boolean) (t' := .int) (by decide) (by decide)))).other W20 (Or.inr (slot_ne (Or.inl (ow62 hw)) (Or.inl (ow18 hw)) (by decide) (t := .boolean) (t' := .int) (by decide) (by decide)))).other W23 (Or.inr (slot_ne (Or.inl (ow62 hw)) (Or.inl (ow22 hw)) (by decide) (t := .boolean) (t' := .long) (by decide) (by decide)))).other W28 (Or.inr (slot_ne (Or.inl (ow62 hw)) (Or.inl (ow35 hw)) (by decide) (t := .boolean) (t' := .int) (by decide) (by decide)))).other W31 (Or.inr (slot_ne (Or.inl (ow62 hw)) (Or.inl (ow20 hw)) (by decide) (t := .boolean) (t' := .long) (by decide) (by decide)))).other W37 (Or.inr (slot_ne (Or.inl (ow62 hw)) (Or.inl (ow16 hw)) (by decide) (t := .boolean) (t' := .long) (by decide) (by decide))))
      obtain ⟨T39, X39, e39, st39⟩ := getF X37 hx hZ hown (host := "") (Or.inl (ow61 hw)) Via.refl e37 f38 (g := (mkF m 95 #[.val (.ref a4_0), .val (.int p4_1), .val (.int p4_2), .val (.long q4_3), .second, .val (.int v7)] [(.ref a4_0), (.ref a4_0)])) rfl rfl (hb hby d4_95)
      have f40 := (F31.other W37 (Or.inr (slot_ne (Or.inl (ow20 hw)) (Or.inl (ow16 hw)) (by decide) (t := .long) (t' := .long) (by decide) (by decide))))
      obtain ⟨T41, X41, e41, st41⟩ := getF X39 hx hZ hown (host := "") (Or.inl (ow19 hw)) Via.refl e39 f40 (g := (mkF m 100 #[.val (.ref a4_0), .val (.int p4_1), .val (.int p4_2), .val (.long q4_3), .second, .val (.int v7)] [(.ref a4_0), (.long q4_3), (.int w_far_a4_0), (.ref a4_0)])) rfl rfl (hb hby d4_100)
      have G42 : ∀ t, Steps p.tables e below (T41.setTop (mkF m 108 #[.val (.ref a4_0), .val (.int p4_1), .val (.int p4_2), .val (.long q4_3), .second, .val (.int v7)] [(.int (lcmpW (q4_3 - q4_3) (2500 : Int64))), (.int w_far_a4_0), (.ref a4_0)])) t → Steps p.tables e below (T33.setTop (mkF m 83 #[.val (.ref a4_0), .val (.int p4_1), .val (.int p4_2), .val (.long q4_3), .second, .val (.int v7)] [(.int (lcmpW q4_3 w_checkAt_a4_0))])) t := by
        intro t k
        show Steps p.tables e below (T33.setTop (mkF m 83 #[.val (.ref a4_0), .val (.int p4_1), .val (.int p4_2), .val (.long q4_3), .second, .val (.int v7)] [(.int (lcmpW q4_3 w_checkAt_a4_0))])) _
        refine XS.ifNo X33.here hx rfl (hb hby d4_83) rfl ((if0 _ _).trans (flt (fun q => h83_35 ((lw_lt _ _).mp q))).1) ?_
        show Steps p.tables e below (T33.setTop (mkF m 86 #[.val (.ref a4_0), .val (.int p4_1), .val (.int p4_2), .val (.long q4_3), .second, .val (.int v7)] [])) _
        refine XS.aloadN X33.here hx rfl (hb hby d4_86) rfl rfl ?_
        show Steps p.tables e below (T33.setTop (mkF m 87 #[.val (.ref a4_0), .val (.int p4_1), .val (.int p4_2), .val (.long q4_3), .second, .val (.int v7)] [(.ref a4_0)])) _
        refine X33.ldc2Long hx hown (mvT hZ (ow14 hw)) (g := (mkF m 87 #[.val (.ref a4_0), .val (.int p4_1), .val (.int p4_2), .val (.long q4_3), .second, .val (.int v7)] [(.ref a4_0)])) rfl (hb hby d4_87) _ ?_
        show Steps p.tables e below (T33.setTop (mkF m 90 #[.val (.ref a4_0), .val (.int p4_1), .val (.int p4_2), .val (.long q4_3), .second, .val (.int v7)] [(.long (9223372036854775807 : Int64)), (.ref a4_0)])) _
        refine st37 _ ?_
        show Steps p.tables e below (T37.setTop (mkF m 93 #[.val (.ref a4_0), .val (.int p4_1), .val (.int p4_2), .val (.long q4_3), .second, .val (.int v7)] [])) _
        refine XS.aloadN X37.here hx rfl (hb hby d4_93) rfl rfl ?_
        show Steps p.tables e below (T37.setTop (mkF m 94 #[.val (.ref a4_0), .val (.int p4_1), .val (.int p4_2), .val (.long q4_3), .second, .val (.int v7)] [(.ref a4_0)])) _
        refine XS.dup X37.here hx rfl (hb hby d4_94) rfl rfl ?_
        show Steps p.tables e below (T37.setTop (mkF m 95 #[.val (.ref a4_0), .val (.int p4_1), .val (.int p4_2), .val (.long q4_3), .second, .val (.int v7)] [(.ref a4_0), (.ref a4_0)])) _
        refine st39 _ ?_
        show Steps p.tables e below (T39.setTop (mkF m 98 #[.val (.ref a4_0), .val (.int p4_1), .val (.int p4_2), .val (.long q4_3), .second, .val (.int v7)] [(.int w_far_a4_0), (.ref a4_0)])) _
        refine XS.lloadN X39.here hx rfl (hb hby d4_98) rfl ?_
        show Steps p.tables e below (T39.setTop (mkF m 99 #[.val (.ref a4_0), .val (.int p4_1), .val (.int p4_2), .val (.long q4_3), .second, .val (.int v7)] [(.long q4_3), (.int w_far_a4_0), (.ref a4_0)])) _
        refine XS.aloadN X39.here hx rfl (hb hby d4_99) rfl rfl ?_
        show Steps p.tables e below (T39.setTop (mkF m 100 #[.val (.ref a4_0), .val (.int p4_1), .val (.int p4_2), .val (.long q4_3), .second, .val (.int v7)] [(.ref a4_0), (.long q4_3), (.int w_far_a4_0), (.ref a4_0)])) _
        refine st41 _ ?_
        show Steps p.tables e below (T41.setTop (mkF m 103 #[.val (.ref a4_0), .val (.int p4_1), .val (.int p4_2), .val (.long q4_3), .second, .val (.int v7)] [(.long q4_3), (.long q4_3), (.int w_far_a4_0), (.ref a4_0)])) _
        refine XS.lsub X41.here hx rfl (hb hby d4_103) rfl ?_
        show Steps p.tables e below (T41.setTop (mkF m 104 #[.val (.ref a4_0), .val (.int p4_1), .val (.int p4_2), .val (.long q4_3), .second, .val (.int v7)] [(.long (q4_3 - q4_3)), (.int w_far_a4_0), (.ref a4_0)])) _
        refine X41.ldc2Long hx hown (mvT hZ (ow68 hw)) (g := (mkF m 104 #[.val (.ref a4_0), .val (.int p4_1), .val (.int p4_2), .val (.long q4_3), .second, .val (.int v7)] [(.long (q4_3 - q4_3)), (.int w_far_a4_0), (.ref a4_0)])) rfl (hb hby d4_104) _ ?_
        show Steps p.tables e below (T41.setTop (mkF m 107 #[.val (.ref a4_0), .val (.int p4_1), .val (.int p4_2), .val (.long q4_3), .second, .val (.int v7)] [(.long (2500 : Int64)), (.long (q4_3 - q4_3)), (.int w_far_a4_0), (.ref a4_0)])) _
        refine XS.lcmp X41.here hx rfl (hb hby d4_107) rfl ?_
        exact k
      obtain ⟨v44, hv44⟩ : ∃ z : Int32, z = (if ¬ ((q4_3 - q4_3) < (2500 : Int64)) then (1 : Int32) else (0 : Int32)) := ⟨_, rfl⟩
      obtain ⟨T45, Lo45, X45, N45, e45, G45⟩ := own_join X41 N37 (h := h37) (mkF m 108 #[.val (.ref a4_0), .val (.int p4_1), .val (.int p4_2), .val (.long q4_3), .second, .val (.int v7)] [(.int (lcmpW (q4_3 - q4_3) (2500 : Int64))), (.int w_far_a4_0), (.ref a4_0)]) (mkF m 116 #[.val (.ref a4_0), .val (.int p4_1), .val (.int p4_2), .val (.long q4_3), .second, .val (.int v7)] [(.int v44), (.int w_far_a4_0), (.ref a4_0)]) (by
        by_cases h108_43 : (q4_3 - q4_3) < (2500 : Int64)
        · refine ⟨T41, _, X41, N37, e41, fun t k => ?_⟩
          rw [show v44 = (0 : Int32) from hv44.trans (if_neg (fun q => q h108_43))] at k
          show Steps p.tables e below (T41.setTop (mkF m 108 #[.val (.ref a4_0), .val (.int p4_1), .val (.int p4_2), .val (.long q4_3), .second, .val (.int v7)] [(.int (lcmpW (q4_3 - q4_3) (2500 : Int64))), (.int w_far_a4_0), (.ref a4_0)])) _
          refine XS.ifYes X41.here hx rfl (pc0 := 108) (pc' := 115) rfl (hb hby d4_108) rfl ((if0 _ _).trans (tlt ((lw_lt _ _).mpr h108_43)).1) (by decide) (by decide) ?_
          show Steps p.tables e below (T41.setTop (mkF m 115 #[.val (.ref a4_0), .val (.int p4_1), .val (.int p4_2), .val (.long q4_3), .second, .val (.int v7)] [(.int w_far_a4_0), (.ref a4_0)])) _
          refine XS.iconst X41.here hx rfl (hb hby d4_115) ?_
          exact k
        · refine ⟨T41, _, X41, N37, e41, fun t k => ?_⟩
          rw [show v44 = (1 : Int32) from hv44.trans (if_pos h108_43)] at k
          show Steps p.tables e below (T41.setTop (mkF m 108 #[.val (.ref a4_0), .val (.int p4_1), .val (.int p4_2), .val (.long q4_3), .second, .val (.int v7)] [(.int (lcmpW (q4_3 - q4_3) (2500 : Int64))), (.int w_far_a4_0), (.ref a4_0)])) _
          refine XS.ifNo X41.here hx rfl (hb hby d4_108) rfl ((if0 _ _).trans (flt (fun q => h108_43 ((lw_lt _ _).mp q))).1) ?_
          show Steps p.tables e below (T41.setTop (mkF m 111 #[.val (.ref a4_0), .val (.int p4_1), .val (.int p4_2), .val (.long q4_3), .second, .val (.int v7)] [(.int w_far_a4_0), (.ref a4_0)])) _
          refine XS.iconst X41.here hx rfl (hb hby d4_111) ?_
          show Steps p.tables e below (T41.setTop (mkF m 112 #[.val (.ref a4_0), .val (.int p4_1), .val (.int p4_2), .val (.long q4_3), .second, .val (.int v7)] [(.int (1 : Int32)), (.int w_far_a4_0), (.ref a4_0)])) _
          refine XS.goto X41.here hx rfl (pc0 := 112) (pc' := 116) rfl (hb hby d4_112) (by decide) (by decide) ?_
          exact k)
      have f46 := (f36.wr W37)
      obtain ⟨T47, h47, X47, e47, W47, st47⟩ := putFN X45 hx hZ hown (ow61 hw) Via.refl e45 f38 f46 (Or.inl (ow62 hw)) (ow4 hw) (ty := .boolean) (v' := (.int (nar .boolean (w_far_a4_0 ||| v44)))) (by decide) rfl (fits_nar_bool _) (g := (mkF m 117 #[.val (.ref a4_0), .val (.int p4_1), .val (.int p4_2), .val (.long q4_3), .second, .val (.int v7)] [(.int (w_far_a4_0 ||| v44)), (.ref a4_0)])) rfl rfl (hb hby d4_117)
      have F47 := f38.same W47
      have K47 : Keep h0 h47 [a4_0] := K37.wr W47 (Or.inl (List.mem_of_getElem? (i := 0) rfl))
      have Z47 : n0 ≤ h47.size := Nat.le_trans Z0 K47.1
      have N47 := Fr.snoc X47 N45 g_a4_0
      obtain ⟨fs, hr, hrun, hended, hW, hsame⟩ := X47.leave (v := some (.int (1 : Int32))) (fun h => by rw [Bd.returns] at h; cases h)
      refine ⟨_, _, pre0 _ ?_, hrun, hended, _, _, rfl, ?_, ⟨_, rfl⟩, hW, hsame.mono (by decide) (by decide)⟩
      · refine G2 _ ?_
        refine G8 _ ?_
        refine G9 _ ?_
        refine G34 _ ?_
        refine G42 _ ?_
        refine G45 _ ?_
        show Steps p.tables e below (T45.setTop (mkF m 116 #[.val (.ref a4_0), .val (.int p4_1), .val (.int p4_2), .val (.long q4_3), .second, .val (.int v7)] [(.int v44), (.int w_far_a4_0), (.ref a4_0)])) _
        refine XS.ior X45.here hx rfl (hb hby d4_116) rfl ?_
        show Steps p.tables e below (T45.setTop (mkF m 117 #[.val (.ref a4_0), .val (.int p4_1), .val (.int p4_2), .val (.long q4_3), .second, .val (.int v7)] [(.int (w_far_a4_0 ||| v44)), (.ref a4_0)])) _
        refine st47 _ ?_
        show Steps p.tables e below (T47.setTop (mkF m 120 #[.val (.ref a4_0), .val (.int p4_1), .val (.int p4_2), .val (.long q4_3), .second, .val (.int v7)] [])) _
        refine XS.iload X47.here hx rfl (hb hby d4_120) rfl ?_
        show Steps p.tables e below (T47.setTop (mkF m 122 #[.val (.ref a4_0), .val (.int p4_1), .val (.int p4_2), .val (.long q4_3), .second, .val (.int v7)] [(.int v7)])) _
        rw [show v7 = (1 : Int32) from hv7.trans (if_pos h30_10)]
        show Steps p.tables e below (T47.setTop (mkF m 122 #[.val (.ref a4_0), .val (.int p4_1), .val (.int p4_2), .val (.long q4_3), .second, .val (.int (1 : Int32))] [(.int (1 : Int32))])) _
        exact retN X47 hx (t := .boolean) Bd.returns (by simp) (hb hby d4_122) hr
      · have f92 := ((((f24.other W28 (Or.inr (slot_ne (Or.inl (ow18 hw)) (Or.inl (ow35 hw)) (by decide) (t := .int) (t' := .int) (by decide) (by decide)))).other W31 (Or.inr (slot_ne (Or.inl (ow18 hw)) (Or.inl (ow20 hw)) (by decide) (t := .int) (t' := .long) (by decide) (by decide)))).other W37 (Or.inr (slot_ne (Or.inl (ow18 hw)) (Or.inl (ow16 hw)) (by decide) (t := .int) (t' := .long) (by decide) (by decide)))).other W47 (Or.inr (slot_ne (Or.inl (ow18 hw)) (Or.inl (ow62 hw)) (by decide) (t := .int) (t' := .boolean) (by decide) (by decide))))
        have f93 := (f46.wr W47)
        have f94 := (((((((F12.other W17 (Or.inr (slot_ne (Or.inl (ow13 hw)) (Or.inl (ow67 hw)) (by decide) (t := .int) (t' := .int) (by decide) (by decide)))).other W20 (Or.inr (slot_ne (Or.inl (ow13 hw)) (Or.inl (ow18 hw)) (by decide) (t := .int) (t' := .int) (by decide) (by decide)))).other W23 (Or.inr (slot_ne (Or.inl (ow13 hw)) (Or.inl (ow22 hw)) (by decide) (t := .int) (t' := .long) (by decide) (by decide)))).other W28 (Or.inr (slot_ne (Or.inl (ow13 hw)) (Or.inl (ow35 hw)) (by decide) (t := .int) (t' := .int) (by decide) (by decide)))).other W31 (Or.inr (slot_ne (Or.inl (ow13 hw)) (Or.inl (ow20 hw)) (by decide) (t := .int) (t' := .long) (by decide) (by decide)))).other W37 (Or.inr (slot_ne (Or.inl (ow13 hw)) (Or.inl (ow16 hw)) (by decide) (t := .int) (t' := .long) (by decide) (by decide)))).other W47 (Or.inr (slot_ne (Or.inl (ow13 hw)) (Or.inl (ow62 hw)) (by decide) (t := .int) (t' := .boolean) (by decide) (by decide))))
        have f95 := (((F28.other W31 (Or.inr (slot_ne (Or.inl (ow35 hw)) (Or.inl (ow20 hw)) (by decide) (t := .int) (t' := .long) (by decide) (by decide)))).other W37 (Or.inr (slot_ne (Or.inl (ow35 hw)) (Or.inl (ow16 hw)) (by decide) (t := .int) (t' := .long) (by decide) (by decide)))).other W47 (Or.inr (slot_ne (Or.inl (ow35 hw)) (Or.inl (ow62 hw)) (by decide) (t := .int) (t' := .boolean) (by decide) (by decide))))
        have f96 := ((((((F17.other W20 (Or.inr (slot_ne (Or.inl (ow67 hw)) (Or.inl (ow18 hw)) (by decide) (t := .int) (t' := .int) (by decide) (by decide)))).other W23 (Or.inr (slot_ne (Or.inl (ow67 hw)) (Or.inl (ow22 hw)) (by decide) (t := .int) (t' := .long) (by decide) (by decide)))).other W28 (Or.inr (slot_ne (Or.inl (ow67 hw)) (Or.inl (ow35 hw)) (by decide) (t := .int) (t' := .int) (by decide) (by decide)))).other W31 (Or.inr (slot_ne (Or.inl (ow67 hw)) (Or.inl (ow20 hw)) (by decide) (t := .int) (t' := .long) (by decide) (by decide)))).other W37 (Or.inr (slot_ne (Or.inl (ow67 hw)) (Or.inl (ow16 hw)) (by decide) (t := .int) (t' := .long) (by decide) (by decide)))).other W47 (Or.inr (slot_ne (Or.inl (ow67 hw)) (Or.inl (ow62 hw)) (by decide) (t := .int) (t' := .boolean) (by decide) (by decide))))
        have f97 := ((((F23.other W28 (Or.inr (slot_ne (Or.inl (ow22 hw)) (Or.inl (ow35 hw)) (by decide) (t := .long) (t' := .int) (by decide) (by decide)))).other W31 (Or.inr (slot_ne (Or.inl (ow22 hw)) (Or.inl (ow20 hw)) (by decide) (t := .long) (t' := .long) (by decide) (by decide)))).other W37 (Or.inr (slot_ne (Or.inl (ow22 hw)) (Or.inl (ow16 hw)) (by decide) (t := .long) (t' := .long) (by decide) (by decide)))).other W47 (Or.inr (slot_ne (Or.inl (ow22 hw)) (Or.inl (ow62 hw)) (by decide) (t := .long) (t' := .boolean) (by decide) (by decide))))
        have f98 := (f40.other W47 (Or.inr (slot_ne (Or.inl (ow20 hw)) (Or.inl (ow62 hw)) (by decide) (t := .long) (t' := .boolean) (by decide) (by decide))))
        have f99 := (F37.other W47 (Or.inr (slot_ne (Or.inl (ow16 hw)) (Or.inl (ow62 hw)) (by decide) (t := .long) (t' := .boolean) (by decide) (by decide))))
        show Q_rm4 Z a4_0 p4_1 p4_2 q4_3 w_node_a4_0 w_raisedAt_a4_0 w_dropped_a4_0 w_beat_a4_0 w_droppedBeat_a4_0 w_since_a4_0 w_checkAt_a4_0 w_far_a4_0 h0 n0 _ T47.heap _
        rw [e47]
        subst hv44
        subst hv7
        exact ⟨(congrArg (fun z => some (Value.int z)) (if_pos h30_10).symm), N47, K47, (own_fld f92 (congrArg Value.int (if_pos h30_10))), f93, (own_fld f94 (congrArg Value.int (if_pos h30_10))), (own_fld f95 (congrArg Value.int (if_pos h30_10))), (own_fld f96 (congrArg Value.int (if_pos h30_10))), (own_fld f97 (congrArg Value.long (if_pos h30_10))), (own_fld f98 (congrArg Value.long (if_pos h30_10))), (own_fld f99 (congrArg Value.long (if_neg h83_35))), (own_fld F47 (congrArg Value.int ((if_pos h30_10).trans (if_neg h83_35))))⟩
  · obtain ⟨T48, X48, e48, st48⟩ := getF X8 hx hZ hown (host := "") (Or.inl (ow17 hw)) Via.refl e8 F_node_a4_0 (g := (mkF m 60 #[.val (.ref a4_0), .val (.int p4_1), .val (.int p4_2), .val (.long q4_3), .second, .val (.int v7)] [(.ref a4_0)])) rfl rfl (hb hby d4_60)
    have G49 : ∀ t, Steps p.tables e below (T48.setTop (mkF m 64 #[.val (.ref a4_0), .val (.int p4_1), .val (.int p4_2), .val (.long q4_3), .second, .val (.int v7)] [(.int p4_1), (.int w_node_a4_0)])) t → Steps p.tables e below (T8.setTop (mkF m 30 #[.val (.ref a4_0), .val (.int p4_1), .val (.int p4_2), .val (.long q4_3), .second, .val (.int v7)] [(.int v7)])) t := by
      intro t k
      show Steps p.tables e below (T8.setTop (mkF m 30 #[.val (.ref a4_0), .val (.int p4_1), .val (.int p4_2), .val (.long q4_3), .second, .val (.int v7)] [(.int v7)])) _
      refine XS.ifYes X8.here hx rfl (pc0 := 30) (pc' := 59) rfl (hb hby d4_30) rfl ((if0 _ _).trans (teq (hv7.trans (if_neg h30_10))).1) (by decide) (by decide) ?_
      show Steps p.tables e below (T8.setTop (mkF m 59 #[.val (.ref a4_0), .val (.int p4_1), .val (.int p4_2), .val (.long q4_3), .second, .val (.int v7)] [])) _
      refine XS.aloadN X8.here hx rfl (hb hby d4_59) rfl rfl ?_
      show Steps p.tables e below (T8.setTop (mkF m 60 #[.val (.ref a4_0), .val (.int p4_1), .val (.int p4_2), .val (.long q4_3), .second, .val (.int v7)] [(.ref a4_0)])) _
      refine st48 _ ?_
      show Steps p.tables e below (T48.setTop (mkF m 63 #[.val (.ref a4_0), .val (.int p4_1), .val (.int p4_2), .val (.long q4_3), .second, .val (.int v7)] [(.int w_node_a4_0)])) _
      refine XS.iloadN X48.here hx rfl (hb hby d4_63) rfl ?_
      exact k
    by_cases h64_50 : w_node_a4_0 = p4_1
    · obtain ⟨T51, h51, X51, e51, W51, st51⟩ := putF X48 hx hZ hown (host := "") (Or.inl (ow34 hw)) Via.refl e48 F_beat_a4_0 E_a4_0 (Or.inl (ow35 hw)) (ow4 hw) (ty := .int) (by decide) rfl rfl (g := (mkF m 69 #[.val (.ref a4_0), .val (.int p4_1), .val (.int p4_2), .val (.long q4_3), .second, .val (.int v7)] [(.int p4_2), (.ref a4_0)])) rfl rfl (hb hby d4_69)
      have F51 := F_beat_a4_0.same W51
      have K51 : Keep h0 h51 [a4_0] := (Keep.refl h0 [a4_0]).wr W51 (Or.inl (List.mem_of_getElem? (i := 0) rfl))
      have Z51 : n0 ≤ h51.size := Nat.le_trans Z0 K51.1
      have N51 := Fr.snoc X51 N8 g_a4_0
      have f52 := (E_a4_0.wr W51)
      have f53 := (F_raisedAt_a4_0.other W51 (Or.inr (slot_ne (Or.inl (ow20 hw)) (Or.inl (ow35 hw)) (by decide) (t := .long) (t' := .int) (by decide) (by decide))))
      obtain ⟨T54, h54, X54, e54, W54, st54⟩ := putF X51 hx hZ hown (host := "") (Or.inl (ow19 hw)) Via.refl e51 f53 f52 (Or.inl (ow20 hw)) (ow4 hw) (ty := .long) (by decide) rfl rfl (g := (mkF m 74 #[.val (.ref a4_0), .val (.int p4_1), .val (.int p4_2), .val (.long q4_3), .second, .val (.int v7)] [(.long q4_3), (.ref a4_0)])) rfl rfl (hb hby d4_74)
      have F54 := f53.same W54
      have K54 : Keep h0 h54 [a4_0] := K51.wr W54 (Or.inl (List.mem_of_getElem? (i := 0) rfl))
      have Z54 : n0 ≤ h54.size := Nat.le_trans Z0 K54.1
      have N54 := Fr.snoc X54 N51 g_a4_0
      have f55 := ((F_checkAt_a4_0.other W51 (Or.inr (slot_ne (Or.inl (ow16 hw)) (Or.inl (ow35 hw)) (by decide) (t := .long) (t' := .int) (by decide) (by decide)))).other W54 (Or.inr (slot_ne (Or.inl (ow16 hw)) (Or.inl (ow20 hw)) (by decide) (t := .long) (t' := .long) (by decide) (by decide))))
      obtain ⟨T56, X56, e56, st56⟩ := getF X54 hx hZ hown (host := "") (Or.inl (ow15 hw)) Via.refl e54 f55 (g := (mkF m 79 #[.val (.ref a4_0), .val (.int p4_1), .val (.int p4_2), .val (.long q4_3), .second, .val (.int v7)] [(.ref a4_0), (.long q4_3)])) rfl rfl (hb hby d4_79)
      have G57 : ∀ t, Steps p.tables e below (T56.setTop (mkF m 83 #[.val (.ref a4_0), .val (.int p4_1), .val (.int p4_2), .val (.long q4_3), .second, .val (.int v7)] [(.int (lcmpW q4_3 w_checkAt_a4_0))])) t → Steps p.tables e below (T48.setTop (mkF m 64 #[.val (.ref a4_0), .val (.int p4_1), .val (.int p4_2), .val (.long q4_3), .second, .val (.int v7)] [(.int p4_1), (.int w_node_a4_0)])) t := by
        intro t k
        show Steps p.tables e below (T48.setTop (mkF m 64 #[.val (.ref a4_0), .val (.int p4_1), .val (.int p4_2), .val (.long q4_3), .second, .val (.int v7)] [(.int p4_1), (.int w_node_a4_0)])) _
        refine XS.icmpNo X48.here hx rfl (hb hby d4_64) rfl (teq h64_50).2 ?_
        show Steps p.tables e below (T48.setTop (mkF m 67 #[.val (.ref a4_0), .val (.int p4_1), .val (.int p4_2), .val (.long q4_3), .second, .val (.int v7)] [])) _
        refine XS.aloadN X48.here hx rfl (hb hby d4_67) rfl rfl ?_
        show Steps p.tables e below (T48.setTop (mkF m 68 #[.val (.ref a4_0), .val (.int p4_1), .val (.int p4_2), .val (.long q4_3), .second, .val (.int v7)] [(.ref a4_0)])) _
        refine XS.iloadN X48.here hx rfl (hb hby d4_68) rfl ?_
        show Steps p.tables e below (T48.setTop (mkF m 69 #[.val (.ref a4_0), .val (.int p4_1), .val (.int p4_2), .val (.long q4_3), .second, .val (.int v7)] [(.int p4_2), (.ref a4_0)])) _
        refine st51 _ ?_
        show Steps p.tables e below (T51.setTop (mkF m 72 #[.val (.ref a4_0), .val (.int p4_1), .val (.int p4_2), .val (.long q4_3), .second, .val (.int v7)] [])) _
        refine XS.aloadN X51.here hx rfl (hb hby d4_72) rfl rfl ?_
        show Steps p.tables e below (T51.setTop (mkF m 73 #[.val (.ref a4_0), .val (.int p4_1), .val (.int p4_2), .val (.long q4_3), .second, .val (.int v7)] [(.ref a4_0)])) _
        refine XS.lloadN X51.here hx rfl (hb hby d4_73) rfl ?_
        show Steps p.tables e below (T51.setTop (mkF m 74 #[.val (.ref a4_0), .val (.int p4_1), .val (.int p4_2), .val (.long q4_3), .second, .val (.int v7)] [(.long q4_3), (.ref a4_0)])) _
        refine st54 _ ?_
        show Steps p.tables e below (T54.setTop (mkF m 77 #[.val (.ref a4_0), .val (.int p4_1), .val (.int p4_2), .val (.long q4_3), .second, .val (.int v7)] [])) _
        refine XS.lloadN X54.here hx rfl (hb hby d4_77) rfl ?_
        show Steps p.tables e below (T54.setTop (mkF m 78 #[.val (.ref a4_0), .val (.int p4_1), .val (.int p4_2), .val (.long q4_3), .second, .val (.int v7)] [(.long q4_3)])) _
        refine XS.aloadN X54.here hx rfl (hb hby d4_78) rfl rfl ?_
        show Steps p.tables e below (T54.setTop (mkF m 79 #[.val (.ref a4_0), .val (.int p4_1), .val (.int p4_2), .val (.long q4_3), .second, .val (.int v7)] [(.ref a4_0), (.long q4_3)])) _
        refine st56 _ ?_
        show Steps p.tables e below (T56.setTop (mkF m 82 #[.val (.ref a4_0), .val (.int p4_1), .val (.int p4_2), .val (.long q4_3), .second, .val (.int v7)] [(.long w_checkAt_a4_0), (.long q4_3)])) _
        refine XS.lcmp X56.here hx rfl (hb hby d4_82) rfl ?_
        exact k
      by_cases h83_58 : q4_3 < w_checkAt_a4_0
      · obtain ⟨fs, hr, hrun, hended, hW, hsame⟩ := X56.leave (v := some (.int (0 : Int32))) (fun h => by rw [Bd.returns] at h; cases h)
        refine ⟨_, _, pre0 _ ?_, hrun, hended, _, _, rfl, ?_, ⟨_, rfl⟩, hW, hsame.mono (by decide) (by decide)⟩
        · refine G2 _ ?_
          refine G8 _ ?_
          refine G9 _ ?_
          refine G49 _ ?_
          refine G57 _ ?_
          show Steps p.tables e below (T56.setTop (mkF m 83 #[.val (.ref a4_0), .val (.int p4_1), .val (.int p4_2), .val (.long q4_3), .second, .val (.int v7)] [(.int (lcmpW q4_3 w_checkAt_a4_0))])) _
          refine XS.ifYes X56.here hx rfl (pc0 := 83) (pc' := 120) rfl (hb hby d4_83) rfl ((if0 _ _).trans (tlt ((lw_lt _ _).mpr h83_58)).1) (by decide) (by decide) ?_
          show Steps p.tables e below (T56.setTop (mkF m 120 #[.val (.ref a4_0), .val (.int p4_1), .val (.int p4_2), .val (.long q4_3), .second, .val (.int v7)] [])) _
          refine XS.iload X56.here hx rfl (hb hby d4_120) rfl ?_
          show Steps p.tables e below (T56.setTop (mkF m 122 #[.val (.ref a4_0), .val (.int p4_1), .val (.int p4_2), .val (.long q4_3), .second, .val (.int v7)] [(.int v7)])) _
          rw [show v7 = (0 : Int32) from hv7.trans (if_neg h30_10)]
          show Steps p.tables e below (T56.setTop (mkF m 122 #[.val (.ref a4_0), .val (.int p4_1), .val (.int p4_2), .val (.long q4_3), .second, .val (.int (0 : Int32))] [(.int (0 : Int32))])) _
          exact retN X56 hx (t := .boolean) Bd.returns (by simp) (hb hby d4_122) hr
        · have f100 := ((F_node_a4_0.other W51 (Or.inr (slot_ne (Or.inl (ow18 hw)) (Or.inl (ow35 hw)) (by decide) (t := .int) (t' := .int) (by decide) (by decide)))).other W54 (Or.inr (slot_ne (Or.inl (ow18 hw)) (Or.inl (ow20 hw)) (by decide) (t := .int) (t' := .long) (by decide) (by decide))))
          have f101 := (f52.wr W54)
          have f102 := ((F_dropped_a4_0.other W51 (Or.inr (slot_ne (Or.inl (ow13 hw)) (Or.inl (ow35 hw)) (by decide) (t := .int) (t' := .int) (by decide) (by decide)))).other W54 (Or.inr (slot_ne (Or.inl (ow13 hw)) (Or.inl (ow20 hw)) (by decide) (t := .int) (t' := .long) (by decide) (by decide))))
          have f103 := (F51.other W54 (Or.inr (slot_ne (Or.inl (ow35 hw)) (Or.inl (ow20 hw)) (by decide) (t := .int) (t' := .long) (by decide) (by decide))))
          have f104 := ((F_droppedBeat_a4_0.other W51 (Or.inr (slot_ne (Or.inl (ow67 hw)) (Or.inl (ow35 hw)) (by decide) (t := .int) (t' := .int) (by decide) (by decide)))).other W54 (Or.inr (slot_ne (Or.inl (ow67 hw)) (Or.inl (ow20 hw)) (by decide) (t := .int) (t' := .long) (by decide) (by decide))))
          have f105 := ((F_since_a4_0.other W51 (Or.inr (slot_ne (Or.inl (ow22 hw)) (Or.inl (ow35 hw)) (by decide) (t := .long) (t' := .int) (by decide) (by decide)))).other W54 (Or.inr (slot_ne (Or.inl (ow22 hw)) (Or.inl (ow20 hw)) (by decide) (t := .long) (t' := .long) (by decide) (by decide))))
          have f106 := ((F_far_a4_0.other W51 (Or.inr (slot_ne (Or.inl (ow62 hw)) (Or.inl (ow35 hw)) (by decide) (t := .boolean) (t' := .int) (by decide) (by decide)))).other W54 (Or.inr (slot_ne (Or.inl (ow62 hw)) (Or.inl (ow20 hw)) (by decide) (t := .boolean) (t' := .long) (by decide) (by decide))))
          show Q_rm4 Z a4_0 p4_1 p4_2 q4_3 w_node_a4_0 w_raisedAt_a4_0 w_dropped_a4_0 w_beat_a4_0 w_droppedBeat_a4_0 w_since_a4_0 w_checkAt_a4_0 w_far_a4_0 h0 n0 _ T56.heap _
          rw [e56]
          subst hv7
          exact ⟨(congrArg (fun z => some (Value.int z)) (if_neg h30_10).symm), N54, K54, (own_fld f100 (congrArg Value.int (if_neg h30_10))), f101, (own_fld f102 (congrArg Value.int (if_neg h30_10))), (own_fld f103 (congrArg Value.int ((if_neg h30_10).trans (if_pos h64_50)))), (own_fld f104 (congrArg Value.int (if_neg h30_10))), (own_fld f105 (congrArg Value.long (if_neg h30_10))), (own_fld F54 (congrArg Value.long ((if_neg h30_10).trans (if_pos h64_50)))), (own_fld f55 (congrArg Value.long (if_pos h83_58))), (own_fld f106 (congrArg Value.int ((if_neg h30_10).trans ((if_pos h64_50).trans (if_pos h83_58)))))⟩
      · have f59 := (f52.wr W54)
        obtain ⟨T60, h60, X60, e60, W60, st60⟩ := putF X56 hx hZ hown (host := "") (Or.inl (ow15 hw)) Via.refl e56 f55 f59 (Or.inl (ow16 hw)) (ow4 hw) (ty := .long) (by decide) rfl rfl (g := (mkF m 90 #[.val (.ref a4_0), .val (.int p4_1), .val (.int p4_2), .val (.long q4_3), .second, .val (.int v7)] [(.long (9223372036854775807 : Int64)), (.ref a4_0)])) rfl rfl (hb hby d4_90)
        have F60 := f55.same W60
        have K60 : Keep h0 h60 [a4_0] := K54.wr W60 (Or.inl (List.mem_of_getElem? (i := 0) rfl))
        have Z60 : n0 ≤ h60.size := Nat.le_trans Z0 K60.1
        have N60 := Fr.snoc X60 N54 g_a4_0
        have f61 := (((F_far_a4_0.other W51 (Or.inr (slot_ne (Or.inl (ow62 hw)) (Or.inl (ow35 hw)) (by decide) (t := .boolean) (t' := .int) (by decide) (by decide)))).other W54 (Or.inr (slot_ne (Or.inl (ow62 hw)) (Or.inl (ow20 hw)) (by decide) (t := .boolean) (t' := .long) (by decide) (by decide)))).other W60 (Or.inr (slot_ne (Or.inl (ow62 hw)) (Or.inl (ow16 hw)) (by decide) (t := .boolean) (t' := .long) (by decide) (by decide))))
        obtain ⟨T62, X62, e62, st62⟩ := getF X60 hx hZ hown (host := "") (Or.inl (ow61 hw)) Via.refl e60 f61 (g := (mkF m 95 #[.val (.ref a4_0), .val (.int p4_1), .val (.int p4_2), .val (.long q4_3), .second, .val (.int v7)] [(.ref a4_0), (.ref a4_0)])) rfl rfl (hb hby d4_95)
        have f63 := (F54.other W60 (Or.inr (slot_ne (Or.inl (ow20 hw)) (Or.inl (ow16 hw)) (by decide) (t := .long) (t' := .long) (by decide) (by decide))))
        obtain ⟨T64, X64, e64, st64⟩ := getF X62 hx hZ hown (host := "") (Or.inl (ow19 hw)) Via.refl e62 f63 (g := (mkF m 100 #[.val (.ref a4_0), .val (.int p4_1), .val (.int p4_2), .val (.long q4_3), .second, .val (.int v7)] [(.ref a4_0), (.long q4_3), (.int w_far_a4_0), (.ref a4_0)])) rfl rfl (hb hby d4_100)
        have G65 : ∀ t, Steps p.tables e below (T64.setTop (mkF m 108 #[.val (.ref a4_0), .val (.int p4_1), .val (.int p4_2), .val (.long q4_3), .second, .val (.int v7)] [(.int (lcmpW (q4_3 - q4_3) (2500 : Int64))), (.int w_far_a4_0), (.ref a4_0)])) t → Steps p.tables e below (T56.setTop (mkF m 83 #[.val (.ref a4_0), .val (.int p4_1), .val (.int p4_2), .val (.long q4_3), .second, .val (.int v7)] [(.int (lcmpW q4_3 w_checkAt_a4_0))])) t := by
          intro t k
          show Steps p.tables e below (T56.setTop (mkF m 83 #[.val (.ref a4_0), .val (.int p4_1), .val (.int p4_2), .val (.long q4_3), .second, .val (.int v7)] [(.int (lcmpW q4_3 w_checkAt_a4_0))])) _
          refine XS.ifNo X56.here hx rfl (hb hby d4_83) rfl ((if0 _ _).trans (flt (fun q => h83_58 ((lw_lt _ _).mp q))).1) ?_
          show Steps p.tables e below (T56.setTop (mkF m 86 #[.val (.ref a4_0), .val (.int p4_1), .val (.int p4_2), .val (.long q4_3), .second, .val (.int v7)] [])) _
          refine XS.aloadN X56.here hx rfl (hb hby d4_86) rfl rfl ?_
          show Steps p.tables e below (T56.setTop (mkF m 87 #[.val (.ref a4_0), .val (.int p4_1), .val (.int p4_2), .val (.long q4_3), .second, .val (.int v7)] [(.ref a4_0)])) _
          refine X56.ldc2Long hx hown (mvT hZ (ow14 hw)) (g := (mkF m 87 #[.val (.ref a4_0), .val (.int p4_1), .val (.int p4_2), .val (.long q4_3), .second, .val (.int v7)] [(.ref a4_0)])) rfl (hb hby d4_87) _ ?_
          show Steps p.tables e below (T56.setTop (mkF m 90 #[.val (.ref a4_0), .val (.int p4_1), .val (.int p4_2), .val (.long q4_3), .second, .val (.int v7)] [(.long (9223372036854775807 : Int64)), (.ref a4_0)])) _
          refine st60 _ ?_
          show Steps p.tables e below (T60.setTop (mkF m 93 #[.val (.ref a4_0), .val (.int p4_1), .val (.int p4_2), .val (.long q4_3), .second, .val (.int v7)] [])) _
          refine XS.aloadN X60.here hx rfl (hb hby d4_93) rfl rfl ?_
          show Steps p.tables e below (T60.setTop (mkF m 94 #[.val (.ref a4_0), .val (.int p4_1), .val (.int p4_2), .val (.long q4_3), .second, .val (.int v7)] [(.ref a4_0)])) _
          refine XS.dup X60.here hx rfl (hb hby d4_94) rfl rfl ?_
          show Steps p.tables e below (T60.setTop (mkF m 95 #[.val (.ref a4_0), .val (.int p4_1), .val (.int p4_2), .val (.long q4_3), .second, .val (.int v7)] [(.ref a4_0), (.ref a4_0)])) _
          refine st62 _ ?_
          show Steps p.tables e below (T62.setTop (mkF m 98 #[.val (.ref a4_0), .val (.int p4_1), .val (.int p4_2), .val (.long q4_3), .second, .val (.int v7)] [(.int w_far_a4_0), (.ref a4_0)])) _
          refine XS.lloadN X62.here hx rfl (hb hby d4_98) rfl ?_
          show Steps p.tables e below (T62.setTop (mkF m 99 #[.val (.ref a4_0), .val (.int p4_1), .val (.int p4_2), .val (.long q4_3), .second, .val (.int v7)] [(.long q4_3), (.int w_far_a4_0), (.ref a4_0)])) _
          refine XS.aloadN X62.here hx rfl (hb hby d4_99) rfl rfl ?_
          show Steps p.tables e below (T62.setTop (mkF m 100 #[.val (.ref a4_0), .val (.int p4_1), .val (.int p4_2), .val (.long q4_3), .second, .val (.int v7)] [(.ref a4_0), (.long q4_3), (.int w_far_a4_0), (.ref a4_0)])) _
          refine st64 _ ?_
          show Steps p.tables e below (T64.setTop (mkF m 103 #[.val (.ref a4_0), .val (.int p4_1), .val (.int p4_2), .val (.long q4_3), .second, .val (.int v7)] [(.long q4_3), (.long q4_3), (.int w_far_a4_0), (.ref a4_0)])) _
          refine XS.lsub X64.here hx rfl (hb hby d4_103) rfl ?_
          show Steps p.tables e below (T64.setTop (mkF m 104 #[.val (.ref a4_0), .val (.int p4_1), .val (.int p4_2), .val (.long q4_3), .second, .val (.int v7)] [(.long (q4_3 - q4_3)), (.int w_far_a4_0), (.ref a4_0)])) _
          refine X64.ldc2Long hx hown (mvT hZ (ow68 hw)) (g := (mkF m 104 #[.val (.ref a4_0), .val (.int p4_1), .val (.int p4_2), .val (.long q4_3), .second, .val (.int v7)] [(.long (q4_3 - q4_3)), (.int w_far_a4_0), (.ref a4_0)])) rfl (hb hby d4_104) _ ?_
          show Steps p.tables e below (T64.setTop (mkF m 107 #[.val (.ref a4_0), .val (.int p4_1), .val (.int p4_2), .val (.long q4_3), .second, .val (.int v7)] [(.long (2500 : Int64)), (.long (q4_3 - q4_3)), (.int w_far_a4_0), (.ref a4_0)])) _
          refine XS.lcmp X64.here hx rfl (hb hby d4_107) rfl ?_
          exact k
        obtain ⟨v67, hv67⟩ : ∃ z : Int32, z = (if ¬ ((q4_3 - q4_3) < (2500 : Int64)) then (1 : Int32) else (0 : Int32)) := ⟨_, rfl⟩
        obtain ⟨T68, Lo68, X68, N68, e68, G68⟩ := own_join X64 N60 (h := h60) (mkF m 108 #[.val (.ref a4_0), .val (.int p4_1), .val (.int p4_2), .val (.long q4_3), .second, .val (.int v7)] [(.int (lcmpW (q4_3 - q4_3) (2500 : Int64))), (.int w_far_a4_0), (.ref a4_0)]) (mkF m 116 #[.val (.ref a4_0), .val (.int p4_1), .val (.int p4_2), .val (.long q4_3), .second, .val (.int v7)] [(.int v67), (.int w_far_a4_0), (.ref a4_0)]) (by
          by_cases h108_66 : (q4_3 - q4_3) < (2500 : Int64)
          · refine ⟨T64, _, X64, N60, e64, fun t k => ?_⟩
            rw [show v67 = (0 : Int32) from hv67.trans (if_neg (fun q => q h108_66))] at k
            show Steps p.tables e below (T64.setTop (mkF m 108 #[.val (.ref a4_0), .val (.int p4_1), .val (.int p4_2), .val (.long q4_3), .second, .val (.int v7)] [(.int (lcmpW (q4_3 - q4_3) (2500 : Int64))), (.int w_far_a4_0), (.ref a4_0)])) _
            refine XS.ifYes X64.here hx rfl (pc0 := 108) (pc' := 115) rfl (hb hby d4_108) rfl ((if0 _ _).trans (tlt ((lw_lt _ _).mpr h108_66)).1) (by decide) (by decide) ?_
            show Steps p.tables e below (T64.setTop (mkF m 115 #[.val (.ref a4_0), .val (.int p4_1), .val (.int p4_2), .val (.long q4_3), .second, .val (.int v7)] [(.int w_far_a4_0), (.ref a4_0)])) _
            refine XS.iconst X64.here hx rfl (hb hby d4_115) ?_
            exact k
          · refine ⟨T64, _, X64, N60, e64, fun t k => ?_⟩
            rw [show v67 = (1 : Int32) from hv67.trans (if_pos h108_66)] at k
            show Steps p.tables e below (T64.setTop (mkF m 108 #[.val (.ref a4_0), .val (.int p4_1), .val (.int p4_2), .val (.long q4_3), .second, .val (.int v7)] [(.int (lcmpW (q4_3 - q4_3) (2500 : Int64))), (.int w_far_a4_0), (.ref a4_0)])) _
            refine XS.ifNo X64.here hx rfl (hb hby d4_108) rfl ((if0 _ _).trans (flt (fun q => h108_66 ((lw_lt _ _).mp q))).1) ?_
            show Steps p.tables e below (T64.setTop (mkF m 111 #[.val (.ref a4_0), .val (.int p4_1), .val (.int p4_2), .val (.long q4_3), .second, .val (.int v7)] [(.int w_far_a4_0), (.ref a4_0)])) _
            refine XS.iconst X64.here hx rfl (hb hby d4_111) ?_
            show Steps p.tables e below (T64.setTop (mkF m 112 #[.val (.ref a4_0), .val (.int p4_1), .val (.int p4_2), .val (.long q4_3), .second, .val (.int v7)] [(.int (1 : Int32)), (.int w_far_a4_0), (.ref a4_0)])) _
            refine XS.goto X64.here hx rfl (pc0 := 112) (pc' := 116) rfl (hb hby d4_112) (by decide) (by decide) ?_
            exact k)
        have f69 := (f59.wr W60)
        obtain ⟨T70, h70, X70, e70, W70, st70⟩ := putFN X68 hx hZ hown (ow61 hw) Via.refl e68 f61 f69 (Or.inl (ow62 hw)) (ow4 hw) (ty := .boolean) (v' := (.int (nar .boolean (w_far_a4_0 ||| v67)))) (by decide) rfl (fits_nar_bool _) (g := (mkF m 117 #[.val (.ref a4_0), .val (.int p4_1), .val (.int p4_2), .val (.long q4_3), .second, .val (.int v7)] [(.int (w_far_a4_0 ||| v67)), (.ref a4_0)])) rfl rfl (hb hby d4_117)
        have F70 := f61.same W70
        have K70 : Keep h0 h70 [a4_0] := K60.wr W70 (Or.inl (List.mem_of_getElem? (i := 0) rfl))
        have Z70 : n0 ≤ h70.size := Nat.le_trans Z0 K70.1
        have N70 := Fr.snoc X70 N68 g_a4_0
        obtain ⟨fs, hr, hrun, hended, hW, hsame⟩ := X70.leave (v := some (.int (0 : Int32))) (fun h => by rw [Bd.returns] at h; cases h)
        refine ⟨_, _, pre0 _ ?_, hrun, hended, _, _, rfl, ?_, ⟨_, rfl⟩, hW, hsame.mono (by decide) (by decide)⟩
        · refine G2 _ ?_
          refine G8 _ ?_
          refine G9 _ ?_
          refine G49 _ ?_
          refine G57 _ ?_
          refine G65 _ ?_
          refine G68 _ ?_
          show Steps p.tables e below (T68.setTop (mkF m 116 #[.val (.ref a4_0), .val (.int p4_1), .val (.int p4_2), .val (.long q4_3), .second, .val (.int v7)] [(.int v67), (.int w_far_a4_0), (.ref a4_0)])) _
          refine XS.ior X68.here hx rfl (hb hby d4_116) rfl ?_
          show Steps p.tables e below (T68.setTop (mkF m 117 #[.val (.ref a4_0), .val (.int p4_1), .val (.int p4_2), .val (.long q4_3), .second, .val (.int v7)] [(.int (w_far_a4_0 ||| v67)), (.ref a4_0)])) _
          refine st70 _ ?_
          show Steps p.tables e below (T70.setTop (mkF m 120 #[.val (.ref a4_0), .val (.int p4_1), .val (.int p4_2), .val (.long q4_3), .second, .val (.int v7)] [])) _
          refine XS.iload X70.here hx rfl (hb hby d4_120) rfl ?_
          show Steps p.tables e below (T70.setTop (mkF m 122 #[.val (.ref a4_0), .val (.int p4_1), .val (.int p4_2), .val (.long q4_3), .second, .val (.int v7)] [(.int v7)])) _
          rw [show v7 = (0 : Int32) from hv7.trans (if_neg h30_10)]
          show Steps p.tables e below (T70.setTop (mkF m 122 #[.val (.ref a4_0), .val (.int p4_1), .val (.int p4_2), .val (.long q4_3), .second, .val (.int (0 : Int32))] [(.int (0 : Int32))])) _
          exact retN X70 hx (t := .boolean) Bd.returns (by simp) (hb hby d4_122) hr
        · have f107 := ((((F_node_a4_0.other W51 (Or.inr (slot_ne (Or.inl (ow18 hw)) (Or.inl (ow35 hw)) (by decide) (t := .int) (t' := .int) (by decide) (by decide)))).other W54 (Or.inr (slot_ne (Or.inl (ow18 hw)) (Or.inl (ow20 hw)) (by decide) (t := .int) (t' := .long) (by decide) (by decide)))).other W60 (Or.inr (slot_ne (Or.inl (ow18 hw)) (Or.inl (ow16 hw)) (by decide) (t := .int) (t' := .long) (by decide) (by decide)))).other W70 (Or.inr (slot_ne (Or.inl (ow18 hw)) (Or.inl (ow62 hw)) (by decide) (t := .int) (t' := .boolean) (by decide) (by decide))))
          have f108 := (f69.wr W70)
          have f109 := ((((F_dropped_a4_0.other W51 (Or.inr (slot_ne (Or.inl (ow13 hw)) (Or.inl (ow35 hw)) (by decide) (t := .int) (t' := .int) (by decide) (by decide)))).other W54 (Or.inr (slot_ne (Or.inl (ow13 hw)) (Or.inl (ow20 hw)) (by decide) (t := .int) (t' := .long) (by decide) (by decide)))).other W60 (Or.inr (slot_ne (Or.inl (ow13 hw)) (Or.inl (ow16 hw)) (by decide) (t := .int) (t' := .long) (by decide) (by decide)))).other W70 (Or.inr (slot_ne (Or.inl (ow13 hw)) (Or.inl (ow62 hw)) (by decide) (t := .int) (t' := .boolean) (by decide) (by decide))))
          have f110 := (((F51.other W54 (Or.inr (slot_ne (Or.inl (ow35 hw)) (Or.inl (ow20 hw)) (by decide) (t := .int) (t' := .long) (by decide) (by decide)))).other W60 (Or.inr (slot_ne (Or.inl (ow35 hw)) (Or.inl (ow16 hw)) (by decide) (t := .int) (t' := .long) (by decide) (by decide)))).other W70 (Or.inr (slot_ne (Or.inl (ow35 hw)) (Or.inl (ow62 hw)) (by decide) (t := .int) (t' := .boolean) (by decide) (by decide))))
          have f111 := ((((F_droppedBeat_a4_0.other W51 (Or.inr (slot_ne (Or.inl (ow67 hw)) (Or.inl (ow35 hw)) (by decide) (t := .int) (t' := .int) (by decide) (by decide)))).other W54 (Or.inr (slot_ne (Or.inl (ow67 hw)) (Or.inl (ow20 hw)) (by decide) (t := .int) (t' := .long) (by decide) (by decide)))).other W60 (Or.inr (slot_ne (Or.inl (ow67 hw)) (Or.inl (ow16 hw)) (by decide) (t := .int) (t' := .long) (by decide) (by decide)))).other W70 (Or.inr (slot_ne (Or.inl (ow67 hw)) (Or.inl (ow62 hw)) (by decide) (t := .int) (t' := .boolean) (by decide) (by decide))))
          have f112 := ((((F_since_a4_0.other W51 (Or.inr (slot_ne (Or.inl (ow22 hw)) (Or.inl (ow35 hw)) (by decide) (t := .long) (t' := .int) (by decide) (by decide)))).other W54 (Or.inr (slot_ne (Or.inl (ow22 hw)) (Or.inl (ow20 hw)) (by decide) (t := .long) (t' := .long) (by decide) (by decide)))).other W60 (Or.inr (slot_ne (Or.inl (ow22 hw)) (Or.inl (ow16 hw)) (by decide) (t := .long) (t' := .long) (by decide) (by decide)))).other W70 (Or.inr (slot_ne (Or.inl (ow22 hw)) (Or.inl (ow62 hw)) (by decide) (t := .long) (t' := .boolean) (by decide) (by decide))))
          have f113 := (f63.other W70 (Or.inr (slot_ne (Or.inl (ow20 hw)) (Or.inl (ow62 hw)) (by decide) (t := .long) (t' := .boolean) (by decide) (by decide))))
          have f114 := (F60.other W70 (Or.inr (slot_ne (Or.inl (ow16 hw)) (Or.inl (ow62 hw)) (by decide) (t := .long) (t' := .boolean) (by decide) (by decide))))
          show Q_rm4 Z a4_0 p4_1 p4_2 q4_3 w_node_a4_0 w_raisedAt_a4_0 w_dropped_a4_0 w_beat_a4_0 w_droppedBeat_a4_0 w_since_a4_0 w_checkAt_a4_0 w_far_a4_0 h0 n0 _ T70.heap _
          rw [e70]
          subst hv67
          subst hv7
          exact ⟨(congrArg (fun z => some (Value.int z)) (if_neg h30_10).symm), N70, K70, (own_fld f107 (congrArg Value.int (if_neg h30_10))), f108, (own_fld f109 (congrArg Value.int (if_neg h30_10))), (own_fld f110 (congrArg Value.int ((if_neg h30_10).trans (if_pos h64_50)))), (own_fld f111 (congrArg Value.int (if_neg h30_10))), (own_fld f112 (congrArg Value.long (if_neg h30_10))), (own_fld f113 (congrArg Value.long ((if_neg h30_10).trans (if_pos h64_50)))), (own_fld f114 (congrArg Value.long (if_neg h83_58))), (own_fld F70 (congrArg Value.int ((if_neg h30_10).trans ((if_pos h64_50).trans (if_neg h83_58)))))⟩
    · obtain ⟨T71, X71, e71, st71⟩ := getF X48 hx hZ hown (host := "") (Or.inl (ow15 hw)) Via.refl e48 F_checkAt_a4_0 (g := (mkF m 79 #[.val (.ref a4_0), .val (.int p4_1), .val (.int p4_2), .val (.long q4_3), .second, .val (.int v7)] [(.ref a4_0), (.long q4_3)])) rfl rfl (hb hby d4_79)
      have G72 : ∀ t, Steps p.tables e below (T71.setTop (mkF m 83 #[.val (.ref a4_0), .val (.int p4_1), .val (.int p4_2), .val (.long q4_3), .second, .val (.int v7)] [(.int (lcmpW q4_3 w_checkAt_a4_0))])) t → Steps p.tables e below (T48.setTop (mkF m 64 #[.val (.ref a4_0), .val (.int p4_1), .val (.int p4_2), .val (.long q4_3), .second, .val (.int v7)] [(.int p4_1), (.int w_node_a4_0)])) t := by
        intro t k
        show Steps p.tables e below (T48.setTop (mkF m 64 #[.val (.ref a4_0), .val (.int p4_1), .val (.int p4_2), .val (.long q4_3), .second, .val (.int v7)] [(.int p4_1), (.int w_node_a4_0)])) _
        refine XS.icmpYes X48.here hx rfl (pc0 := 64) (pc' := 77) rfl (hb hby d4_64) rfl (feq h64_50).2 (by decide) (by decide) ?_
        show Steps p.tables e below (T48.setTop (mkF m 77 #[.val (.ref a4_0), .val (.int p4_1), .val (.int p4_2), .val (.long q4_3), .second, .val (.int v7)] [])) _
        refine XS.lloadN X48.here hx rfl (hb hby d4_77) rfl ?_
        show Steps p.tables e below (T48.setTop (mkF m 78 #[.val (.ref a4_0), .val (.int p4_1), .val (.int p4_2), .val (.long q4_3), .second, .val (.int v7)] [(.long q4_3)])) _
        refine XS.aloadN X48.here hx rfl (hb hby d4_78) rfl rfl ?_
        show Steps p.tables e below (T48.setTop (mkF m 79 #[.val (.ref a4_0), .val (.int p4_1), .val (.int p4_2), .val (.long q4_3), .second, .val (.int v7)] [(.ref a4_0), (.long q4_3)])) _
        refine st71 _ ?_
        show Steps p.tables e below (T71.setTop (mkF m 82 #[.val (.ref a4_0), .val (.int p4_1), .val (.int p4_2), .val (.long q4_3), .second, .val (.int v7)] [(.long w_checkAt_a4_0), (.long q4_3)])) _
        refine XS.lcmp X71.here hx rfl (hb hby d4_82) rfl ?_
        exact k
      by_cases h83_73 : q4_3 < w_checkAt_a4_0
      · obtain ⟨fs, hr, hrun, hended, hW, hsame⟩ := X71.leave (v := some (.int (0 : Int32))) (fun h => by rw [Bd.returns] at h; cases h)
        refine ⟨_, _, pre0 _ ?_, hrun, hended, _, _, rfl, ?_, ⟨_, rfl⟩, hW, hsame.mono (by decide) (by decide)⟩
        · refine G2 _ ?_
          refine G8 _ ?_
          refine G9 _ ?_
          refine G49 _ ?_
          refine G72 _ ?_
          show Steps p.tables e below (T71.setTop (mkF m 83 #[.val (.ref a4_0), .val (.int p4_1), .val (.int p4_2), .val (.long q4_3), .second, .val (.int v7)] [(.int (lcmpW q4_3 w_checkAt_a4_0))])) _
          refine XS.ifYes X71.here hx rfl (pc0 := 83) (pc' := 120) rfl (hb hby d4_83) rfl ((if0 _ _).trans (tlt ((lw_lt _ _).mpr h83_73)).1) (by decide) (by decide) ?_
          show Steps p.tables e below (T71.setTop (mkF m 120 #[.val (.ref a4_0), .val (.int p4_1), .val (.int p4_2), .val (.long q4_3), .second, .val (.int v7)] [])) _
          refine XS.iload X71.here hx rfl (hb hby d4_120) rfl ?_
          show Steps p.tables e below (T71.setTop (mkF m 122 #[.val (.ref a4_0), .val (.int p4_1), .val (.int p4_2), .val (.long q4_3), .second, .val (.int v7)] [(.int v7)])) _
          rw [show v7 = (0 : Int32) from hv7.trans (if_neg h30_10)]
          show Steps p.tables e below (T71.setTop (mkF m 122 #[.val (.ref a4_0), .val (.int p4_1), .val (.int p4_2), .val (.long q4_3), .second, .val (.int (0 : Int32))] [(.int (0 : Int32))])) _
          exact retN X71 hx (t := .boolean) Bd.returns (by simp) (hb hby d4_122) hr
        · show Q_rm4 Z a4_0 p4_1 p4_2 q4_3 w_node_a4_0 w_raisedAt_a4_0 w_dropped_a4_0 w_beat_a4_0 w_droppedBeat_a4_0 w_since_a4_0 w_checkAt_a4_0 w_far_a4_0 h0 n0 _ T71.heap _
          rw [e71]
          subst hv7
          exact ⟨(congrArg (fun z => some (Value.int z)) (if_neg h30_10).symm), N8, (Keep.refl h0 [a4_0]), (own_fld F_node_a4_0 (congrArg Value.int (if_neg h30_10))), E_a4_0, (own_fld F_dropped_a4_0 (congrArg Value.int (if_neg h30_10))), (own_fld F_beat_a4_0 (congrArg Value.int ((if_neg h30_10).trans (if_neg h64_50)))), (own_fld F_droppedBeat_a4_0 (congrArg Value.int (if_neg h30_10))), (own_fld F_since_a4_0 (congrArg Value.long (if_neg h30_10))), (own_fld F_raisedAt_a4_0 (congrArg Value.long ((if_neg h30_10).trans (if_neg h64_50)))), (own_fld F_checkAt_a4_0 (congrArg Value.long (if_pos h83_73))), (own_fld F_far_a4_0 (congrArg Value.int ((if_neg h30_10).trans ((if_neg h64_50).trans (if_pos h83_73)))))⟩
      · obtain ⟨T74, h74, X74, e74, W74, st74⟩ := putF X71 hx hZ hown (host := "") (Or.inl (ow15 hw)) Via.refl e71 F_checkAt_a4_0 E_a4_0 (Or.inl (ow16 hw)) (ow4 hw) (ty := .long) (by decide) rfl rfl (g := (mkF m 90 #[.val (.ref a4_0), .val (.int p4_1), .val (.int p4_2), .val (.long q4_3), .second, .val (.int v7)] [(.long (9223372036854775807 : Int64)), (.ref a4_0)])) rfl rfl (hb hby d4_90)
        have F74 := F_checkAt_a4_0.same W74
        have K74 : Keep h0 h74 [a4_0] := (Keep.refl h0 [a4_0]).wr W74 (Or.inl (List.mem_of_getElem? (i := 0) rfl))
        have Z74 : n0 ≤ h74.size := Nat.le_trans Z0 K74.1
        have N74 := Fr.snoc X74 N8 g_a4_0
        have f75 := (F_far_a4_0.other W74 (Or.inr (slot_ne (Or.inl (ow62 hw)) (Or.inl (ow16 hw)) (by decide) (t := .boolean) (t' := .long) (by decide) (by decide))))
        obtain ⟨T76, X76, e76, st76⟩ := getF X74 hx hZ hown (host := "") (Or.inl (ow61 hw)) Via.refl e74 f75 (g := (mkF m 95 #[.val (.ref a4_0), .val (.int p4_1), .val (.int p4_2), .val (.long q4_3), .second, .val (.int v7)] [(.ref a4_0), (.ref a4_0)])) rfl rfl (hb hby d4_95)
        have f77 := (F_raisedAt_a4_0.other W74 (Or.inr (slot_ne (Or.inl (ow20 hw)) (Or.inl (ow16 hw)) (by decide) (t := .long) (t' := .long) (by decide) (by decide))))
        obtain ⟨T78, X78, e78, st78⟩ := getF X76 hx hZ hown (host := "") (Or.inl (ow19 hw)) Via.refl e76 f77 (g := (mkF m 100 #[.val (.ref a4_0), .val (.int p4_1), .val (.int p4_2), .val (.long q4_3), .second, .val (.int v7)] [(.ref a4_0), (.long q4_3), (.int w_far_a4_0), (.ref a4_0)])) rfl rfl (hb hby d4_100)
        have G79 : ∀ t, Steps p.tables e below (T78.setTop (mkF m 108 #[.val (.ref a4_0), .val (.int p4_1), .val (.int p4_2), .val (.long q4_3), .second, .val (.int v7)] [(.int (lcmpW (q4_3 - w_raisedAt_a4_0) (2500 : Int64))), (.int w_far_a4_0), (.ref a4_0)])) t → Steps p.tables e below (T71.setTop (mkF m 83 #[.val (.ref a4_0), .val (.int p4_1), .val (.int p4_2), .val (.long q4_3), .second, .val (.int v7)] [(.int (lcmpW q4_3 w_checkAt_a4_0))])) t := by
          intro t k
          show Steps p.tables e below (T71.setTop (mkF m 83 #[.val (.ref a4_0), .val (.int p4_1), .val (.int p4_2), .val (.long q4_3), .second, .val (.int v7)] [(.int (lcmpW q4_3 w_checkAt_a4_0))])) _
          refine XS.ifNo X71.here hx rfl (hb hby d4_83) rfl ((if0 _ _).trans (flt (fun q => h83_73 ((lw_lt _ _).mp q))).1) ?_
          show Steps p.tables e below (T71.setTop (mkF m 86 #[.val (.ref a4_0), .val (.int p4_1), .val (.int p4_2), .val (.long q4_3), .second, .val (.int v7)] [])) _
          refine XS.aloadN X71.here hx rfl (hb hby d4_86) rfl rfl ?_
          show Steps p.tables e below (T71.setTop (mkF m 87 #[.val (.ref a4_0), .val (.int p4_1), .val (.int p4_2), .val (.long q4_3), .second, .val (.int v7)] [(.ref a4_0)])) _
          refine X71.ldc2Long hx hown (mvT hZ (ow14 hw)) (g := (mkF m 87 #[.val (.ref a4_0), .val (.int p4_1), .val (.int p4_2), .val (.long q4_3), .second, .val (.int v7)] [(.ref a4_0)])) rfl (hb hby d4_87) _ ?_
          show Steps p.tables e below (T71.setTop (mkF m 90 #[.val (.ref a4_0), .val (.int p4_1), .val (.int p4_2), .val (.long q4_3), .second, .val (.int v7)] [(.long (9223372036854775807 : Int64)), (.ref a4_0)])) _
          refine st74 _ ?_
          show Steps p.tables e below (T74.setTop (mkF m 93 #[.val (.ref a4_0), .val (.int p4_1), .val (.int p4_2), .val (.long q4_3), .second, .val (.int v7)] [])) _
          refine XS.aloadN X74.here hx rfl (hb hby d4_93) rfl rfl ?_
          show Steps p.tables e below (T74.setTop (mkF m 94 #[.val (.ref a4_0), .val (.int p4_1), .val (.int p4_2), .val (.long q4_3), .second, .val (.int v7)] [(.ref a4_0)])) _
          refine XS.dup X74.here hx rfl (hb hby d4_94) rfl rfl ?_
          show Steps p.tables e below (T74.setTop (mkF m 95 #[.val (.ref a4_0), .val (.int p4_1), .val (.int p4_2), .val (.long q4_3), .second, .val (.int v7)] [(.ref a4_0), (.ref a4_0)])) _
          refine st76 _ ?_
          show Steps p.tables e below (T76.setTop (mkF m 98 #[.val (.ref a4_0), .val (.int p4_1), .val (.int p4_2), .val (.long q4_3), .second, .val (.int v7)] [(.int w_far_a4_0), (.ref a4_0)])) _
          refine XS.lloadN X76.here hx rfl (hb hby d4_98) rfl ?_
          show Steps p.tables e below (T76.setTop (mkF m 99 #[.val (.ref a4_0), .val (.int p4_1), .val (.int p4_2), .val (.long q4_3), .second, .val (.int v7)] [(.long q4_3), (.int w_far_a4_0), (.ref a4_0)])) _
          refine XS.aloadN X76.here hx rfl (hb hby d4_99) rfl rfl ?_
          show Steps p.tables e below (T76.setTop (mkF m 100 #[.val (.ref a4_0), .val (.int p4_1), .val (.int p4_2), .val (.long q4_3), .second, .val (.int v7)] [(.ref a4_0), (.long q4_3), (.int w_far_a4_0), (.ref a4_0)])) _
          refine st78 _ ?_
          show Steps p.tables e below (T78.setTop (mkF m 103 #[.val (.ref a4_0), .val (.int p4_1), .val (.int p4_2), .val (.long q4_3), .second, .val (.int v7)] [(.long w_raisedAt_a4_0), (.long q4_3), (.int w_far_a4_0), (.ref a4_0)])) _
          refine XS.lsub X78.here hx rfl (hb hby d4_103) rfl ?_
          show Steps p.tables e below (T78.setTop (mkF m 104 #[.val (.ref a4_0), .val (.int p4_1), .val (.int p4_2), .val (.long q4_3), .second, .val (.int v7)] [(.long (q4_3 - w_raisedAt_a4_0)), (.int w_far_a4_0), (.ref a4_0)])) _
          refine X78.ldc2Long hx hown (mvT hZ (ow68 hw)) (g := (mkF m 104 #[.val (.ref a4_0), .val (.int p4_1), .val (.int p4_2), .val (.long q4_3), .second, .val (.int v7)] [(.long (q4_3 - w_raisedAt_a4_0)), (.int w_far_a4_0), (.ref a4_0)])) rfl (hb hby d4_104) _ ?_
          show Steps p.tables e below (T78.setTop (mkF m 107 #[.val (.ref a4_0), .val (.int p4_1), .val (.int p4_2), .val (.long q4_3), .second, .val (.int v7)] [(.long (2500 : Int64)), (.long (q4_3 - w_raisedAt_a4_0)), (.int w_far_a4_0), (.ref a4_0)])) _
          refine XS.lcmp X78.here hx rfl (hb hby d4_107) rfl ?_
          exact k
        obtain ⟨v81, hv81⟩ : ∃ z : Int32, z = (if ¬ ((q4_3 - w_raisedAt_a4_0) < (2500 : Int64)) then (1 : Int32) else (0 : Int32)) := ⟨_, rfl⟩
        obtain ⟨T82, Lo82, X82, N82, e82, G82⟩ := own_join X78 N74 (h := h74) (mkF m 108 #[.val (.ref a4_0), .val (.int p4_1), .val (.int p4_2), .val (.long q4_3), .second, .val (.int v7)] [(.int (lcmpW (q4_3 - w_raisedAt_a4_0) (2500 : Int64))), (.int w_far_a4_0), (.ref a4_0)]) (mkF m 116 #[.val (.ref a4_0), .val (.int p4_1), .val (.int p4_2), .val (.long q4_3), .second, .val (.int v7)] [(.int v81), (.int w_far_a4_0), (.ref a4_0)]) (by
          by_cases h108_80 : (q4_3 - w_raisedAt_a4_0) < (2500 : Int64)
          · refine ⟨T78, _, X78, N74, e78, fun t k => ?_⟩
            rw [show v81 = (0 : Int32) from hv81.trans (if_neg (fun q => q h108_80))] at k
            show Steps p.tables e below (T78.setTop (mkF m 108 #[.val (.ref a4_0), .val (.int p4_1), .val (.int p4_2), .val (.long q4_3), .second, .val (.int v7)] [(.int (lcmpW (q4_3 - w_raisedAt_a4_0) (2500 : Int64))), (.int w_far_a4_0), (.ref a4_0)])) _
            refine XS.ifYes X78.here hx rfl (pc0 := 108) (pc' := 115) rfl (hb hby d4_108) rfl ((if0 _ _).trans (tlt ((lw_lt _ _).mpr h108_80)).1) (by decide) (by decide) ?_
            show Steps p.tables e below (T78.setTop (mkF m 115 #[.val (.ref a4_0), .val (.int p4_1), .val (.int p4_2), .val (.long q4_3), .second, .val (.int v7)] [(.int w_far_a4_0), (.ref a4_0)])) _
            refine XS.iconst X78.here hx rfl (hb hby d4_115) ?_
            exact k
          · refine ⟨T78, _, X78, N74, e78, fun t k => ?_⟩
            rw [show v81 = (1 : Int32) from hv81.trans (if_pos h108_80)] at k
            show Steps p.tables e below (T78.setTop (mkF m 108 #[.val (.ref a4_0), .val (.int p4_1), .val (.int p4_2), .val (.long q4_3), .second, .val (.int v7)] [(.int (lcmpW (q4_3 - w_raisedAt_a4_0) (2500 : Int64))), (.int w_far_a4_0), (.ref a4_0)])) _
            refine XS.ifNo X78.here hx rfl (hb hby d4_108) rfl ((if0 _ _).trans (flt (fun q => h108_80 ((lw_lt _ _).mp q))).1) ?_
            show Steps p.tables e below (T78.setTop (mkF m 111 #[.val (.ref a4_0), .val (.int p4_1), .val (.int p4_2), .val (.long q4_3), .second, .val (.int v7)] [(.int w_far_a4_0), (.ref a4_0)])) _
            refine XS.iconst X78.here hx rfl (hb hby d4_111) ?_
            show Steps p.tables e below (T78.setTop (mkF m 112 #[.val (.ref a4_0), .val (.int p4_1), .val (.int p4_2), .val (.long q4_3), .second, .val (.int v7)] [(.int (1 : Int32)), (.int w_far_a4_0), (.ref a4_0)])) _
            refine XS.goto X78.here hx rfl (pc0 := 112) (pc' := 116) rfl (hb hby d4_112) (by decide) (by decide) ?_
            exact k)
        have f83 := (E_a4_0.wr W74)
        obtain ⟨T84, h84, X84, e84, W84, st84⟩ := putFN X82 hx hZ hown (ow61 hw) Via.refl e82 f75 f83 (Or.inl (ow62 hw)) (ow4 hw) (ty := .boolean) (v' := (.int (nar .boolean (w_far_a4_0 ||| v81)))) (by decide) rfl (fits_nar_bool _) (g := (mkF m 117 #[.val (.ref a4_0), .val (.int p4_1), .val (.int p4_2), .val (.long q4_3), .second, .val (.int v7)] [(.int (w_far_a4_0 ||| v81)), (.ref a4_0)])) rfl rfl (hb hby d4_117)
        have F84 := f75.same W84
        have K84 : Keep h0 h84 [a4_0] := K74.wr W84 (Or.inl (List.mem_of_getElem? (i := 0) rfl))
        have Z84 : n0 ≤ h84.size := Nat.le_trans Z0 K84.1
        have N84 := Fr.snoc X84 N82 g_a4_0
        obtain ⟨fs, hr, hrun, hended, hW, hsame⟩ := X84.leave (v := some (.int (0 : Int32))) (fun h => by rw [Bd.returns] at h; cases h)
        refine ⟨_, _, pre0 _ ?_, hrun, hended, _, _, rfl, ?_, ⟨_, rfl⟩, hW, hsame.mono (by decide) (by decide)⟩
        · refine G2 _ ?_
          refine G8 _ ?_
          refine G9 _ ?_
          refine G49 _ ?_
          refine G72 _ ?_
          refine G79 _ ?_
          refine G82 _ ?_
          show Steps p.tables e below (T82.setTop (mkF m 116 #[.val (.ref a4_0), .val (.int p4_1), .val (.int p4_2), .val (.long q4_3), .second, .val (.int v7)] [(.int v81), (.int w_far_a4_0), (.ref a4_0)])) _
          refine XS.ior X82.here hx rfl (hb hby d4_116) rfl ?_
          show Steps p.tables e below (T82.setTop (mkF m 117 #[.val (.ref a4_0), .val (.int p4_1), .val (.int p4_2), .val (.long q4_3), .second, .val (.int v7)] [(.int (w_far_a4_0 ||| v81)), (.ref a4_0)])) _
          refine st84 _ ?_
          show Steps p.tables e below (T84.setTop (mkF m 120 #[.val (.ref a4_0), .val (.int p4_1), .val (.int p4_2), .val (.long q4_3), .second, .val (.int v7)] [])) _
          refine XS.iload X84.here hx rfl (hb hby d4_120) rfl ?_
          show Steps p.tables e below (T84.setTop (mkF m 122 #[.val (.ref a4_0), .val (.int p4_1), .val (.int p4_2), .val (.long q4_3), .second, .val (.int v7)] [(.int v7)])) _
          rw [show v7 = (0 : Int32) from hv7.trans (if_neg h30_10)]
          show Steps p.tables e below (T84.setTop (mkF m 122 #[.val (.ref a4_0), .val (.int p4_1), .val (.int p4_2), .val (.long q4_3), .second, .val (.int (0 : Int32))] [(.int (0 : Int32))])) _
          exact retN X84 hx (t := .boolean) Bd.returns (by simp) (hb hby d4_122) hr
        · have f115 := ((F_node_a4_0.other W74 (Or.inr (slot_ne (Or.inl (ow18 hw)) (Or.inl (ow16 hw)) (by decide) (t := .int) (t' := .long) (by decide) (by decide)))).other W84 (Or.inr (slot_ne (Or.inl (ow18 hw)) (Or.inl (ow62 hw)) (by decide) (t := .int) (t' := .boolean) (by decide) (by decide))))
          have f116 := (f83.wr W84)
          have f117 := ((F_dropped_a4_0.other W74 (Or.inr (slot_ne (Or.inl (ow13 hw)) (Or.inl (ow16 hw)) (by decide) (t := .int) (t' := .long) (by decide) (by decide)))).other W84 (Or.inr (slot_ne (Or.inl (ow13 hw)) (Or.inl (ow62 hw)) (by decide) (t := .int) (t' := .boolean) (by decide) (by decide))))
          have f118 := ((F_beat_a4_0.other W74 (Or.inr (slot_ne (Or.inl (ow35 hw)) (Or.inl (ow16 hw)) (by decide) (t := .int) (t' := .long) (by decide) (by decide)))).other W84 (Or.inr (slot_ne (Or.inl (ow35 hw)) (Or.inl (ow62 hw)) (by decide) (t := .int) (t' := .boolean) (by decide) (by decide))))
          have f119 := ((F_droppedBeat_a4_0.other W74 (Or.inr (slot_ne (Or.inl (ow67 hw)) (Or.inl (ow16 hw)) (by decide) (t := .int) (t' := .long) (by decide) (by decide)))).other W84 (Or.inr (slot_ne (Or.inl (ow67 hw)) (Or.inl (ow62 hw)) (by decide) (t := .int) (t' := .boolean) (by decide) (by decide))))
          have f120 := ((F_since_a4_0.other W74 (Or.inr (slot_ne (Or.inl (ow22 hw)) (Or.inl (ow16 hw)) (by decide) (t := .long) (t' := .long) (by decide) (by decide)))).other W84 (Or.inr (slot_ne (Or.inl (ow22 hw)) (Or.inl (ow62 hw)) (by decide) (t := .long) (t' := .boolean) (by decide) (by decide))))
          have f121 := (f77.other W84 (Or.inr (slot_ne (Or.inl (ow20 hw)) (Or.inl (ow62 hw)) (by decide) (t := .long) (t' := .boolean) (by decide) (by decide))))
          have f122 := (F74.other W84 (Or.inr (slot_ne (Or.inl (ow16 hw)) (Or.inl (ow62 hw)) (by decide) (t := .long) (t' := .boolean) (by decide) (by decide))))
          show Q_rm4 Z a4_0 p4_1 p4_2 q4_3 w_node_a4_0 w_raisedAt_a4_0 w_dropped_a4_0 w_beat_a4_0 w_droppedBeat_a4_0 w_since_a4_0 w_checkAt_a4_0 w_far_a4_0 h0 n0 _ T84.heap _
          rw [e84]
          subst hv81
          subst hv7
          exact ⟨(congrArg (fun z => some (Value.int z)) (if_neg h30_10).symm), N84, K84, (own_fld f115 (congrArg Value.int (if_neg h30_10))), f116, (own_fld f117 (congrArg Value.int (if_neg h30_10))), (own_fld f118 (congrArg Value.int ((if_neg h30_10).trans (if_neg h64_50)))), (own_fld f119 (congrArg Value.int (if_neg h30_10))), (own_fld f120 (congrArg Value.long (if_neg h30_10))), (own_fld f121 (congrArg Value.long ((if_neg h30_10).trans (if_neg h64_50)))), (own_fld f122 (congrArg Value.long (if_neg h83_73))), (own_fld F84 (congrArg Value.int ((if_neg h30_10).trans ((if_neg h64_50).trans (if_neg h83_73)))))⟩
theorem d5_0 : decode prog_81_method_2_code 0 = .ok (.aload_n 0, 1) := by decide +kernel
theorem d5_1 : decode prog_81_method_2_code 1 = .ok (.getfield 21, 3) := by decide +kernel
theorem d5_4 : decode prog_81_method_2_code 4 = .ok (.ireturn, 1) := by decide +kernel
theorem pn_5 : plainName "com/example/halozat/halozat/node/Leader" = true := by first | (simp [plainName, overriddenIn]; done) | decide +kernel
theorem ef_rm5 (m : MethodId) (y0 : Addr) : entryFrame m #[(.ref y0)] 1 = mkF m 0 #[.val (.ref y0)] [] := by first | (simp [entryFrame, mkF, argsToLocals, Value.category]; done) | rfl
def Q_rm5 (Z : State) (a5_0 : Addr) (w_node_a5_0 : Int32) (h0 : Heap) (n0 : Nat) (v : Option Value) (h : Heap) (L : List Loc) : Prop := v = some (.int w_node_a5_0) ∧ Fr n0 L ∧ h = h0
set_option maxRecDepth 65536 in
set_option maxHeartbeats 40000000 in
theorem rm5 (l : Launch) (Z : State) (a0 : Array Value) (hw : ∀ d ∈ tables_1, d.before a0 Z = true) (ws : List Jvm.Cond) (a5_0 : Addr) (w_node_a5_0 : Int32) (h0 : Heap) (n0 : Nat) (Z0 : n0 ≤ h0.size) (F_node_a5_0 : Fld Z h0 a5_0 "com/example/halozat/halozat/node/Leader" "node" "I" (.int w_node_a5_0)) :
    MetFree l (⟨"com/example/halozat/halozat/node/Leader", "node", "()I"⟩ : MethodName) (head1 (Jvm.Cond.code (⟨"com/example/halozat/halozat/node/Leader", "node", "()I"⟩ : MethodName) prog_81_method_2_code 1 (some .int) :: ws) ({ frames := 0, cells := 0, slots := 0, locals := 0 } : Room)) (fun a U => a = #[(.ref a5_0)] ∧ Z.Warmed39 U.vm ∧ U.heap = h0) (fun _ _ _ _ _ => True) (fun _ U o U' => ∃ v L, o = .returned v ∧ Q_rm5 Z a5_0 w_node_a5_0 h0 n0 v U'.heap L ∧ FrameEnd U o U' L ({ frames := 0, cells := 0, slots := 0, locals := 0 } : Room).cells ({ frames := 0, cells := 0, slots := 0, locals := 0 } : Room).slots) := by
  refine MetFree.of_bodySF (plainFor_of_name pn_5) hisR ?_
  intro p e s m args below meth c s₁ Bd hml0 hP hK
  obtain ⟨rfl, hZ, hh⟩ := hP
  have hx := Bd.exec
  have hby := Bd.bytes
  have hml : c.maxLocals = 1 := hml0
  have hown : s.vm.findClass "com/example/halozat/halozat/node/Leader" = some m.cls := findClass_of_methodNamed Bd.named
  have hnm := (name_of_methodNamed Bd.named Bd.method).1
  have X0 : Stand p l e ({ frames := 0, cells := 0, slots := 0, locals := 0 } : Room) s m #[(.ref a5_0)] below meth c s₁ [] 0 0 := Stand.of_body Bd
  have e0 : s₁.heap = h0 := by rw [← hh, Bd.state]; rfl
  have N0 := Fr.nil n0
  have pre0 : ∀ t, Steps p.tables e below (s₁.setTop (mkF m 0 #[.val (.ref a5_0)] [])) t → Steps p.tables e below (s₁.setTop (entryFrame m #[(.ref a5_0)] 1)) t := fun t k => castTop (ef_rm5 m a5_0) k
  obtain ⟨T1, X1, e1, st1⟩ := getF X0 hx hZ hown (host := "") (Or.inl (ow17 hw)) Via.refl e0 F_node_a5_0 (g := (mkF m 1 #[.val (.ref a5_0)] [(.ref a5_0)])) rfl rfl (hb hby d5_1)
  obtain ⟨fs, hr, hrun, hended, hW, hsame⟩ := X1.leave (v := some (.int w_node_a5_0)) (fun h => by rw [Bd.returns] at h; cases h)
  refine ⟨_, _, pre0 _ ?_, hrun, hended, _, _, rfl, ?_, ⟨_, rfl⟩, hW, hsame.mono (by decide) (by decide)⟩
  · show Steps p.tables e below (s₁.setTop (mkF m 0 #[.val (.ref a5_0)] [])) _
    refine XS.aloadN X0.here hx rfl (hb hby d5_0) rfl rfl ?_
    show Steps p.tables e below (s₁.setTop (mkF m 1 #[.val (.ref a5_0)] [(.ref a5_0)])) _
    refine st1 _ ?_
    show Steps p.tables e below (T1.setTop (mkF m 4 #[.val (.ref a5_0)] [(.int w_node_a5_0)])) _
    exact retI X1 hx Bd.returns (hb hby d5_4) hr
  · show Q_rm5 Z a5_0 w_node_a5_0 h0 n0 _ T1.heap _
    rw [e1]
    exact ⟨rfl, N0, rfl⟩
theorem d6_0 : decode prog_81_method_3_code 0 = .ok (.aload_n 0, 1) := by decide +kernel
theorem d6_1 : decode prog_81_method_3_code 1 = .ok (.getfield 30, 3) := by decide +kernel
theorem d6_4 : decode prog_81_method_3_code 4 = .ok (.ireturn, 1) := by decide +kernel
theorem pn_6 : plainName "com/example/halozat/halozat/node/Leader" = true := by first | (simp [plainName, overriddenIn]; done) | decide +kernel
theorem ef_rm6 (m : MethodId) (y0 : Addr) : entryFrame m #[(.ref y0)] 1 = mkF m 0 #[.val (.ref y0)] [] := by first | (simp [entryFrame, mkF, argsToLocals, Value.category]; done) | rfl
def Q_rm6 (Z : State) (a6_0 : Addr) (w_beat_a6_0 : Int32) (h0 : Heap) (n0 : Nat) (v : Option Value) (h : Heap) (L : List Loc) : Prop := v = some (.int w_beat_a6_0) ∧ Fr n0 L ∧ h = h0
set_option maxRecDepth 65536 in
set_option maxHeartbeats 40000000 in
theorem rm6 (l : Launch) (Z : State) (a0 : Array Value) (hw : ∀ d ∈ tables_1, d.before a0 Z = true) (ws : List Jvm.Cond) (a6_0 : Addr) (w_beat_a6_0 : Int32) (h0 : Heap) (n0 : Nat) (Z0 : n0 ≤ h0.size) (F_beat_a6_0 : Fld Z h0 a6_0 "com/example/halozat/halozat/node/Leader" "beat" "I" (.int w_beat_a6_0)) :
    MetFree l (⟨"com/example/halozat/halozat/node/Leader", "beat", "()I"⟩ : MethodName) (head1 (Jvm.Cond.code (⟨"com/example/halozat/halozat/node/Leader", "beat", "()I"⟩ : MethodName) prog_81_method_3_code 1 (some .int) :: ws) ({ frames := 0, cells := 0, slots := 0, locals := 0 } : Room)) (fun a U => a = #[(.ref a6_0)] ∧ Z.Warmed39 U.vm ∧ U.heap = h0) (fun _ _ _ _ _ => True) (fun _ U o U' => ∃ v L, o = .returned v ∧ Q_rm6 Z a6_0 w_beat_a6_0 h0 n0 v U'.heap L ∧ FrameEnd U o U' L ({ frames := 0, cells := 0, slots := 0, locals := 0 } : Room).cells ({ frames := 0, cells := 0, slots := 0, locals := 0 } : Room).slots) := by
  refine MetFree.of_bodySF (plainFor_of_name pn_6) hisR ?_
  intro p e s m args below meth c s₁ Bd hml0 hP hK
  obtain ⟨rfl, hZ, hh⟩ := hP
  have hx := Bd.exec
  have hby := Bd.bytes
  have hml : c.maxLocals = 1 := hml0
  have hown : s.vm.findClass "com/example/halozat/halozat/node/Leader" = some m.cls := findClass_of_methodNamed Bd.named
  have hnm := (name_of_methodNamed Bd.named Bd.method).1
  have X0 : Stand p l e ({ frames := 0, cells := 0, slots := 0, locals := 0 } : Room) s m #[(.ref a6_0)] below meth c s₁ [] 0 0 := Stand.of_body Bd
  have e0 : s₁.heap = h0 := by rw [← hh, Bd.state]; rfl
  have N0 := Fr.nil n0
  have pre0 : ∀ t, Steps p.tables e below (s₁.setTop (mkF m 0 #[.val (.ref a6_0)] [])) t → Steps p.tables e below (s₁.setTop (entryFrame m #[(.ref a6_0)] 1)) t := fun t k => castTop (ef_rm6 m a6_0) k
  obtain ⟨T1, X1, e1, st1⟩ := getF X0 hx hZ hown (host := "") (Or.inl (ow34 hw)) Via.refl e0 F_beat_a6_0 (g := (mkF m 1 #[.val (.ref a6_0)] [(.ref a6_0)])) rfl rfl (hb hby d6_1)
  obtain ⟨fs, hr, hrun, hended, hW, hsame⟩ := X1.leave (v := some (.int w_beat_a6_0)) (fun h => by rw [Bd.returns] at h; cases h)
  refine ⟨_, _, pre0 _ ?_, hrun, hended, _, _, rfl, ?_, ⟨_, rfl⟩, hW, hsame.mono (by decide) (by decide)⟩
  · show Steps p.tables e below (s₁.setTop (mkF m 0 #[.val (.ref a6_0)] [])) _
    refine XS.aloadN X0.here hx rfl (hb hby d6_0) rfl rfl ?_
    show Steps p.tables e below (s₁.setTop (mkF m 1 #[.val (.ref a6_0)] [(.ref a6_0)])) _
    refine st1 _ ?_
    show Steps p.tables e below (T1.setTop (mkF m 4 #[.val (.ref a6_0)] [(.int w_beat_a6_0)])) _
    exact retI X1 hx Bd.returns (hb hby d6_4) hr
  · show Q_rm6 Z a6_0 w_beat_a6_0 h0 n0 _ T1.heap _
    rw [e1]
    exact ⟨rfl, N0, rfl⟩
theorem d7_0 : decode prog_81_method_4_code 0 = .ok (.lload_n 1, 1) := by decide +kernel
theorem d7_1 : decode prog_81_method_4_code 1 = .ok (.aload_n 0, 1) := by decide +kernel
theorem d7_2 : decode prog_81_method_4_code 2 = .ok (.getfield 24, 3) := by decide +kernel
theorem d7_5 : decode prog_81_method_4_code 5 = .ok (.lsub, 1) := by decide +kernel
theorem d7_6 : decode prog_81_method_4_code 6 = .ok (.lreturn, 1) := by decide +kernel
theorem pn_7 : plainName "com/example/halozat/halozat/node/Leader" = true := by first | (simp [plainName, overriddenIn]; done) | decide +kernel
theorem ef_rm7 (m : MethodId) (y0 : Addr) (y1 : Int64) : entryFrame m #[(.ref y0), (.long y1)] 3 = mkF m 0 #[.val (.ref y0), .val (.long y1), .second] [] := by first | (simp [entryFrame, mkF, argsToLocals, Value.category]; done) | rfl
def Q_rm7 (Z : State) (a7_0 : Addr) (q7_1 : Int64) (w_raisedAt_a7_0 : Int64) (h0 : Heap) (n0 : Nat) (v : Option Value) (h : Heap) (L : List Loc) : Prop := v = some (.long (q7_1 - w_raisedAt_a7_0)) ∧ Fr n0 L ∧ h = h0
set_option maxRecDepth 65536 in
set_option maxHeartbeats 40000000 in
theorem rm7 (l : Launch) (Z : State) (a0 : Array Value) (hw : ∀ d ∈ tables_1, d.before a0 Z = true) (ws : List Jvm.Cond) (a7_0 : Addr) (q7_1 : Int64) (w_raisedAt_a7_0 : Int64) (h0 : Heap) (n0 : Nat) (Z0 : n0 ≤ h0.size) (F_raisedAt_a7_0 : Fld Z h0 a7_0 "com/example/halozat/halozat/node/Leader" "raisedAt" "J" (.long w_raisedAt_a7_0)) :
    MetFree l (⟨"com/example/halozat/halozat/node/Leader", "age", "(J)J"⟩ : MethodName) (head1 (Jvm.Cond.code (⟨"com/example/halozat/halozat/node/Leader", "age", "(J)J"⟩ : MethodName) prog_81_method_4_code 3 (some .long) :: ws) ({ frames := 0, cells := 0, slots := 0, locals := 0 } : Room)) (fun a U => a = #[(.ref a7_0), (.long q7_1)] ∧ Z.Warmed39 U.vm ∧ U.heap = h0) (fun _ _ _ _ _ => True) (fun _ U o U' => ∃ v L, o = .returned v ∧ Q_rm7 Z a7_0 q7_1 w_raisedAt_a7_0 h0 n0 v U'.heap L ∧ FrameEnd U o U' L ({ frames := 0, cells := 0, slots := 0, locals := 0 } : Room).cells ({ frames := 0, cells := 0, slots := 0, locals := 0 } : Room).slots) := by
  refine MetFree.of_bodySF (plainFor_of_name pn_7) hisR ?_
  intro p e s m args below meth c s₁ Bd hml0 hP hK
  obtain ⟨rfl, hZ, hh⟩ := hP
  have hx := Bd.exec
  have hby := Bd.bytes
  have hml : c.maxLocals = 3 := hml0
  have hown : s.vm.findClass "com/example/halozat/halozat/node/Leader" = some m.cls := findClass_of_methodNamed Bd.named
  have hnm := (name_of_methodNamed Bd.named Bd.method).1
  have X0 : Stand p l e ({ frames := 0, cells := 0, slots := 0, locals := 0 } : Room) s m #[(.ref a7_0), (.long q7_1)] below meth c s₁ [] 0 0 := Stand.of_body Bd
  have e0 : s₁.heap = h0 := by rw [← hh, Bd.state]; rfl
  have N0 := Fr.nil n0
  have pre0 : ∀ t, Steps p.tables e below (s₁.setTop (mkF m 0 #[.val (.ref a7_0), .val (.long q7_1), .second] [])) t → Steps p.tables e below (s₁.setTop (entryFrame m #[(.ref a7_0), (.long q7_1)] 3)) t := fun t k => castTop (ef_rm7 m a7_0 q7_1) k
  obtain ⟨T1, X1, e1, st1⟩ := getF X0 hx hZ hown (host := "") (Or.inl (ow19 hw)) Via.refl e0 F_raisedAt_a7_0 (g := (mkF m 2 #[.val (.ref a7_0), .val (.long q7_1), .second] [(.ref a7_0), (.long q7_1)])) rfl rfl (hb hby d7_2)
  obtain ⟨fs, hr, hrun, hended, hW, hsame⟩ := X1.leave (v := some (.long (q7_1 - w_raisedAt_a7_0))) (fun h => by rw [Bd.returns] at h; cases h)
  refine ⟨_, _, pre0 _ ?_, hrun, hended, _, _, rfl, ?_, ⟨_, rfl⟩, hW, hsame.mono (by decide) (by decide)⟩
  · show Steps p.tables e below (s₁.setTop (mkF m 0 #[.val (.ref a7_0), .val (.long q7_1), .second] [])) _
    refine XS.lloadN X0.here hx rfl (hb hby d7_0) rfl ?_
    show Steps p.tables e below (s₁.setTop (mkF m 1 #[.val (.ref a7_0), .val (.long q7_1), .second] [(.long q7_1)])) _
    refine XS.aloadN X0.here hx rfl (hb hby d7_1) rfl rfl ?_
    show Steps p.tables e below (s₁.setTop (mkF m 2 #[.val (.ref a7_0), .val (.long q7_1), .second] [(.ref a7_0), (.long q7_1)])) _
    refine st1 _ ?_
    show Steps p.tables e below (T1.setTop (mkF m 5 #[.val (.ref a7_0), .val (.long q7_1), .second] [(.long w_raisedAt_a7_0), (.long q7_1)])) _
    refine XS.lsub X1.here hx rfl (hb hby d7_5) rfl ?_
    show Steps p.tables e below (T1.setTop (mkF m 6 #[.val (.ref a7_0), .val (.long q7_1), .second] [(.long (q7_1 - w_raisedAt_a7_0))])) _
    jvm_step X1.here [X1.here.top, hx, (hb hby d7_6), X1.method', Bd.returns, narrow]
    first | (intro acts; rw [hr _ acts rfl rfl rfl]) | rw [hr _ _ rfl rfl rfl]
    exact Steps.refl _
  · show Q_rm7 Z a7_0 q7_1 w_raisedAt_a7_0 h0 n0 _ T1.heap _
    rw [e1]
    exact ⟨rfl, N0, rfl⟩
theorem d8_0 : decode prog_81_method_5_code 0 = .ok (.aload_n 0, 1) := by decide +kernel
theorem d8_1 : decode prog_81_method_5_code 1 = .ok (.getfield 27, 3) := by decide +kernel
theorem d8_4 : decode prog_81_method_5_code 4 = .ok (.lreturn, 1) := by decide +kernel
theorem pn_8 : plainName "com/example/halozat/halozat/node/Leader" = true := by first | (simp [plainName, overriddenIn]; done) | decide +kernel
theorem ef_rm8 (m : MethodId) (y0 : Addr) : entryFrame m #[(.ref y0)] 1 = mkF m 0 #[.val (.ref y0)] [] := by first | (simp [entryFrame, mkF, argsToLocals, Value.category]; done) | rfl
def Q_rm8 (Z : State) (a8_0 : Addr) (w_since_a8_0 : Int64) (h0 : Heap) (n0 : Nat) (v : Option Value) (h : Heap) (L : List Loc) : Prop := v = some (.long w_since_a8_0) ∧ Fr n0 L ∧ h = h0
set_option maxRecDepth 65536 in
set_option maxHeartbeats 40000000 in
theorem rm8 (l : Launch) (Z : State) (a0 : Array Value) (hw : ∀ d ∈ tables_1, d.before a0 Z = true) (ws : List Jvm.Cond) (a8_0 : Addr) (w_since_a8_0 : Int64) (h0 : Heap) (n0 : Nat) (Z0 : n0 ≤ h0.size) (F_since_a8_0 : Fld Z h0 a8_0 "com/example/halozat/halozat/node/Leader" "since" "J" (.long w_since_a8_0)) :
    MetFree l (⟨"com/example/halozat/halozat/node/Leader", "since", "()J"⟩ : MethodName) (head1 (Jvm.Cond.code (⟨"com/example/halozat/halozat/node/Leader", "since", "()J"⟩ : MethodName) prog_81_method_5_code 1 (some .long) :: ws) ({ frames := 0, cells := 0, slots := 0, locals := 0 } : Room)) (fun a U => a = #[(.ref a8_0)] ∧ Z.Warmed39 U.vm ∧ U.heap = h0) (fun _ _ _ _ _ => True) (fun _ U o U' => ∃ v L, o = .returned v ∧ Q_rm8 Z a8_0 w_since_a8_0 h0 n0 v U'.heap L ∧ FrameEnd U o U' L ({ frames := 0, cells := 0, slots := 0, locals := 0 } : Room).cells ({ frames := 0, cells := 0, slots := 0, locals := 0 } : Room).slots) := by
  refine MetFree.of_bodySF (plainFor_of_name pn_8) hisR ?_
  intro p e s m args below meth c s₁ Bd hml0 hP hK
  obtain ⟨rfl, hZ, hh⟩ := hP
  have hx := Bd.exec
  have hby := Bd.bytes
  have hml : c.maxLocals = 1 := hml0
  have hown : s.vm.findClass "com/example/halozat/halozat/node/Leader" = some m.cls := findClass_of_methodNamed Bd.named
  have hnm := (name_of_methodNamed Bd.named Bd.method).1
  have X0 : Stand p l e ({ frames := 0, cells := 0, slots := 0, locals := 0 } : Room) s m #[(.ref a8_0)] below meth c s₁ [] 0 0 := Stand.of_body Bd
  have e0 : s₁.heap = h0 := by rw [← hh, Bd.state]; rfl
  have N0 := Fr.nil n0
  have pre0 : ∀ t, Steps p.tables e below (s₁.setTop (mkF m 0 #[.val (.ref a8_0)] [])) t → Steps p.tables e below (s₁.setTop (entryFrame m #[(.ref a8_0)] 1)) t := fun t k => castTop (ef_rm8 m a8_0) k
  obtain ⟨T1, X1, e1, st1⟩ := getF X0 hx hZ hown (host := "") (Or.inl (ow21 hw)) Via.refl e0 F_since_a8_0 (g := (mkF m 1 #[.val (.ref a8_0)] [(.ref a8_0)])) rfl rfl (hb hby d8_1)
  obtain ⟨fs, hr, hrun, hended, hW, hsame⟩ := X1.leave (v := some (.long w_since_a8_0)) (fun h => by rw [Bd.returns] at h; cases h)
  refine ⟨_, _, pre0 _ ?_, hrun, hended, _, _, rfl, ?_, ⟨_, rfl⟩, hW, hsame.mono (by decide) (by decide)⟩
  · show Steps p.tables e below (s₁.setTop (mkF m 0 #[.val (.ref a8_0)] [])) _
    refine XS.aloadN X0.here hx rfl (hb hby d8_0) rfl rfl ?_
    show Steps p.tables e below (s₁.setTop (mkF m 1 #[.val (.ref a8_0)] [(.ref a8_0)])) _
    refine st1 _ ?_
    show Steps p.tables e below (T1.setTop (mkF m 4 #[.val (.ref a8_0)] [(.long w_since_a8_0)])) _
    jvm_step X1.here [X1.here.top, hx, (hb hby d8_4), X1.method', Bd.returns, narrow]
    first | (intro acts; rw [hr _ acts rfl rfl rfl]) | rw [hr _ _ rfl rfl rfl]
    exact Steps.refl _
  · show Q_rm8 Z a8_0 w_since_a8_0 h0 n0 _ T1.heap _
    rw [e1]
    exact ⟨rfl, N0, rfl⟩
theorem d9_0 : decode prog_81_method_6_code 0 = .ok (.aload_n 0, 1) := by decide +kernel
theorem d9_1 : decode prog_81_method_6_code 1 = .ok (.getfield 33, 3) := by decide +kernel
theorem d9_4 : decode prog_81_method_6_code 4 = .ok (.ireturn, 1) := by decide +kernel
theorem pn_9 : plainName "com/example/halozat/halozat/node/Leader" = true := by first | (simp [plainName, overriddenIn]; done) | decide +kernel
theorem ef_rm9 (m : MethodId) (y0 : Addr) : entryFrame m #[(.ref y0)] 1 = mkF m 0 #[.val (.ref y0)] [] := by first | (simp [entryFrame, mkF, argsToLocals, Value.category]; done) | rfl
def Q_rm9 (Z : State) (a9_0 : Addr) (w_far_a9_0 : Int32) (h0 : Heap) (n0 : Nat) (v : Option Value) (h : Heap) (L : List Loc) : Prop := v = some (.int (nar .boolean w_far_a9_0)) ∧ Fr n0 L ∧ h = h0
set_option maxRecDepth 65536 in
set_option maxHeartbeats 40000000 in
theorem rm9 (l : Launch) (Z : State) (a0 : Array Value) (hw : ∀ d ∈ tables_1, d.before a0 Z = true) (ws : List Jvm.Cond) (a9_0 : Addr) (w_far_a9_0 : Int32) (h0 : Heap) (n0 : Nat) (Z0 : n0 ≤ h0.size) (F_far_a9_0 : Fld Z h0 a9_0 "com/example/halozat/halozat/node/Leader" "far" "Z" (.int w_far_a9_0)) :
    MetFree l (⟨"com/example/halozat/halozat/node/Leader", "far", "()Z"⟩ : MethodName) (head1 (Jvm.Cond.code (⟨"com/example/halozat/halozat/node/Leader", "far", "()Z"⟩ : MethodName) prog_81_method_6_code 1 (some .boolean) :: ws) ({ frames := 0, cells := 0, slots := 0, locals := 0 } : Room)) (fun a U => a = #[(.ref a9_0)] ∧ Z.Warmed39 U.vm ∧ U.heap = h0) (fun _ _ _ _ _ => True) (fun _ U o U' => ∃ v L, o = .returned v ∧ Q_rm9 Z a9_0 w_far_a9_0 h0 n0 v U'.heap L ∧ FrameEnd U o U' L ({ frames := 0, cells := 0, slots := 0, locals := 0 } : Room).cells ({ frames := 0, cells := 0, slots := 0, locals := 0 } : Room).slots) := by
  refine MetFree.of_bodySF (plainFor_of_name pn_9) hisR ?_
  intro p e s m args below meth c s₁ Bd hml0 hP hK
  obtain ⟨rfl, hZ, hh⟩ := hP
  have hx := Bd.exec
  have hby := Bd.bytes
  have hml : c.maxLocals = 1 := hml0
  have hown : s.vm.findClass "com/example/halozat/halozat/node/Leader" = some m.cls := findClass_of_methodNamed Bd.named
  have hnm := (name_of_methodNamed Bd.named Bd.method).1
  have X0 : Stand p l e ({ frames := 0, cells := 0, slots := 0, locals := 0 } : Room) s m #[(.ref a9_0)] below meth c s₁ [] 0 0 := Stand.of_body Bd
  have e0 : s₁.heap = h0 := by rw [← hh, Bd.state]; rfl
  have N0 := Fr.nil n0
  have pre0 : ∀ t, Steps p.tables e below (s₁.setTop (mkF m 0 #[.val (.ref a9_0)] [])) t → Steps p.tables e below (s₁.setTop (entryFrame m #[(.ref a9_0)] 1)) t := fun t k => castTop (ef_rm9 m a9_0) k
  obtain ⟨T1, X1, e1, st1⟩ := getF X0 hx hZ hown (host := "") (Or.inl (ow61 hw)) Via.refl e0 F_far_a9_0 (g := (mkF m 1 #[.val (.ref a9_0)] [(.ref a9_0)])) rfl rfl (hb hby d9_1)
  obtain ⟨fs, hr, hrun, hended, hW, hsame⟩ := X1.leave (v := some (.int (nar .boolean w_far_a9_0))) (fun h => by rw [Bd.returns] at h; cases h)
  refine ⟨_, _, pre0 _ ?_, hrun, hended, _, _, rfl, ?_, ⟨_, rfl⟩, hW, hsame.mono (by decide) (by decide)⟩
  · show Steps p.tables e below (s₁.setTop (mkF m 0 #[.val (.ref a9_0)] [])) _
    refine XS.aloadN X0.here hx rfl (hb hby d9_0) rfl rfl ?_
    show Steps p.tables e below (s₁.setTop (mkF m 1 #[.val (.ref a9_0)] [(.ref a9_0)])) _
    refine st1 _ ?_
    show Steps p.tables e below (T1.setTop (mkF m 4 #[.val (.ref a9_0)] [(.int w_far_a9_0)])) _
    exact retN X1 hx (t := .boolean) Bd.returns (by simp) (hb hby d9_4) hr
  · show Q_rm9 Z a9_0 w_far_a9_0 h0 n0 _ T1.heap _
    rw [e1]
    exact ⟨rfl, N0, rfl⟩
theorem own_nb (P : Prop) [Decidable P] : nar .boolean (if P then (1 : Int32) else (0 : Int32)) = (if P then (1 : Int32) else (0 : Int32)) := by split <;> rfl
theorem own_or0 (x : Int32) : (0 : Int32) ||| x = x := Int32.zero_or
/-- the times: no sum wraps -/
theorem own_times (x2 x5 x7 x9 q t : Int64) (h2 : x2 = (q >>> ((2 : Int32) &&& 0x3f).toInt64)) (b5 : 0 ≤ x5.toInt ∧ x5.toInt ≤ 65535) (b7 : 0 ≤ x7.toInt ∧ x7.toInt ≤ 65535) (b9 : 0 ≤ x9.toInt ∧ x9.toInt ≤ 65535) :
    (((x2 + x5) + x7) < ((x2 + x5) + (1000 : Int64)) ↔ x7 < (1000 : Int64)) ∧ ((((x2 + x5) + x7) + x9) < ((x2 + x5) + (1000 : Int64)) ↔ (x7 + x9) < (1000 : Int64)) ∧ ((x2 + x5) + x7) < (9223372036854775807 : Int64) ∧ (((x2 + x5) + x7) + x9) < (9223372036854775807 : Int64) := by
  have s := c_lshr q (2 : Int32) 2 (by decide)
  rw [← h2] at s
  have r := rng64 q
  have a1 := c_ladd x2 x5
  have r1 := rng64 (x2 + x5)
  have a2 := c_ladd (x2 + x5) x7
  have r2 := rng64 ((x2 + x5) + x7)
  have a3 := c_ladd ((x2 + x5) + x7) x9
  have r3 := rng64 (((x2 + x5) + x7) + x9)
  have a4 := c_ladd (x2 + x5) (1000 : Int64)
  have r4 := rng64 ((x2 + x5) + (1000 : Int64))
  have a5 := c_ladd x7 x9
  have r5 := rng64 (x7 + x9)
  rw [show (1000 : Int64).toInt = 1000 from by decide] at a4
  simp only [Int64.lt_iff_toInt_lt, show (1000 : Int64).toInt = 1000 from by decide, show (9223372036854775807 : Int64).toInt = 9223372036854775807 from by decide]
  omega
theorem own_mk (x : Int64) (m : Int64) (k : Nat) (hk : k ≤ 16) (hm : m.toBitVec.toNat = 2 ^ k - 1) : 0 ≤ (x &&& m).toInt ∧ (x &&& m).toInt ≤ 65535 := by
  have h := c_maskL x m k (by omega) hm
  have p : (2 : Nat) ^ k ≤ 2 ^ 16 := Nat.pow_le_pow_right (by decide) hk
  have p2 : (2 : Nat) ^ 16 = 65536 := by decide
  have p3 := Nat.two_pow_pos k
  have q1 := Int.emod_nonneg x.toInt (show ((2 ^ k : Nat) : Int) ≠ 0 by omega)
  have q2 := Int.emod_lt_of_pos x.toInt (show (0 : Int) < ((2 ^ k : Nat) : Int) by omega)
  rw [h]; omega
theorem own_r1 (T x A : Int64) : (T + x) - (T - A) = A + x := by grind
theorem own_r2 (T x y A : Int64) : ((T + x) + y) - (T - A) = (A + x) + y := by grind
theorem pd__IJ_V : parseMethodDescriptor "(IJ)V" = some ⟨[.int, .long], none⟩ := by decide +kernel
theorem pd__IIJJ_Z : parseMethodDescriptor "(IIJJ)Z" = some ⟨[.int, .int, .long, .long], some .boolean⟩ := by decide +kernel
theorem pd__IIJ_Z : parseMethodDescriptor "(IIJ)Z" = some ⟨[.int, .int, .long], some .boolean⟩ := by decide +kernel
theorem pd___I : parseMethodDescriptor "()I" = some ⟨[], some .int⟩ := by decide +kernel
theorem pd__J_J : parseMethodDescriptor "(J)J" = some ⟨[.long], some .long⟩ := by decide +kernel
theorem pd___J : parseMethodDescriptor "()J" = some ⟨[], some .long⟩ := by decide +kernel
theorem pd___Z : parseMethodDescriptor "()Z" = some ⟨[], some .boolean⟩ := by decide +kernel
theorem own_fin1 (p0_0 : Int32) (p0_1 : Int32) (p0_2 : Int32) (p0_3 : Int32) (q0_4 : Int64) (q0_5 : Int64) (x2 : Int64) (hx2 : x2 = (q0_4 >>> ((2 : Int32) &&& 0x3f).toInt64)) (x5 : Int64) (hx5 : x5 = (((q0_5.toUInt64 >>> ((16 : Int32) &&& 0x3f).toInt64.toUInt64).toInt64) &&& (65535 : Int64))) (x7 : Int64) (hx7 : x7 = (((q0_5.toUInt64 >>> ((32 : Int32) &&& 0x3f).toInt64.toUInt64).toInt64) &&& (65535 : Int64))) (x9 : Int64) (hx9 : x9 = (((q0_5.toUInt64 >>> ((48 : Int32) &&& 0x3f).toInt64.toUInt64).toInt64) &&& (4095 : Int64))) (x11 : Int32) (hx11 : x11 = ((((q0_5.toUInt64 >>> ((60 : Int32) &&& 0x3f).toInt64.toUInt64).toInt64) &&& (3 : Int64)).toInt32)) (v15 : Int32) (hv15 : v15 = (if (((q0_5.toUInt64 >>> ((62 : Int32) &&& 0x3f).toInt64.toUInt64).toInt64) &&& (1 : Int64)) = (0 : Int64) then (1 : Int32) else (0 : Int32))) (y26 : Int32) (hy26 : y26 = (if ((q0_5 &&& (65535 : Int64)) < (5000 : Int64) ∧ (p0_1 < p0_0 ∧ ¬ ((p0_1 = (-1 : Int32) ∧ ¬ ((0 : Int32) < p0_2))))) then p0_1 else (if (p0_1 = p0_0 ∧ (0 : Int32) < p0_2) then p0_1 else p0_0))) (y27 : Int32) (hy27 : y27 = (if ((q0_5 &&& (65535 : Int64)) < (5000 : Int64) ∧ (p0_1 < p0_0 ∧ ¬ ((p0_1 = (-1 : Int32) ∧ ¬ ((0 : Int32) < p0_2))))) then p0_2 else (if (p0_1 = p0_0 ∧ (0 : Int32) < p0_2) then p0_2 else (0 : Int32)))) (y28 : Int64) (hy28 : y28 = (if ((q0_5 &&& (65535 : Int64)) < (5000 : Int64) ∧ (p0_1 < p0_0 ∧ ¬ ((p0_1 = (-1 : Int32) ∧ ¬ ((0 : Int32) < p0_2))))) then ((x2 + x5) - (q0_5 &&& (65535 : Int64))) else (if (p0_1 = p0_0 ∧ (0 : Int32) < p0_2) then ((x2 + x5) - (q0_5 &&& (65535 : Int64))) else x2))) (y29 : Int64) (hy29 : y29 = (if ((q0_5 &&& (65535 : Int64)) < (5000 : Int64) ∧ (p0_1 < p0_0 ∧ ¬ ((p0_1 = (-1 : Int32) ∧ ¬ ((0 : Int32) < p0_2))))) then (x2 + x5) else x2)) (y30 : Int64) (hy30 : y30 = (if ((q0_5 &&& (65535 : Int64)) < (5000 : Int64) ∧ (p0_1 < p0_0 ∧ ¬ ((p0_1 = (-1 : Int32) ∧ ¬ ((0 : Int32) < p0_2))))) then ((x2 + x5) + (1000 : Int64)) else (9223372036854775807 : Int64))) (x31 : Int32) (hx31 : x31 = (if ((q0_5 &&& (65535 : Int64)) < (5000 : Int64) ∧ (p0_1 < p0_0 ∧ ¬ ((p0_1 = (-1 : Int32) ∧ ¬ ((0 : Int32) < p0_2))))) then (1 : Int32) else (0 : Int32))) (y34 : Int32) (hy34 : y34 = (if (¬ (y26 = p0_0) ∧ ¬ ((((x2 + x5) + x7) - y28) < (5000 : Int64))) then p0_0 else y26)) (y35 : Int32) (hy35 : y35 = (if (¬ (y26 = p0_0) ∧ ¬ ((((x2 + x5) + x7) - y28) < (5000 : Int64))) then y26 else (-1 : Int32))) (y36 : Int32) (hy36 : y36 = (if (¬ (y26 = p0_0) ∧ ¬ ((((x2 + x5) + x7) - y28) < (5000 : Int64))) then p0_3 else (if y26 = p0_0 then p0_3 else y27))) (y37 : Int32) (hy37 : y37 = (if (¬ (y26 = p0_0) ∧ ¬ ((((x2 + x5) + x7) - y28) < (5000 : Int64))) then y27 else (0 : Int32))) (y38 : Int64) (hy38 : y38 = (if (¬ (y26 = p0_0) ∧ ¬ ((((x2 + x5) + x7) - y28) < (5000 : Int64))) then ((x2 + x5) + x7) else y29)) (y39 : Int64) (hy39 : y39 = (if (¬ (y26 = p0_0) ∧ ¬ ((((x2 + x5) + x7) - y28) < (5000 : Int64))) then ((x2 + x5) + x7) else (if y26 = p0_0 then ((x2 + x5) + x7) else y28))) (y40 : Int64) (hy40 : y40 = (if ((x2 + x5) + x7) < y30 then y30 else (9223372036854775807 : Int64))) (y41 : Int32) (hy41 : y41 = (if (¬ (y26 = p0_0) ∧ ¬ ((((x2 + x5) + x7) - y28) < (5000 : Int64))) then (if ((x2 + x5) + x7) < y30 then (0 : Int32) else (nar .boolean ((0 : Int32) ||| (if ¬ ((((x2 + x5) + x7) - ((x2 + x5) + x7)) < (2500 : Int64)) then (1 : Int32) else (0 : Int32))))) else (if y26 = p0_0 then (if ((x2 + x5) + x7) < y30 then (0 : Int32) else (nar .boolean ((0 : Int32) ||| (if ¬ ((((x2 + x5) + x7) - ((x2 + x5) + x7)) < (2500 : Int64)) then (1 : Int32) else (0 : Int32))))) else (if ((x2 + x5) + x7) < y30 then (0 : Int32) else (nar .boolean ((0 : Int32) ||| (if ¬ ((((x2 + x5) + x7) - y28) < (2500 : Int64)) then (1 : Int32) else (0 : Int32)))))))) (x42 : Int32) (hx42 : x42 = (if (¬ (y26 = p0_0) ∧ ¬ ((((x2 + x5) + x7) - y28) < (5000 : Int64))) then (1 : Int32) else (0 : Int32))) (x49 : Int64) (hx49 : x49 = (((x2 + x5) + x7) - y39)) (x54 : Int32) (hx54 : x54 = (nar .boolean y41)) (v61 : Int32) (hv61 : v61 = (if (((q0_5 &&& (65535 : Int64)) < (5000 : Int64) ∧ (p0_1 < p0_0 ∧ ¬ ((p0_1 = (-1 : Int32) ∧ ¬ ((0 : Int32) < p0_2))))) ∧ ¬ (((q0_5 &&& (65535 : Int64)) + x7) < (5000 : Int64))) then (1 : Int32) else (0 : Int32))) (v68 : Int32) (hv68 : v68 = (if (((q0_5 &&& (65535 : Int64)) < (5000 : Int64) ∧ (p0_1 < p0_0 ∧ ¬ ((p0_1 = (-1 : Int32) ∧ ¬ ((0 : Int32) < p0_2))))) ∧ ¬ ((((q0_5 &&& (65535 : Int64)) < (5000 : Int64) ∧ (p0_1 < p0_0 ∧ ¬ ((p0_1 = (-1 : Int32) ∧ ¬ ((0 : Int32) < p0_2))))) ∧ ¬ (((q0_5 &&& (65535 : Int64)) + x7) < (5000 : Int64))))) then (1 : Int32) else (0 : Int32))) (v73 : Int32) (hv73 : v73 = (if (((q0_5 &&& (65535 : Int64)) < (5000 : Int64) ∧ (p0_1 < p0_0 ∧ ¬ ((p0_1 = (-1 : Int32) ∧ ¬ ((0 : Int32) < p0_2))))) ∧ ¬ ((((q0_5 &&& (65535 : Int64)) < (5000 : Int64) ∧ (p0_1 < p0_0 ∧ ¬ ((p0_1 = (-1 : Int32) ∧ ¬ ((0 : Int32) < p0_2))))) ∧ ¬ (((q0_5 &&& (65535 : Int64)) + x7) < (5000 : Int64))))) then p0_1 else p0_0)) (v78 : Int32) (hv78 : v78 = (if (((q0_5 &&& (65535 : Int64)) < (5000 : Int64) ∧ (p0_1 < p0_0 ∧ ¬ ((p0_1 = (-1 : Int32) ∧ ¬ ((0 : Int32) < p0_2))))) ∧ ¬ ((((q0_5 &&& (65535 : Int64)) < (5000 : Int64) ∧ (p0_1 < p0_0 ∧ ¬ ((p0_1 = (-1 : Int32) ∧ ¬ ((0 : Int32) < p0_2))))) ∧ ¬ (((q0_5 &&& (65535 : Int64)) + x7) < (5000 : Int64))))) then p0_2 else p0_3)) (v83 : Int64) (hv83 : v83 = (if (((q0_5 &&& (65535 : Int64)) < (5000 : Int64) ∧ (p0_1 < p0_0 ∧ ¬ ((p0_1 = (-1 : Int32) ∧ ¬ ((0 : Int32) < p0_2))))) ∧ ¬ ((((q0_5 &&& (65535 : Int64)) < (5000 : Int64) ∧ (p0_1 < p0_0 ∧ ¬ ((p0_1 = (-1 : Int32) ∧ ¬ ((0 : Int32) < p0_2))))) ∧ ¬ (((q0_5 &&& (65535 : Int64)) + x7) < (5000 : Int64))))) then ((q0_5 &&& (65535 : Int64)) + x7) else (0 : Int64))) (v90 : Int64) (hv90 : v90 = (if ((q0_5 &&& (65535 : Int64)) < (5000 : Int64) ∧ (p0_1 < p0_0 ∧ ¬ ((p0_1 = (-1 : Int32) ∧ ¬ ((0 : Int32) < p0_2))))) then (if (((q0_5 &&& (65535 : Int64)) < (5000 : Int64) ∧ (p0_1 < p0_0 ∧ ¬ ((p0_1 = (-1 : Int32) ∧ ¬ ((0 : Int32) < p0_2))))) ∧ ¬ (((q0_5 &&& (65535 : Int64)) + x7) < (5000 : Int64))) then ((x2 + x5) + x7) else (x2 + x5)) else x2)) (v97 : Int32) (hv97 : v97 = (if (((q0_5 &&& (65535 : Int64)) < (5000 : Int64) ∧ (p0_1 < p0_0 ∧ ¬ ((p0_1 = (-1 : Int32) ∧ ¬ ((0 : Int32) < p0_2))))) ∧ ¬ (x7 < (1000 : Int64))) then (1 : Int32) else (0 : Int32))) (v106 : Int32) (hv106 : v106 = (if ((((q0_5 &&& (65535 : Int64)) < (5000 : Int64) ∧ (p0_1 < p0_0 ∧ ¬ ((p0_1 = (-1 : Int32) ∧ ¬ ((0 : Int32) < p0_2))))) ∧ ¬ (x7 < (1000 : Int64))) ∧ ((((q0_5 &&& (65535 : Int64)) < (5000 : Int64) ∧ (p0_1 < p0_0 ∧ ¬ ((p0_1 = (-1 : Int32) ∧ ¬ ((0 : Int32) < p0_2))))) ∧ ¬ ((((q0_5 &&& (65535 : Int64)) < (5000 : Int64) ∧ (p0_1 < p0_0 ∧ ¬ ((p0_1 = (-1 : Int32) ∧ ¬ ((0 : Int32) < p0_2))))) ∧ ¬ (((q0_5 &&& (65535 : Int64)) + x7) < (5000 : Int64))))) ∧ ¬ (((q0_5 &&& (65535 : Int64)) + x7) < (2500 : Int64)))) then (1 : Int32) else (0 : Int32))) (v121 : Int32) (hv121 : v121 = (if (x42 = v61 ∧ (y34 = v73 ∧ (y36 = v78 ∧ (x49 = v83 ∧ (y38 = v90 ∧ x54 = v106))))) then (1 : Int32) else (0 : Int32))) (y127 : Int32) (hy127 : y127 = (if (¬ (y34 = p0_0) ∧ ¬ (((((x2 + x5) + x7) + x9) - y39) < (5000 : Int64))) then p0_0 else y34)) (y128 : Int32) (hy128 : y128 = (if (¬ (y34 = p0_0) ∧ ¬ (((((x2 + x5) + x7) + x9) - y39) < (5000 : Int64))) then y34 else y35)) (y129 : Int32) (hy129 : y129 = (if (¬ (y34 = p0_0) ∧ ¬ (((((x2 + x5) + x7) + x9) - y39) < (5000 : Int64))) then p0_3 else (if y34 = p0_0 then p0_3 else y36))) (y130 : Int32) (hy130 : y130 = (if (¬ (y34 = p0_0) ∧ ¬ (((((x2 + x5) + x7) + x9) - y39) < (5000 : Int64))) then y36 else y37)) (y131 : Int64) (hy131 : y131 = (if (¬ (y34 = p0_0) ∧ ¬ (((((x2 + x5) + x7) + x9) - y39) < (5000 : Int64))) then (((x2 + x5) + x7) + x9) else y38)) (y132 : Int64) (hy132 : y132 = (if (¬ (y34 = p0_0) ∧ ¬ (((((x2 + x5) + x7) + x9) - y39) < (5000 : Int64))) then (((x2 + x5) + x7) + x9) else (if y34 = p0_0 then (((x2 + x5) + x7) + x9) else y39))) (y133 : Int64) (hy133 : y133 = (if (((x2 + x5) + x7) + x9) < y40 then y40 else (9223372036854775807 : Int64))) (y134 : Int32) (hy134 : y134 = (if (¬ (y34 = p0_0) ∧ ¬ (((((x2 + x5) + x7) + x9) - y39) < (5000 : Int64))) then (if (((x2 + x5) + x7) + x9) < y40 then y41 else (nar .boolean (y41 ||| (if ¬ (((((x2 + x5) + x7) + x9) - (((x2 + x5) + x7) + x9)) < (2500 : Int64)) then (1 : Int32) else (0 : Int32))))) else (if y34 = p0_0 then (if (((x2 + x5) + x7) + x9) < y40 then y41 else (nar .boolean (y41 ||| (if ¬ (((((x2 + x5) + x7) + x9) - (((x2 + x5) + x7) + x9)) < (2500 : Int64)) then (1 : Int32) else (0 : Int32))))) else (if (((x2 + x5) + x7) + x9) < y40 then y41 else (nar .boolean (y41 ||| (if ¬ (((((x2 + x5) + x7) + x9) - y39) < (2500 : Int64)) then (1 : Int32) else (0 : Int32)))))))) (x135 : Int32) (hx135 : x135 = (if (¬ (y34 = p0_0) ∧ ¬ (((((x2 + x5) + x7) + x9) - y39) < (5000 : Int64))) then (1 : Int32) else (0 : Int32))) (x138 : Int32) (hx138 : x138 = (nar .boolean y134)) (v144 : Int32) (hv144 : v144 = (if ((((q0_5 &&& (65535 : Int64)) < (5000 : Int64) ∧ (p0_1 < p0_0 ∧ ¬ ((p0_1 = (-1 : Int32) ∧ ¬ ((0 : Int32) < p0_2))))) ∧ ¬ ((((q0_5 &&& (65535 : Int64)) < (5000 : Int64) ∧ (p0_1 < p0_0 ∧ ¬ ((p0_1 = (-1 : Int32) ∧ ¬ ((0 : Int32) < p0_2))))) ∧ ¬ (((q0_5 &&& (65535 : Int64)) + x7) < (5000 : Int64))))) ∧ ¬ ((((q0_5 &&& (65535 : Int64)) + x7) + x9) < (5000 : Int64))) then (1 : Int32) else (0 : Int32))) (v151 : Int32) (hv151 : v151 = (if ((((q0_5 &&& (65535 : Int64)) < (5000 : Int64) ∧ (p0_1 < p0_0 ∧ ¬ ((p0_1 = (-1 : Int32) ∧ ¬ ((0 : Int32) < p0_2))))) ∧ ¬ ((((q0_5 &&& (65535 : Int64)) < (5000 : Int64) ∧ (p0_1 < p0_0 ∧ ¬ ((p0_1 = (-1 : Int32) ∧ ¬ ((0 : Int32) < p0_2))))) ∧ ¬ (((q0_5 &&& (65535 : Int64)) + x7) < (5000 : Int64))))) ∧ ¬ (((((q0_5 &&& (65535 : Int64)) < (5000 : Int64) ∧ (p0_1 < p0_0 ∧ ¬ ((p0_1 = (-1 : Int32) ∧ ¬ ((0 : Int32) < p0_2))))) ∧ ¬ ((((q0_5 &&& (65535 : Int64)) < (5000 : Int64) ∧ (p0_1 < p0_0 ∧ ¬ ((p0_1 = (-1 : Int32) ∧ ¬ ((0 : Int32) < p0_2))))) ∧ ¬ (((q0_5 &&& (65535 : Int64)) + x7) < (5000 : Int64))))) ∧ ¬ ((((q0_5 &&& (65535 : Int64)) + x7) + x9) < (5000 : Int64))))) then (1 : Int32) else (0 : Int32))) (v160 : Int32) (hv160 : v160 = (if (((q0_5 &&& (65535 : Int64)) < (5000 : Int64) ∧ (p0_1 < p0_0 ∧ ¬ ((p0_1 = (-1 : Int32) ∧ ¬ ((0 : Int32) < p0_2))))) ∧ (x7 < (1000 : Int64) ∧ ¬ ((x7 + x9) < (1000 : Int64)))) then (1 : Int32) else (0 : Int32))) (v171 : Int32) (hv171 : v171 = (if (((((q0_5 &&& (65535 : Int64)) < (5000 : Int64) ∧ (p0_1 < p0_0 ∧ ¬ ((p0_1 = (-1 : Int32) ∧ ¬ ((0 : Int32) < p0_2))))) ∧ ¬ (x7 < (1000 : Int64))) ∧ ((((q0_5 &&& (65535 : Int64)) < (5000 : Int64) ∧ (p0_1 < p0_0 ∧ ¬ ((p0_1 = (-1 : Int32) ∧ ¬ ((0 : Int32) < p0_2))))) ∧ ¬ ((((q0_5 &&& (65535 : Int64)) < (5000 : Int64) ∧ (p0_1 < p0_0 ∧ ¬ ((p0_1 = (-1 : Int32) ∧ ¬ ((0 : Int32) < p0_2))))) ∧ ¬ (((q0_5 &&& (65535 : Int64)) + x7) < (5000 : Int64))))) ∧ ¬ (((q0_5 &&& (65535 : Int64)) + x7) < (2500 : Int64)))) ∨ ((((q0_5 &&& (65535 : Int64)) < (5000 : Int64) ∧ (p0_1 < p0_0 ∧ ¬ ((p0_1 = (-1 : Int32) ∧ ¬ ((0 : Int32) < p0_2))))) ∧ (x7 < (1000 : Int64) ∧ ¬ ((x7 + x9) < (1000 : Int64)))) ∧ (((((q0_5 &&& (65535 : Int64)) < (5000 : Int64) ∧ (p0_1 < p0_0 ∧ ¬ ((p0_1 = (-1 : Int32) ∧ ¬ ((0 : Int32) < p0_2))))) ∧ ¬ ((((q0_5 &&& (65535 : Int64)) < (5000 : Int64) ∧ (p0_1 < p0_0 ∧ ¬ ((p0_1 = (-1 : Int32) ∧ ¬ ((0 : Int32) < p0_2))))) ∧ ¬ (((q0_5 &&& (65535 : Int64)) + x7) < (5000 : Int64))))) ∧ ¬ (((((q0_5 &&& (65535 : Int64)) < (5000 : Int64) ∧ (p0_1 < p0_0 ∧ ¬ ((p0_1 = (-1 : Int32) ∧ ¬ ((0 : Int32) < p0_2))))) ∧ ¬ ((((q0_5 &&& (65535 : Int64)) < (5000 : Int64) ∧ (p0_1 < p0_0 ∧ ¬ ((p0_1 = (-1 : Int32) ∧ ¬ ((0 : Int32) < p0_2))))) ∧ ¬ (((q0_5 &&& (65535 : Int64)) + x7) < (5000 : Int64))))) ∧ ¬ ((((q0_5 &&& (65535 : Int64)) + x7) + x9) < (5000 : Int64))))) ∧ ¬ ((((q0_5 &&& (65535 : Int64)) + x7) + x9) < (2500 : Int64))))) then (1 : Int32) else (0 : Int32))) (v180 : Int32) (hv180 : v180 = (if ((x42 = v61 ∧ (y34 = v73 ∧ (y36 = v78 ∧ (x49 = v83 ∧ (y38 = v90 ∧ x54 = v106))))) ∧ (x135 = v144 ∧ x138 = v171)) then (1 : Int32) else (0 : Int32))) (h386_125 : (((q0_5.toUInt64 >>> ((62 : Int32) &&& 0x3f).toInt64.toUInt64).toInt64) &&& (1 : Int64)) = (0 : Int64)) : v180 = (1 : Int32) := by
  have b5 := own_mk ((q0_5.toUInt64 >>> ((16 : Int32) &&& 0x3f).toInt64.toUInt64).toInt64) (65535 : Int64) 16 (by decide) (by decide)
  have b7 := own_mk ((q0_5.toUInt64 >>> ((32 : Int32) &&& 0x3f).toInt64.toUInt64).toInt64) (65535 : Int64) 16 (by decide) (by decide)
  have b9 := own_mk ((q0_5.toUInt64 >>> ((48 : Int32) &&& 0x3f).toInt64.toUInt64).toInt64) (4095 : Int64) 12 (by decide) (by decide)
  rw [← hx5] at b5
  rw [← hx7] at b7
  rw [← hx9] at b9
  obtain ⟨t1, t2, t3, t4⟩ := own_times x2 x5 x7 x9 q0_4 0 hx2 b5 b7 b9
  have z0 : ∀ t : Int64, (t - t) < (2500 : Int64) := fun t => by rw [Int64.sub_self]; decide
  have w0 : nar .boolean (0 : Int32) = 0 := rfl
  have e1 := own_r1 (x2 + x5) x7 (q0_5 &&& (65535 : Int64))
  have e2 := own_r2 (x2 + x5) x7 x9 (q0_5 &&& (65535 : Int64))
  by_cases hC : ((q0_5 &&& (65535 : Int64)) < (5000 : Int64) ∧ (p0_1 < p0_0 ∧ ¬ ((p0_1 = (-1 : Int32) ∧ ¬ ((0 : Int32) < p0_2)))))
  · have ne : ¬ p0_1 = p0_0 := fun e => Int32.lt_irrefl (e ▸ hC.2.1 : p0_0 < p0_0)
    have q26 : y26 = p0_1 := by rw [hy26, if_pos hC]
    have q27 : y27 = p0_2 := by rw [hy27, if_pos hC]
    have q28 : y28 = ((x2 + x5) - (q0_5 &&& (65535 : Int64))) := by rw [hy28, if_pos hC]
    have q29 : y29 = (x2 + x5) := by rw [hy29, if_pos hC]
    have q30 : y30 = ((x2 + x5) + (1000 : Int64)) := by rw [hy30, if_pos hC]
    by_cases G : ((q0_5 &&& (65535 : Int64)) + x7) < (5000 : Int64)
    · have gc : ¬ (¬ (y26 = p0_0) ∧ ¬ ((((x2 + x5) + x7) - y28) < (5000 : Int64))) := by rw [q28, e1]; exact fun q => q.2 G
      have nn : ¬ (y26 = p0_0) := by rw [q26]; exact ne
      have nup : ¬ (((q0_5 &&& (65535 : Int64)) < (5000 : Int64) ∧ (p0_1 < p0_0 ∧ ¬ ((p0_1 = (-1 : Int32) ∧ ¬ ((0 : Int32) < p0_2))))) ∧ ¬ (((q0_5 &&& (65535 : Int64)) + x7) < (5000 : Int64))) := fun q => q.2 G
      have lb : (((q0_5 &&& (65535 : Int64)) < (5000 : Int64) ∧ (p0_1 < p0_0 ∧ ¬ ((p0_1 = (-1 : Int32) ∧ ¬ ((0 : Int32) < p0_2))))) ∧ ¬ ((((q0_5 &&& (65535 : Int64)) < (5000 : Int64) ∧ (p0_1 < p0_0 ∧ ¬ ((p0_1 = (-1 : Int32) ∧ ¬ ((0 : Int32) < p0_2))))) ∧ ¬ (((q0_5 &&& (65535 : Int64)) + x7) < (5000 : Int64))))) := ⟨hC, nup⟩
      have v1 : y34 = p0_1 := by rw [hy34, if_neg gc, q26]
      have v2 : y35 = (-1 : Int32) := by rw [hy35, if_neg gc]
      have v3 : y36 = p0_2 := by rw [hy36, if_neg gc, if_neg nn, q27]
      have v4 : y37 = (0 : Int32) := by rw [hy37, if_neg gc]
      have v5 : y38 = (x2 + x5) := by rw [hy38, if_neg gc, q29]
      have v6 : y39 = ((x2 + x5) - (q0_5 &&& (65535 : Int64))) := by rw [hy39, if_neg gc, if_neg nn, q28]
      have v7 : y40 = (if x7 < (1000 : Int64) then ((x2 + x5) + (1000 : Int64)) else (9223372036854775807 : Int64)) := by rw [hy40, q30]; exact own_ifc t1 rfl rfl
      have v8 : y41 = (if (¬ (x7 < (1000 : Int64)) ∧ ¬ (((q0_5 &&& (65535 : Int64)) + x7) < (2500 : Int64))) then (1 : Int32) else (0 : Int32)) := by
        rw [hy41, if_neg gc, if_neg nn, q30, q28, e1, own_or0, own_nb]
        by_cases a : x7 < (1000 : Int64)
        · rw [if_pos (t1.mpr a), if_neg (fun q => q.1 a)]
        · rw [if_neg (fun q => a (t1.mp q))]
          exact own_ifc ⟨fun q => ⟨a, q⟩, fun q => q.2⟩ rfl rfl
      have k0 : x42 = v61 := by
        rw [hx42, hv61, if_neg gc, if_neg nup]
      have k1 : y34 = v73 := by
        rw [v1, hv73, if_pos lb]
      have k2 : y36 = v78 := by
        rw [v3, hv78, if_pos lb]
      have k3 : x49 = v83 := by
        rw [hx49, v6, e1, hv83, if_pos lb]
      have k4 : y38 = v90 := by
        rw [v5, hv90, if_pos hC, if_neg nup]
      have k5 : x54 = v106 := by
        rw [hx54, v8, own_nb, hv106]; exact own_ifc ⟨fun q => ⟨⟨hC, q.1⟩, lb, q.2⟩, fun q => ⟨q.1.2, q.2.2⟩⟩ rfl rfl
      have k6 : x135 = v144 := by
        rw [hx135, hv144, v1, v6, e2]; exact own_ifc ⟨fun q => ⟨lb, q.2⟩, fun q => ⟨ne, q.2⟩⟩ rfl rfl
      have k7 : x138 = v171 := by
        rw [hx138, hy134, hv171, v1, v6, e2, if_neg ne, if_neg (Classical.not_not.mpr (z0 _))]
        by_cases a : x7 < (1000 : Int64)
        · have y0 : y41 = (0 : Int32) := by rw [v8, if_neg (fun q => q.1 a)]
          rw [v7, if_pos a, y0, own_or0, own_or0, own_nb]
          by_cases d : (x7 + x9) < (1000 : Int64)
          · have nf : ¬ (((((q0_5 &&& (65535 : Int64)) < (5000 : Int64) ∧ (p0_1 < p0_0 ∧ ¬ ((p0_1 = (-1 : Int32) ∧ ¬ ((0 : Int32) < p0_2))))) ∧ ¬ (x7 < (1000 : Int64))) ∧ ((((q0_5 &&& (65535 : Int64)) < (5000 : Int64) ∧ (p0_1 < p0_0 ∧ ¬ ((p0_1 = (-1 : Int32) ∧ ¬ ((0 : Int32) < p0_2))))) ∧ ¬ ((((q0_5 &&& (65535 : Int64)) < (5000 : Int64) ∧ (p0_1 < p0_0 ∧ ¬ ((p0_1 = (-1 : Int32) ∧ ¬ ((0 : Int32) < p0_2))))) ∧ ¬ (((q0_5 &&& (65535 : Int64)) + x7) < (5000 : Int64))))) ∧ ¬ (((q0_5 &&& (65535 : Int64)) + x7) < (2500 : Int64)))) ∨ ((((q0_5 &&& (65535 : Int64)) < (5000 : Int64) ∧ (p0_1 < p0_0 ∧ ¬ ((p0_1 = (-1 : Int32) ∧ ¬ ((0 : Int32) < p0_2))))) ∧ (x7 < (1000 : Int64) ∧ ¬ ((x7 + x9) < (1000 : Int64)))) ∧ (((((q0_5 &&& (65535 : Int64)) < (5000 : Int64) ∧ (p0_1 < p0_0 ∧ ¬ ((p0_1 = (-1 : Int32) ∧ ¬ ((0 : Int32) < p0_2))))) ∧ ¬ ((((q0_5 &&& (65535 : Int64)) < (5000 : Int64) ∧ (p0_1 < p0_0 ∧ ¬ ((p0_1 = (-1 : Int32) ∧ ¬ ((0 : Int32) < p0_2))))) ∧ ¬ (((q0_5 &&& (65535 : Int64)) + x7) < (5000 : Int64))))) ∧ ¬ (((((q0_5 &&& (65535 : Int64)) < (5000 : Int64) ∧ (p0_1 < p0_0 ∧ ¬ ((p0_1 = (-1 : Int32) ∧ ¬ ((0 : Int32) < p0_2))))) ∧ ¬ ((((q0_5 &&& (65535 : Int64)) < (5000 : Int64) ∧ (p0_1 < p0_0 ∧ ¬ ((p0_1 = (-1 : Int32) ∧ ¬ ((0 : Int32) < p0_2))))) ∧ ¬ (((q0_5 &&& (65535 : Int64)) + x7) < (5000 : Int64))))) ∧ ¬ ((((q0_5 &&& (65535 : Int64)) + x7) + x9) < (5000 : Int64))))) ∧ ¬ ((((q0_5 &&& (65535 : Int64)) + x7) + x9) < (2500 : Int64))))) := fun q => q.elim (fun q => q.1.2 a) (fun q => q.1.2.2 d)
            rw [if_pos (t2.mpr d), if_pos (t2.mpr d), ite_self, if_neg nf]
            rfl
          · rw [if_neg (fun q => d (t2.mp q)), if_neg (fun q => d (t2.mp q))]
            by_cases g5 : (((q0_5 &&& (65535 : Int64)) + x7) + x9) < (5000 : Int64)
            · rw [if_neg (fun q => q.2 g5), own_nb]
              refine own_ifc ⟨fun q => ?_, fun q => ?_⟩ rfl rfl
              · exact Or.inr ⟨⟨hC, a, d⟩, ⟨lb, fun r => r.2 g5⟩, q⟩
              · exact q.elim (fun q => absurd a q.1.2) (fun q => q.2.2)
            · have nf : ¬ (((((q0_5 &&& (65535 : Int64)) < (5000 : Int64) ∧ (p0_1 < p0_0 ∧ ¬ ((p0_1 = (-1 : Int32) ∧ ¬ ((0 : Int32) < p0_2))))) ∧ ¬ (x7 < (1000 : Int64))) ∧ ((((q0_5 &&& (65535 : Int64)) < (5000 : Int64) ∧ (p0_1 < p0_0 ∧ ¬ ((p0_1 = (-1 : Int32) ∧ ¬ ((0 : Int32) < p0_2))))) ∧ ¬ ((((q0_5 &&& (65535 : Int64)) < (5000 : Int64) ∧ (p0_1 < p0_0 ∧ ¬ ((p0_1 = (-1 : Int32) ∧ ¬ ((0 : Int32) < p0_2))))) ∧ ¬ (((q0_5 &&& (65535 : Int64)) + x7) < (5000 : Int64))))) ∧ ¬ (((q0_5 &&& (65535 : Int64)) + x7) < (2500 : Int64)))) ∨ ((((q0_5 &&& (65535 : Int64)) < (5000 : Int64) ∧ (p0_1 < p0_0 ∧ ¬ ((p0_1 = (-1 : Int32) ∧ ¬ ((0 : Int32) < p0_2))))) ∧ (x7 < (1000 : Int64) ∧ ¬ ((x7 + x9) < (1000 : Int64)))) ∧ (((((q0_5 &&& (65535 : Int64)) < (5000 : Int64) ∧ (p0_1 < p0_0 ∧ ¬ ((p0_1 = (-1 : Int32) ∧ ¬ ((0 : Int32) < p0_2))))) ∧ ¬ ((((q0_5 &&& (65535 : Int64)) < (5000 : Int64) ∧ (p0_1 < p0_0 ∧ ¬ ((p0_1 = (-1 : Int32) ∧ ¬ ((0 : Int32) < p0_2))))) ∧ ¬ (((q0_5 &&& (65535 : Int64)) + x7) < (5000 : Int64))))) ∧ ¬ (((((q0_5 &&& (65535 : Int64)) < (5000 : Int64) ∧ (p0_1 < p0_0 ∧ ¬ ((p0_1 = (-1 : Int32) ∧ ¬ ((0 : Int32) < p0_2))))) ∧ ¬ ((((q0_5 &&& (65535 : Int64)) < (5000 : Int64) ∧ (p0_1 < p0_0 ∧ ¬ ((p0_1 = (-1 : Int32) ∧ ¬ ((0 : Int32) < p0_2))))) ∧ ¬ (((q0_5 &&& (65535 : Int64)) + x7) < (5000 : Int64))))) ∧ ¬ ((((q0_5 &&& (65535 : Int64)) + x7) + x9) < (5000 : Int64))))) ∧ ¬ ((((q0_5 &&& (65535 : Int64)) + x7) + x9) < (2500 : Int64))))) := fun q => q.elim (fun q => q.1.2 a) (fun q => q.2.1.2 ⟨lb, g5⟩)
              rw [if_pos ⟨ne, g5⟩, w0, w0, if_neg nf]
        · rw [v7, if_neg a, if_pos t4, if_pos t4, ite_self, v8, own_nb]
          refine own_ifc ⟨fun q => ?_, fun q => ?_⟩ rfl rfl
          · exact Or.inl ⟨⟨hC, q.1⟩, lb, q.2⟩
          · exact q.elim (fun q => ⟨q.1.2, q.2.2⟩) (fun q => absurd q.1.2.1 a)
      rw [hv180]
      exact if_pos ⟨⟨k0, k1, k2, k3, k4, k5⟩, k6, k7⟩
    · have nn : ¬ (y26 = p0_0) := by rw [q26]; exact ne
      have gc : (¬ (y26 = p0_0) ∧ ¬ ((((x2 + x5) + x7) - y28) < (5000 : Int64))) := ⟨nn, by rw [q28, e1]; exact G⟩
      have up : (((q0_5 &&& (65535 : Int64)) < (5000 : Int64) ∧ (p0_1 < p0_0 ∧ ¬ ((p0_1 = (-1 : Int32) ∧ ¬ ((0 : Int32) < p0_2))))) ∧ ¬ (((q0_5 &&& (65535 : Int64)) + x7) < (5000 : Int64))) := ⟨hC, G⟩
      have nlb : ¬ (((q0_5 &&& (65535 : Int64)) < (5000 : Int64) ∧ (p0_1 < p0_0 ∧ ¬ ((p0_1 = (-1 : Int32) ∧ ¬ ((0 : Int32) < p0_2))))) ∧ ¬ ((((q0_5 &&& (65535 : Int64)) < (5000 : Int64) ∧ (p0_1 < p0_0 ∧ ¬ ((p0_1 = (-1 : Int32) ∧ ¬ ((0 : Int32) < p0_2))))) ∧ ¬ (((q0_5 &&& (65535 : Int64)) + x7) < (5000 : Int64))))) := fun q => q.2 up
      have v1 : y34 = p0_0 := by rw [hy34, if_pos gc]
      have v2 : y35 = p0_1 := by rw [hy35, if_pos gc, q26]
      have v3 : y36 = p0_3 := by rw [hy36, if_pos gc]
      have v4 : y37 = p0_2 := by rw [hy37, if_pos gc, q27]
      have v5 : y38 = ((x2 + x5) + x7) := by rw [hy38, if_pos gc]
      have v6 : y39 = ((x2 + x5) + x7) := by rw [hy39, if_pos gc]
      have v8 : y41 = (0 : Int32) := by
        rw [hy41, if_pos gc, if_neg (Classical.not_not.mpr (z0 _)), own_or0]
        split <;> rfl
      have k0 : x42 = v61 := by
        rw [hx42, hv61, if_pos gc, if_pos up]
      have k1 : y34 = v73 := by
        rw [v1, hv73, if_neg nlb]
      have k2 : y36 = v78 := by
        rw [v3, hv78, if_neg nlb]
      have k3 : x49 = v83 := by
        rw [hx49, v6, Int64.sub_self, hv83, if_neg nlb]
      have k4 : y38 = v90 := by
        rw [v5, hv90, if_pos hC, if_pos up]
      have k5 : x54 = v106 := by
        rw [hx54, v8, hv106, if_neg (fun q => nlb q.2.1)]; rfl
      have k6 : x135 = v144 := by
        rw [hx135, hv144, v1, if_neg (fun q => q.1 rfl), if_neg (fun q => nlb q.1)]
      have k7 : x138 = v171 := by
        rw [hx138, hy134, hv171, v1, v8, if_neg (fun q => q.1 rfl), if_pos rfl, if_neg (Classical.not_not.mpr (z0 _)), own_or0, w0, ite_self, if_neg (fun q => q.elim (fun r => nlb r.2.1) (fun r => nlb r.2.1.1))]
        rfl
      rw [hv180]
      exact if_pos ⟨⟨k0, k1, k2, k3, k4, k5⟩, k6, k7⟩
  · have q26 : y26 = p0_0 := by
      rw [hy26, if_neg hC]
      by_cases h : (p0_1 = p0_0 ∧ (0 : Int32) < p0_2)
      · rw [if_pos h]; exact h.1
      · rw [if_neg h]
    have q29 : y29 = x2 := by rw [hy29, if_neg hC]
    have q30 : y30 = (9223372036854775807 : Int64) := by rw [hy30, if_neg hC]
    have gc : ¬ (¬ (y26 = p0_0) ∧ ¬ ((((x2 + x5) + x7) - y28) < (5000 : Int64))) := fun q => q.1 q26
    have nup : ¬ (((q0_5 &&& (65535 : Int64)) < (5000 : Int64) ∧ (p0_1 < p0_0 ∧ ¬ ((p0_1 = (-1 : Int32) ∧ ¬ ((0 : Int32) < p0_2))))) ∧ ¬ (((q0_5 &&& (65535 : Int64)) + x7) < (5000 : Int64))) := fun q => hC q.1
    have nlb : ¬ (((q0_5 &&& (65535 : Int64)) < (5000 : Int64) ∧ (p0_1 < p0_0 ∧ ¬ ((p0_1 = (-1 : Int32) ∧ ¬ ((0 : Int32) < p0_2))))) ∧ ¬ ((((q0_5 &&& (65535 : Int64)) < (5000 : Int64) ∧ (p0_1 < p0_0 ∧ ¬ ((p0_1 = (-1 : Int32) ∧ ¬ ((0 : Int32) < p0_2))))) ∧ ¬ (((q0_5 &&& (65535 : Int64)) + x7) < (5000 : Int64))))) := fun q => hC q.1
    have v1 : y34 = p0_0 := by rw [hy34, if_neg gc, q26]
    have v2 : y35 = (-1 : Int32) := by rw [hy35, if_neg gc]
    have v3 : y36 = p0_3 := by rw [hy36, if_neg gc, if_pos q26]
    have v4 : y37 = (0 : Int32) := by rw [hy37, if_neg gc]
    have v5 : y38 = x2 := by rw [hy38, if_neg gc, q29]
    have v6 : y39 = ((x2 + x5) + x7) := by rw [hy39, if_neg gc, if_pos q26]
    have v7 : y40 = (9223372036854775807 : Int64) := by rw [hy40, q30, if_pos t3]
    have v8 : y41 = (0 : Int32) := by rw [hy41, if_neg gc, if_pos q26, q30, if_pos t3]
    have k0 : x42 = v61 := by
      rw [hx42, hv61, if_neg gc, if_neg nup]
    have k1 : y34 = v73 := by
      rw [v1, hv73, if_neg nlb]
    have k2 : y36 = v78 := by
      rw [v3, hv78, if_neg nlb]
    have k3 : x49 = v83 := by
      rw [hx49, v6, Int64.sub_self, hv83, if_neg nlb]
    have k4 : y38 = v90 := by
      rw [v5, hv90, if_neg hC]
    have k5 : x54 = v106 := by
      rw [hx54, v8, hv106, if_neg (fun q => nlb q.2.1)]; rfl
    have k6 : x135 = v144 := by
      rw [hx135, hv144, v1, if_neg (fun q => q.1 rfl), if_neg (fun q => nlb q.1)]
    have k7 : x138 = v171 := by
      rw [hx138, hy134, hv171, v1, v8, if_neg (fun q => q.1 rfl), if_pos rfl, if_neg (Classical.not_not.mpr (z0 _)), own_or0, w0, ite_self, if_neg (fun q => q.elim (fun r => nlb r.2.1) (fun r => nlb r.2.1.1))]
      rfl
    rw [hv180]
    exact if_pos ⟨⟨k0, k1, k2, k3, k4, k5⟩, k6, k7⟩
theorem own_fin2 (p0_0 : Int32) (p0_1 : Int32) (p0_2 : Int32) (p0_3 : Int32) (q0_4 : Int64) (q0_5 : Int64) (x2 : Int64) (hx2 : x2 = (q0_4 >>> ((2 : Int32) &&& 0x3f).toInt64)) (x5 : Int64) (hx5 : x5 = (((q0_5.toUInt64 >>> ((16 : Int32) &&& 0x3f).toInt64.toUInt64).toInt64) &&& (65535 : Int64))) (x7 : Int64) (hx7 : x7 = (((q0_5.toUInt64 >>> ((32 : Int32) &&& 0x3f).toInt64.toUInt64).toInt64) &&& (65535 : Int64))) (x9 : Int64) (hx9 : x9 = (((q0_5.toUInt64 >>> ((48 : Int32) &&& 0x3f).toInt64.toUInt64).toInt64) &&& (4095 : Int64))) (x11 : Int32) (hx11 : x11 = ((((q0_5.toUInt64 >>> ((60 : Int32) &&& 0x3f).toInt64.toUInt64).toInt64) &&& (3 : Int64)).toInt32)) (v15 : Int32) (hv15 : v15 = (if (((q0_5.toUInt64 >>> ((62 : Int32) &&& 0x3f).toInt64.toUInt64).toInt64) &&& (1 : Int64)) = (0 : Int64) then (1 : Int32) else (0 : Int32))) (y26 : Int32) (hy26 : y26 = (if ((q0_5 &&& (65535 : Int64)) < (5000 : Int64) ∧ (p0_1 < p0_0 ∧ ¬ ((p0_1 = (-1 : Int32) ∧ ¬ ((0 : Int32) < p0_2))))) then p0_1 else (if (p0_1 = p0_0 ∧ (0 : Int32) < p0_2) then p0_1 else p0_0))) (y27 : Int32) (hy27 : y27 = (if ((q0_5 &&& (65535 : Int64)) < (5000 : Int64) ∧ (p0_1 < p0_0 ∧ ¬ ((p0_1 = (-1 : Int32) ∧ ¬ ((0 : Int32) < p0_2))))) then p0_2 else (if (p0_1 = p0_0 ∧ (0 : Int32) < p0_2) then p0_2 else (0 : Int32)))) (y28 : Int64) (hy28 : y28 = (if ((q0_5 &&& (65535 : Int64)) < (5000 : Int64) ∧ (p0_1 < p0_0 ∧ ¬ ((p0_1 = (-1 : Int32) ∧ ¬ ((0 : Int32) < p0_2))))) then ((x2 + x5) - (q0_5 &&& (65535 : Int64))) else (if (p0_1 = p0_0 ∧ (0 : Int32) < p0_2) then ((x2 + x5) - (q0_5 &&& (65535 : Int64))) else x2))) (y29 : Int64) (hy29 : y29 = (if ((q0_5 &&& (65535 : Int64)) < (5000 : Int64) ∧ (p0_1 < p0_0 ∧ ¬ ((p0_1 = (-1 : Int32) ∧ ¬ ((0 : Int32) < p0_2))))) then (x2 + x5) else x2)) (y30 : Int64) (hy30 : y30 = (if ((q0_5 &&& (65535 : Int64)) < (5000 : Int64) ∧ (p0_1 < p0_0 ∧ ¬ ((p0_1 = (-1 : Int32) ∧ ¬ ((0 : Int32) < p0_2))))) then ((x2 + x5) + (1000 : Int64)) else (9223372036854775807 : Int64))) (x31 : Int32) (hx31 : x31 = (if ((q0_5 &&& (65535 : Int64)) < (5000 : Int64) ∧ (p0_1 < p0_0 ∧ ¬ ((p0_1 = (-1 : Int32) ∧ ¬ ((0 : Int32) < p0_2))))) then (1 : Int32) else (0 : Int32))) (y34 : Int32) (hy34 : y34 = (if (¬ (y26 = p0_0) ∧ ¬ ((((x2 + x5) + x7) - y28) < (5000 : Int64))) then p0_0 else y26)) (y35 : Int32) (hy35 : y35 = (if (¬ (y26 = p0_0) ∧ ¬ ((((x2 + x5) + x7) - y28) < (5000 : Int64))) then y26 else (-1 : Int32))) (y36 : Int32) (hy36 : y36 = (if (¬ (y26 = p0_0) ∧ ¬ ((((x2 + x5) + x7) - y28) < (5000 : Int64))) then p0_3 else (if y26 = p0_0 then p0_3 else y27))) (y37 : Int32) (hy37 : y37 = (if (¬ (y26 = p0_0) ∧ ¬ ((((x2 + x5) + x7) - y28) < (5000 : Int64))) then y27 else (0 : Int32))) (y38 : Int64) (hy38 : y38 = (if (¬ (y26 = p0_0) ∧ ¬ ((((x2 + x5) + x7) - y28) < (5000 : Int64))) then ((x2 + x5) + x7) else y29)) (y39 : Int64) (hy39 : y39 = (if (¬ (y26 = p0_0) ∧ ¬ ((((x2 + x5) + x7) - y28) < (5000 : Int64))) then ((x2 + x5) + x7) else (if y26 = p0_0 then ((x2 + x5) + x7) else y28))) (y40 : Int64) (hy40 : y40 = (if ((x2 + x5) + x7) < y30 then y30 else (9223372036854775807 : Int64))) (y41 : Int32) (hy41 : y41 = (if (¬ (y26 = p0_0) ∧ ¬ ((((x2 + x5) + x7) - y28) < (5000 : Int64))) then (if ((x2 + x5) + x7) < y30 then (0 : Int32) else (nar .boolean ((0 : Int32) ||| (if ¬ ((((x2 + x5) + x7) - ((x2 + x5) + x7)) < (2500 : Int64)) then (1 : Int32) else (0 : Int32))))) else (if y26 = p0_0 then (if ((x2 + x5) + x7) < y30 then (0 : Int32) else (nar .boolean ((0 : Int32) ||| (if ¬ ((((x2 + x5) + x7) - ((x2 + x5) + x7)) < (2500 : Int64)) then (1 : Int32) else (0 : Int32))))) else (if ((x2 + x5) + x7) < y30 then (0 : Int32) else (nar .boolean ((0 : Int32) ||| (if ¬ ((((x2 + x5) + x7) - y28) < (2500 : Int64)) then (1 : Int32) else (0 : Int32)))))))) (x42 : Int32) (hx42 : x42 = (if (¬ (y26 = p0_0) ∧ ¬ ((((x2 + x5) + x7) - y28) < (5000 : Int64))) then (1 : Int32) else (0 : Int32))) (x49 : Int64) (hx49 : x49 = (((x2 + x5) + x7) - y39)) (x54 : Int32) (hx54 : x54 = (nar .boolean y41)) (v61 : Int32) (hv61 : v61 = (if (((q0_5 &&& (65535 : Int64)) < (5000 : Int64) ∧ (p0_1 < p0_0 ∧ ¬ ((p0_1 = (-1 : Int32) ∧ ¬ ((0 : Int32) < p0_2))))) ∧ ¬ (((q0_5 &&& (65535 : Int64)) + x7) < (5000 : Int64))) then (1 : Int32) else (0 : Int32))) (v68 : Int32) (hv68 : v68 = (if (((q0_5 &&& (65535 : Int64)) < (5000 : Int64) ∧ (p0_1 < p0_0 ∧ ¬ ((p0_1 = (-1 : Int32) ∧ ¬ ((0 : Int32) < p0_2))))) ∧ ¬ ((((q0_5 &&& (65535 : Int64)) < (5000 : Int64) ∧ (p0_1 < p0_0 ∧ ¬ ((p0_1 = (-1 : Int32) ∧ ¬ ((0 : Int32) < p0_2))))) ∧ ¬ (((q0_5 &&& (65535 : Int64)) + x7) < (5000 : Int64))))) then (1 : Int32) else (0 : Int32))) (v73 : Int32) (hv73 : v73 = (if (((q0_5 &&& (65535 : Int64)) < (5000 : Int64) ∧ (p0_1 < p0_0 ∧ ¬ ((p0_1 = (-1 : Int32) ∧ ¬ ((0 : Int32) < p0_2))))) ∧ ¬ ((((q0_5 &&& (65535 : Int64)) < (5000 : Int64) ∧ (p0_1 < p0_0 ∧ ¬ ((p0_1 = (-1 : Int32) ∧ ¬ ((0 : Int32) < p0_2))))) ∧ ¬ (((q0_5 &&& (65535 : Int64)) + x7) < (5000 : Int64))))) then p0_1 else p0_0)) (v78 : Int32) (hv78 : v78 = (if (((q0_5 &&& (65535 : Int64)) < (5000 : Int64) ∧ (p0_1 < p0_0 ∧ ¬ ((p0_1 = (-1 : Int32) ∧ ¬ ((0 : Int32) < p0_2))))) ∧ ¬ ((((q0_5 &&& (65535 : Int64)) < (5000 : Int64) ∧ (p0_1 < p0_0 ∧ ¬ ((p0_1 = (-1 : Int32) ∧ ¬ ((0 : Int32) < p0_2))))) ∧ ¬ (((q0_5 &&& (65535 : Int64)) + x7) < (5000 : Int64))))) then p0_2 else p0_3)) (v83 : Int64) (hv83 : v83 = (if (((q0_5 &&& (65535 : Int64)) < (5000 : Int64) ∧ (p0_1 < p0_0 ∧ ¬ ((p0_1 = (-1 : Int32) ∧ ¬ ((0 : Int32) < p0_2))))) ∧ ¬ ((((q0_5 &&& (65535 : Int64)) < (5000 : Int64) ∧ (p0_1 < p0_0 ∧ ¬ ((p0_1 = (-1 : Int32) ∧ ¬ ((0 : Int32) < p0_2))))) ∧ ¬ (((q0_5 &&& (65535 : Int64)) + x7) < (5000 : Int64))))) then ((q0_5 &&& (65535 : Int64)) + x7) else (0 : Int64))) (v90 : Int64) (hv90 : v90 = (if ((q0_5 &&& (65535 : Int64)) < (5000 : Int64) ∧ (p0_1 < p0_0 ∧ ¬ ((p0_1 = (-1 : Int32) ∧ ¬ ((0 : Int32) < p0_2))))) then (if (((q0_5 &&& (65535 : Int64)) < (5000 : Int64) ∧ (p0_1 < p0_0 ∧ ¬ ((p0_1 = (-1 : Int32) ∧ ¬ ((0 : Int32) < p0_2))))) ∧ ¬ (((q0_5 &&& (65535 : Int64)) + x7) < (5000 : Int64))) then ((x2 + x5) + x7) else (x2 + x5)) else x2)) (v97 : Int32) (hv97 : v97 = (if (((q0_5 &&& (65535 : Int64)) < (5000 : Int64) ∧ (p0_1 < p0_0 ∧ ¬ ((p0_1 = (-1 : Int32) ∧ ¬ ((0 : Int32) < p0_2))))) ∧ ¬ (x7 < (1000 : Int64))) then (1 : Int32) else (0 : Int32))) (v106 : Int32) (hv106 : v106 = (if ((((q0_5 &&& (65535 : Int64)) < (5000 : Int64) ∧ (p0_1 < p0_0 ∧ ¬ ((p0_1 = (-1 : Int32) ∧ ¬ ((0 : Int32) < p0_2))))) ∧ ¬ (x7 < (1000 : Int64))) ∧ ((((q0_5 &&& (65535 : Int64)) < (5000 : Int64) ∧ (p0_1 < p0_0 ∧ ¬ ((p0_1 = (-1 : Int32) ∧ ¬ ((0 : Int32) < p0_2))))) ∧ ¬ ((((q0_5 &&& (65535 : Int64)) < (5000 : Int64) ∧ (p0_1 < p0_0 ∧ ¬ ((p0_1 = (-1 : Int32) ∧ ¬ ((0 : Int32) < p0_2))))) ∧ ¬ (((q0_5 &&& (65535 : Int64)) + x7) < (5000 : Int64))))) ∧ ¬ (((q0_5 &&& (65535 : Int64)) + x7) < (2500 : Int64)))) then (1 : Int32) else (0 : Int32))) (v121 : Int32) (hv121 : v121 = (if (x42 = v61 ∧ (y34 = v73 ∧ (y36 = v78 ∧ (x49 = v83 ∧ (y38 = v90 ∧ x54 = v106))))) then (1 : Int32) else (0 : Int32))) (v184 : Int32) (hv184 : v184 = (if (((q0_5 &&& (65535 : Int64)) < (5000 : Int64) ∧ (p0_1 < p0_0 ∧ ¬ ((p0_1 = (-1 : Int32) ∧ ¬ ((0 : Int32) < p0_2))))) ∧ ¬ (((q0_5 &&& (65535 : Int64)) + x7) < (5000 : Int64))) then p0_1 else (-1 : Int32))) (v189 : Int32) (hv189 : v189 = (if (((q0_5 &&& (65535 : Int64)) < (5000 : Int64) ∧ (p0_1 < p0_0 ∧ ¬ ((p0_1 = (-1 : Int32) ∧ ¬ ((0 : Int32) < p0_2))))) ∧ ¬ (((q0_5 &&& (65535 : Int64)) + x7) < (5000 : Int64))) then p0_2 else (0 : Int32))) (v196 : Int32) (hv196 : v196 = (if (p0_1 = v184 ∧ ¬ (v189 < ((p0_2 + x11) - (1 : Int32)))) then (1 : Int32) else (0 : Int32))) (v203 : Int32) (hv203 : v203 = (if (p0_1 < v73 ∧ ¬ ((p0_1 = v184 ∧ ¬ (v189 < ((p0_2 + x11) - (1 : Int32)))))) then (1 : Int32) else (0 : Int32))) (y207 : Int32) (hy207 : y207 = (if ((0 : Int64) < (5000 : Int64) ∧ (p0_1 < y34 ∧ ¬ ((p0_1 = y35 ∧ ¬ (y37 < ((p0_2 + x11) - (1 : Int32))))))) then p0_1 else (if (p0_1 = y34 ∧ y36 < ((p0_2 + x11) - (1 : Int32))) then p0_1 else y34))) (y208 : Int32) (hy208 : y208 = (if ((0 : Int64) < (5000 : Int64) ∧ (p0_1 < y34 ∧ ¬ ((p0_1 = y35 ∧ ¬ (y37 < ((p0_2 + x11) - (1 : Int32))))))) then ((p0_2 + x11) - (1 : Int32)) else (if (p0_1 = y34 ∧ y36 < ((p0_2 + x11) - (1 : Int32))) then ((p0_2 + x11) - (1 : Int32)) else y36))) (y209 : Int64) (hy209 : y209 = (if ((0 : Int64) < (5000 : Int64) ∧ (p0_1 < y34 ∧ ¬ ((p0_1 = y35 ∧ ¬ (y37 < ((p0_2 + x11) - (1 : Int32))))))) then (((x2 + x5) + x7) - (0 : Int64)) else (if (p0_1 = y34 ∧ y36 < ((p0_2 + x11) - (1 : Int32))) then (((x2 + x5) + x7) - (0 : Int64)) else y39))) (y210 : Int64) (hy210 : y210 = (if ((0 : Int64) < (5000 : Int64) ∧ (p0_1 < y34 ∧ ¬ ((p0_1 = y35 ∧ ¬ (y37 < ((p0_2 + x11) - (1 : Int32))))))) then ((x2 + x5) + x7) else y38)) (y211 : Int64) (hy211 : y211 = (if ((0 : Int64) < (5000 : Int64) ∧ (p0_1 < y34 ∧ ¬ ((p0_1 = y35 ∧ ¬ (y37 < ((p0_2 + x11) - (1 : Int32))))))) then (((x2 + x5) + x7) + (1000 : Int64)) else y40)) (x212 : Int32) (hx212 : x212 = (if ((0 : Int64) < (5000 : Int64) ∧ (p0_1 < y34 ∧ ¬ ((p0_1 = y35 ∧ ¬ (y37 < ((p0_2 + x11) - (1 : Int32))))))) then (1 : Int32) else (0 : Int32))) (v218 : Int32) (hv218 : v218 = (if ((x42 = v61 ∧ (y34 = v73 ∧ (y36 = v78 ∧ (x49 = v83 ∧ (y38 = v90 ∧ x54 = v106))))) ∧ x212 = v203) then (1 : Int32) else (0 : Int32))) (h386_125 : ¬ ((((q0_5.toUInt64 >>> ((62 : Int32) &&& 0x3f).toInt64.toUInt64).toInt64) &&& (1 : Int64)) = (0 : Int64))) : v218 = (1 : Int32) := by
  have b5 := own_mk ((q0_5.toUInt64 >>> ((16 : Int32) &&& 0x3f).toInt64.toUInt64).toInt64) (65535 : Int64) 16 (by decide) (by decide)
  have b7 := own_mk ((q0_5.toUInt64 >>> ((32 : Int32) &&& 0x3f).toInt64.toUInt64).toInt64) (65535 : Int64) 16 (by decide) (by decide)
  have b9 := own_mk ((q0_5.toUInt64 >>> ((48 : Int32) &&& 0x3f).toInt64.toUInt64).toInt64) (4095 : Int64) 12 (by decide) (by decide)
  rw [← hx5] at b5
  rw [← hx7] at b7
  rw [← hx9] at b9
  obtain ⟨t1, t2, t3, t4⟩ := own_times x2 x5 x7 x9 q0_4 0 hx2 b5 b7 b9
  have z0 : ∀ t : Int64, (t - t) < (2500 : Int64) := fun t => by rw [Int64.sub_self]; decide
  have w0 : nar .boolean (0 : Int32) = 0 := rfl
  have e1 := own_r1 (x2 + x5) x7 (q0_5 &&& (65535 : Int64))
  have e2 := own_r2 (x2 + x5) x7 x9 (q0_5 &&& (65535 : Int64))
  by_cases hC : ((q0_5 &&& (65535 : Int64)) < (5000 : Int64) ∧ (p0_1 < p0_0 ∧ ¬ ((p0_1 = (-1 : Int32) ∧ ¬ ((0 : Int32) < p0_2)))))
  · have ne : ¬ p0_1 = p0_0 := fun e => Int32.lt_irrefl (e ▸ hC.2.1 : p0_0 < p0_0)
    have q26 : y26 = p0_1 := by rw [hy26, if_pos hC]
    have q27 : y27 = p0_2 := by rw [hy27, if_pos hC]
    have q28 : y28 = ((x2 + x5) - (q0_5 &&& (65535 : Int64))) := by rw [hy28, if_pos hC]
    have q29 : y29 = (x2 + x5) := by rw [hy29, if_pos hC]
    have q30 : y30 = ((x2 + x5) + (1000 : Int64)) := by rw [hy30, if_pos hC]
    by_cases G : ((q0_5 &&& (65535 : Int64)) + x7) < (5000 : Int64)
    · have gc : ¬ (¬ (y26 = p0_0) ∧ ¬ ((((x2 + x5) + x7) - y28) < (5000 : Int64))) := by rw [q28, e1]; exact fun q => q.2 G
      have nn : ¬ (y26 = p0_0) := by rw [q26]; exact ne
      have nup : ¬ (((q0_5 &&& (65535 : Int64)) < (5000 : Int64) ∧ (p0_1 < p0_0 ∧ ¬ ((p0_1 = (-1 : Int32) ∧ ¬ ((0 : Int32) < p0_2))))) ∧ ¬ (((q0_5 &&& (65535 : Int64)) + x7) < (5000 : Int64))) := fun q => q.2 G
      have lb : (((q0_5 &&& (65535 : Int64)) < (5000 : Int64) ∧ (p0_1 < p0_0 ∧ ¬ ((p0_1 = (-1 : Int32) ∧ ¬ ((0 : Int32) < p0_2))))) ∧ ¬ ((((q0_5 &&& (65535 : Int64)) < (5000 : Int64) ∧ (p0_1 < p0_0 ∧ ¬ ((p0_1 = (-1 : Int32) ∧ ¬ ((0 : Int32) < p0_2))))) ∧ ¬ (((q0_5 &&& (65535 : Int64)) + x7) < (5000 : Int64))))) := ⟨hC, nup⟩
      have v1 : y34 = p0_1 := by rw [hy34, if_neg gc, q26]
      have v2 : y35 = (-1 : Int32) := by rw [hy35, if_neg gc]
      have v3 : y36 = p0_2 := by rw [hy36, if_neg gc, if_neg nn, q27]
      have v4 : y37 = (0 : Int32) := by rw [hy37, if_neg gc]
      have v5 : y38 = (x2 + x5) := by rw [hy38, if_neg gc, q29]
      have v6 : y39 = ((x2 + x5) - (q0_5 &&& (65535 : Int64))) := by rw [hy39, if_neg gc, if_neg nn, q28]
      have v7 : y40 = (if x7 < (1000 : Int64) then ((x2 + x5) + (1000 : Int64)) else (9223372036854775807 : Int64)) := by rw [hy40, q30]; exact own_ifc t1 rfl rfl
      have v8 : y41 = (if (¬ (x7 < (1000 : Int64)) ∧ ¬ (((q0_5 &&& (65535 : Int64)) + x7) < (2500 : Int64))) then (1 : Int32) else (0 : Int32)) := by
        rw [hy41, if_neg gc, if_neg nn, q30, q28, e1, own_or0, own_nb]
        by_cases a : x7 < (1000 : Int64)
        · rw [if_pos (t1.mpr a), if_neg (fun q => q.1 a)]
        · rw [if_neg (fun q => a (t1.mp q))]
          exact own_ifc ⟨fun q => ⟨a, q⟩, fun q => q.2⟩ rfl rfl
      have k0 : x42 = v61 := by
        rw [hx42, hv61, if_neg gc, if_neg nup]
      have k1 : y34 = v73 := by
        rw [v1, hv73, if_pos lb]
      have k2 : y36 = v78 := by
        rw [v3, hv78, if_pos lb]
      have k3 : x49 = v83 := by
        rw [hx49, v6, e1, hv83, if_pos lb]
      have k4 : y38 = v90 := by
        rw [v5, hv90, if_pos hC, if_neg nup]
      have k5 : x54 = v106 := by
        rw [hx54, v8, own_nb, hv106]; exact own_ifc ⟨fun q => ⟨⟨hC, q.1⟩, lb, q.2⟩, fun q => ⟨q.1.2, q.2.2⟩⟩ rfl rfl
      have k6 : x212 = v203 := by
        rw [hx212, hv203, hv73, hv184, hv189, v1, v2, v4, if_pos lb, if_neg nup, if_neg nup]; exact own_ifc ⟨fun q => q.2, fun q => ⟨by decide, q⟩⟩ rfl rfl
      rw [hv218]
      exact if_pos ⟨⟨k0, k1, k2, k3, k4, k5⟩, k6⟩
    · have nn : ¬ (y26 = p0_0) := by rw [q26]; exact ne
      have gc : (¬ (y26 = p0_0) ∧ ¬ ((((x2 + x5) + x7) - y28) < (5000 : Int64))) := ⟨nn, by rw [q28, e1]; exact G⟩
      have up : (((q0_5 &&& (65535 : Int64)) < (5000 : Int64) ∧ (p0_1 < p0_0 ∧ ¬ ((p0_1 = (-1 : Int32) ∧ ¬ ((0 : Int32) < p0_2))))) ∧ ¬ (((q0_5 &&& (65535 : Int64)) + x7) < (5000 : Int64))) := ⟨hC, G⟩
      have nlb : ¬ (((q0_5 &&& (65535 : Int64)) < (5000 : Int64) ∧ (p0_1 < p0_0 ∧ ¬ ((p0_1 = (-1 : Int32) ∧ ¬ ((0 : Int32) < p0_2))))) ∧ ¬ ((((q0_5 &&& (65535 : Int64)) < (5000 : Int64) ∧ (p0_1 < p0_0 ∧ ¬ ((p0_1 = (-1 : Int32) ∧ ¬ ((0 : Int32) < p0_2))))) ∧ ¬ (((q0_5 &&& (65535 : Int64)) + x7) < (5000 : Int64))))) := fun q => q.2 up
      have v1 : y34 = p0_0 := by rw [hy34, if_pos gc]
      have v2 : y35 = p0_1 := by rw [hy35, if_pos gc, q26]
      have v3 : y36 = p0_3 := by rw [hy36, if_pos gc]
      have v4 : y37 = p0_2 := by rw [hy37, if_pos gc, q27]
      have v5 : y38 = ((x2 + x5) + x7) := by rw [hy38, if_pos gc]
      have v6 : y39 = ((x2 + x5) + x7) := by rw [hy39, if_pos gc]
      have v8 : y41 = (0 : Int32) := by
        rw [hy41, if_pos gc, if_neg (Classical.not_not.mpr (z0 _)), own_or0]
        split <;> rfl
      have k0 : x42 = v61 := by
        rw [hx42, hv61, if_pos gc, if_pos up]
      have k1 : y34 = v73 := by
        rw [v1, hv73, if_neg nlb]
      have k2 : y36 = v78 := by
        rw [v3, hv78, if_neg nlb]
      have k3 : x49 = v83 := by
        rw [hx49, v6, Int64.sub_self, hv83, if_neg nlb]
      have k4 : y38 = v90 := by
        rw [v5, hv90, if_pos hC, if_pos up]
      have k5 : x54 = v106 := by
        rw [hx54, v8, hv106, if_neg (fun q => nlb q.2.1)]; rfl
      have k6 : x212 = v203 := by
        rw [hx212, hv203, hv73, hv184, hv189, v1, v2, v4, if_neg nlb, if_pos up, if_pos up]; exact own_ifc ⟨fun q => q.2, fun q => ⟨by decide, q⟩⟩ rfl rfl
      rw [hv218]
      exact if_pos ⟨⟨k0, k1, k2, k3, k4, k5⟩, k6⟩
  · have q26 : y26 = p0_0 := by
      rw [hy26, if_neg hC]
      by_cases h : (p0_1 = p0_0 ∧ (0 : Int32) < p0_2)
      · rw [if_pos h]; exact h.1
      · rw [if_neg h]
    have q29 : y29 = x2 := by rw [hy29, if_neg hC]
    have q30 : y30 = (9223372036854775807 : Int64) := by rw [hy30, if_neg hC]
    have gc : ¬ (¬ (y26 = p0_0) ∧ ¬ ((((x2 + x5) + x7) - y28) < (5000 : Int64))) := fun q => q.1 q26
    have nup : ¬ (((q0_5 &&& (65535 : Int64)) < (5000 : Int64) ∧ (p0_1 < p0_0 ∧ ¬ ((p0_1 = (-1 : Int32) ∧ ¬ ((0 : Int32) < p0_2))))) ∧ ¬ (((q0_5 &&& (65535 : Int64)) + x7) < (5000 : Int64))) := fun q => hC q.1
    have nlb : ¬ (((q0_5 &&& (65535 : Int64)) < (5000 : Int64) ∧ (p0_1 < p0_0 ∧ ¬ ((p0_1 = (-1 : Int32) ∧ ¬ ((0 : Int32) < p0_2))))) ∧ ¬ ((((q0_5 &&& (65535 : Int64)) < (5000 : Int64) ∧ (p0_1 < p0_0 ∧ ¬ ((p0_1 = (-1 : Int32) ∧ ¬ ((0 : Int32) < p0_2))))) ∧ ¬ (((q0_5 &&& (65535 : Int64)) + x7) < (5000 : Int64))))) := fun q => hC q.1
    have v1 : y34 = p0_0 := by rw [hy34, if_neg gc, q26]
    have v2 : y35 = (-1 : Int32) := by rw [hy35, if_neg gc]
    have v3 : y36 = p0_3 := by rw [hy36, if_neg gc, if_pos q26]
    have v4 : y37 = (0 : Int32) := by rw [hy37, if_neg gc]
    have v5 : y38 = x2 := by rw [hy38, if_neg gc, q29]
    have v6 : y39 = ((x2 + x5) + x7) := by rw [hy39, if_neg gc, if_pos q26]
    have v7 : y40 = (9223372036854775807 : Int64) := by rw [hy40, q30, if_pos t3]
    have v8 : y41 = (0 : Int32) := by rw [hy41, if_neg gc, if_pos q26, q30, if_pos t3]
    have k0 : x42 = v61 := by
      rw [hx42, hv61, if_neg gc, if_neg nup]
    have k1 : y34 = v73 := by
      rw [v1, hv73, if_neg nlb]
    have k2 : y36 = v78 := by
      rw [v3, hv78, if_neg nlb]
    have k3 : x49 = v83 := by
      rw [hx49, v6, Int64.sub_self, hv83, if_neg nlb]
    have k4 : y38 = v90 := by
      rw [v5, hv90, if_neg hC]
    have k5 : x54 = v106 := by
      rw [hx54, v8, hv106, if_neg (fun q => nlb q.2.1)]; rfl
    have k6 : x212 = v203 := by
      rw [hx212, hv203, hv73, hv184, hv189, v1, v2, v4, if_neg nlb, if_neg nup, if_neg nup]; exact own_ifc ⟨fun q => q.2, fun q => ⟨by decide, q⟩⟩ rfl rfl
    rw [hv218]
    exact if_pos ⟨⟨k0, k1, k2, k3, k4, k5⟩, k6⟩
theorem pn_0 : plainName "com/example/halozat/halozat/node/LeaderHeartbeatPinLaw" = true := by first | (simp [plainName, overriddenIn]; done) | decide +kernel
theorem ef_rm0 (m : MethodId) (y0 : Int32) (y1 : Int32) (y2 : Int32) (y3 : Int32) (y4 : Int64) (y5 : Int64) : entryFrame m #[(.int y0), (.int y1), (.int y2), (.int y3), (.long y4), (.long y5)] maxLocals = mkF m 0 #[.val (.int y0), .val (.int y1), .val (.int y2), .val (.int y3), .val (.long y4), .second, .val (.long y5), .second, .unset, .unset, .unset, .unset, .unset, .unset, .unset, .unset, .unset, .unset, .unset, .unset, .unset, .unset, .unset, .unset, .unset, .unset, .unset, .unset, .unset, .unset, .unset, .unset, .unset, .unset, .unset, .unset, .unset, .unset, .unset, .unset, .unset, .unset, .unset, .unset, .unset, .unset, .unset, .unset, .unset, .unset, .unset, .unset, .unset, .unset, .unset, .unset] [] := by first | (simp [entryFrame, mkF, argsToLocals, Value.category, maxLocals]; done) | rfl
def Q_rm0 (Z : State) (p0_0 : Int32) (p0_1 : Int32) (p0_2 : Int32) (p0_3 : Int32) (q0_4 : Int64) (q0_5 : Int64) (h0 : Heap) (n0 : Nat) (v : Option Value) (h : Heap) (L : List Loc) : Prop := v = some (.int (1 : Int32)) ∧ Fr n0 L
set_option maxRecDepth 65536 in
set_option maxHeartbeats 40000000 in
theorem rm0 (l : Launch) (Z : State) (a0 : Array Value) (hw : ∀ d ∈ tables_1, d.before a0 Z = true) (ws : List Jvm.Cond) (p0_0 : Int32) (p0_1 : Int32) (p0_2 : Int32) (p0_3 : Int32) (q0_4 : Int64) (q0_5 : Int64) (h0 : Heap) (n0 : Nat) (Z0 : n0 ≤ h0.size) :
    MetFree l x (head1 (Jvm.Cond.code x code maxLocals ret :: ws) room_1) (fun a U => a = #[(.int p0_0), (.int p0_1), (.int p0_2), (.int p0_3), (.long q0_4), (.long q0_5)] ∧ Z.Warmed39 U.vm ∧ U.heap = h0) (fun _ _ _ _ _ => True) (fun _ U o U' => ∃ v L, o = .returned v ∧ Q_rm0 Z p0_0 p0_1 p0_2 p0_3 q0_4 q0_5 h0 n0 v U'.heap L ∧ FrameEnd U o U' L 16 128) := by
  refine MetFree.of_bodySF (plainFor_of_name pn_0) hisR ?_
  intro p e s m args below meth c s₁ Bd hml0 hP hK
  obtain ⟨rfl, hZ, hh⟩ := hP
  have hx := Bd.exec
  have hby := Bd.bytes
  have hml : c.maxLocals = 56 := hml0
  have hown : s.vm.findClass "com/example/halozat/halozat/node/LeaderHeartbeatPinLaw" = some m.cls := findClass_of_methodNamed Bd.named
  have hnm := (name_of_methodNamed Bd.named Bd.method).1
  have X0 : Stand p l e room_1 s m #[(.int p0_0), (.int p0_1), (.int p0_2), (.int p0_3), (.long q0_4), (.long q0_5)] below meth c s₁ [] 0 0 := Stand.of_body Bd
  have e0 : s₁.heap = h0 := by rw [← hh, Bd.state]; rfl
  have N0 := Fr.nil n0
  have pre0 : ∀ t, Steps p.tables e below (s₁.setTop (mkF m 0 #[.val (.int p0_0), .val (.int p0_1), .val (.int p0_2), .val (.int p0_3), .val (.long q0_4), .second, .val (.long q0_5), .second, .unset, .unset, .unset, .unset, .unset, .unset, .unset, .unset, .unset, .unset, .unset, .unset, .unset, .unset, .unset, .unset, .unset, .unset, .unset, .unset, .unset, .unset, .unset, .unset, .unset, .unset, .unset, .unset, .unset, .unset, .unset, .unset, .unset, .unset, .unset, .unset, .unset, .unset, .unset, .unset, .unset, .unset, .unset, .unset, .unset, .unset, .unset, .unset] [])) t → Steps p.tables e below (s₁.setTop (entryFrame m #[(.int p0_0), (.int p0_1), (.int p0_2), (.int p0_3), (.long q0_4), (.long q0_5)] maxLocals)) t := fun t k => castTop (ef_rm0 m p0_0 p0_1 p0_2 p0_3 q0_4 q0_5) k
  let A1 : Array Slot := #[.val (.int p0_0), .val (.int p0_1), .val (.int p0_2), .val (.int p0_3), .val (.long q0_4), .second, .val (.long q0_5), .second, .unset, .unset, .unset, .unset, .unset, .unset, .unset, .unset, .unset, .unset, .unset, .unset, .unset, .unset, .unset, .unset, .unset, .unset, .unset, .unset, .unset, .unset, .unset, .unset, .unset, .unset, .unset, .unset, .unset, .unset, .unset, .unset, .unset, .unset, .unset, .unset, .unset, .unset, .unset, .unset, .unset, .unset, .unset, .unset, .unset, .unset, .unset, .unset]
  obtain ⟨x2, hx2⟩ : ∃ z : Int64, z = (q0_4 >>> ((2 : Int32) &&& 0x3f).toInt64) := ⟨_, rfl⟩
  let A3 : Array Slot := #[.val (.int p0_0), .val (.int p0_1), .val (.int p0_2), .val (.int p0_3), .val (.long q0_4), .second, .val (.long q0_5), .second, .val (.long x2), .second, .unset, .unset, .unset, .unset, .unset, .unset, .unset, .unset, .unset, .unset, .unset, .unset, .unset, .unset, .unset, .unset, .unset, .unset, .unset, .unset, .unset, .unset, .unset, .unset, .unset, .unset, .unset, .unset, .unset, .unset, .unset, .unset, .unset, .unset, .unset, .unset, .unset, .unset, .unset, .unset, .unset, .unset, .unset, .unset, .unset, .unset]
  let A4 : Array Slot := #[.val (.int p0_0), .val (.int p0_1), .val (.int p0_2), .val (.int p0_3), .val (.long q0_4), .second, .val (.long q0_5), .second, .val (.long x2), .second, .val (.long (q0_5 &&& (65535 : Int64))), .second, .unset, .unset, .unset, .unset, .unset, .unset, .unset, .unset, .unset, .unset, .unset, .unset, .unset, .unset, .unset, .unset, .unset, .unset, .unset, .unset, .unset, .unset, .unset, .unset, .unset, .unset, .unset, .unset, .unset, .unset, .unset, .unset, .unset, .unset, .unset, .unset, .unset, .unset, .unset, .unset, .unset, .unset, .unset, .unset]
  obtain ⟨x5, hx5⟩ : ∃ z : Int64, z = (((q0_5.toUInt64 >>> ((16 : Int32) &&& 0x3f).toInt64.toUInt64).toInt64) &&& (65535 : Int64)) := ⟨_, rfl⟩
  let A6 : Array Slot := #[.val (.int p0_0), .val (.int p0_1), .val (.int p0_2), .val (.int p0_3), .val (.long q0_4), .second, .val (.long q0_5), .second, .val (.long x2), .second, .val (.long (q0_5 &&& (65535 : Int64))), .second, .val (.long x5), .second, .unset, .unset, .unset, .unset, .unset, .unset, .unset, .unset, .unset, .unset, .unset, .unset, .unset, .unset, .unset, .unset, .unset, .unset, .unset, .unset, .unset, .unset, .unset, .unset, .unset, .unset, .unset, .unset, .unset, .unset, .unset, .unset, .unset, .unset, .unset, .unset, .unset, .unset, .unset, .unset, .unset, .unset]
  obtain ⟨x7, hx7⟩ : ∃ z : Int64, z = (((q0_5.toUInt64 >>> ((32 : Int32) &&& 0x3f).toInt64.toUInt64).toInt64) &&& (65535 : Int64)) := ⟨_, rfl⟩
  let A8 : Array Slot := #[.val (.int p0_0), .val (.int p0_1), .val (.int p0_2), .val (.int p0_3), .val (.long q0_4), .second, .val (.long q0_5), .second, .val (.long x2), .second, .val (.long (q0_5 &&& (65535 : Int64))), .second, .val (.long x5), .second, .val (.long x7), .second, .unset, .unset, .unset, .unset, .unset, .unset, .unset, .unset, .unset, .unset, .unset, .unset, .unset, .unset, .unset, .unset, .unset, .unset, .unset, .unset, .unset, .unset, .unset, .unset, .unset, .unset, .unset, .unset, .unset, .unset, .unset, .unset, .unset, .unset, .unset, .unset, .unset, .unset, .unset, .unset]
  obtain ⟨x9, hx9⟩ : ∃ z : Int64, z = (((q0_5.toUInt64 >>> ((48 : Int32) &&& 0x3f).toInt64.toUInt64).toInt64) &&& (4095 : Int64)) := ⟨_, rfl⟩
  let A10 : Array Slot := #[.val (.int p0_0), .val (.int p0_1), .val (.int p0_2), .val (.int p0_3), .val (.long q0_4), .second, .val (.long q0_5), .second, .val (.long x2), .second, .val (.long (q0_5 &&& (65535 : Int64))), .second, .val (.long x5), .second, .val (.long x7), .second, .val (.long x9), .second, .unset, .unset, .unset, .unset, .unset, .unset, .unset, .unset, .unset, .unset, .unset, .unset, .unset, .unset, .unset, .unset, .unset, .unset, .unset, .unset, .unset, .unset, .unset, .unset, .unset, .unset, .unset, .unset, .unset, .unset, .unset, .unset, .unset, .unset, .unset, .unset, .unset, .unset]
  obtain ⟨x11, hx11⟩ : ∃ z : Int32, z = ((((q0_5.toUInt64 >>> ((60 : Int32) &&& 0x3f).toInt64.toUInt64).toInt64) &&& (3 : Int64)).toInt32) := ⟨_, rfl⟩
  let A12 : Array Slot := #[.val (.int p0_0), .val (.int p0_1), .val (.int p0_2), .val (.int p0_3), .val (.long q0_4), .second, .val (.long q0_5), .second, .val (.long x2), .second, .val (.long (q0_5 &&& (65535 : Int64))), .second, .val (.long x5), .second, .val (.long x7), .second, .val (.long x9), .second, .val (.int x11), .unset, .unset, .unset, .unset, .unset, .unset, .unset, .unset, .unset, .unset, .unset, .unset, .unset, .unset, .unset, .unset, .unset, .unset, .unset, .unset, .unset, .unset, .unset, .unset, .unset, .unset, .unset, .unset, .unset, .unset, .unset, .unset, .unset, .unset, .unset, .unset, .unset]
  have G13 : ∀ t, Steps p.tables e below (s₁.setTop (mkF m 68 A12 [(.int (lcmpW (((q0_5.toUInt64 >>> ((62 : Int32) &&& 0x3f).toInt64.toUInt64).toInt64) &&& (1 : Int64)) (0 : Int64)))])) t → Steps p.tables e below (s₁.setTop (mkF m 0 A1 [])) t := by
    intro t k
    show Steps p.tables e below (s₁.setTop (mkF m 0 A1 [])) _
    refine XS.lload X0.here hx rfl (hb hby at_0) rfl ?_
    show Steps p.tables e below (s₁.setTop (mkF m 2 A1 [(.long q0_4)])) _
    refine XS.iconst X0.here hx rfl (hb hby at_2) ?_
    show Steps p.tables e below (s₁.setTop (mkF m 3 A1 [(.int (2 : Int32)), (.long q0_4)])) _
    refine XS.lshr X0.here hx rfl (hb hby at_3) rfl ?_
    show Steps p.tables e below (s₁.setTop (mkF m 4 A1 [(.long (q0_4 >>> ((2 : Int32) &&& 0x3f).toInt64))])) _
    refine XS.lstore X0.here hx rfl (hb hby at_4) rfl (l' := #[.val (.int p0_0), .val (.int p0_1), .val (.int p0_2), .val (.int p0_3), .val (.long q0_4), .second, .val (.long q0_5), .second, .val (.long (q0_4 >>> ((2 : Int32) &&& 0x3f).toInt64)), .second, .unset, .unset, .unset, .unset, .unset, .unset, .unset, .unset, .unset, .unset, .unset, .unset, .unset, .unset, .unset, .unset, .unset, .unset, .unset, .unset, .unset, .unset, .unset, .unset, .unset, .unset, .unset, .unset, .unset, .unset, .unset, .unset, .unset, .unset, .unset, .unset, .unset, .unset, .unset, .unset, .unset, .unset, .unset, .unset, .unset, .unset]) rfl ?_
    show Steps p.tables e below (s₁.setTop (mkF m 6 #[.val (.int p0_0), .val (.int p0_1), .val (.int p0_2), .val (.int p0_3), .val (.long q0_4), .second, .val (.long q0_5), .second, .val (.long (q0_4 >>> ((2 : Int32) &&& 0x3f).toInt64)), .second, .unset, .unset, .unset, .unset, .unset, .unset, .unset, .unset, .unset, .unset, .unset, .unset, .unset, .unset, .unset, .unset, .unset, .unset, .unset, .unset, .unset, .unset, .unset, .unset, .unset, .unset, .unset, .unset, .unset, .unset, .unset, .unset, .unset, .unset, .unset, .unset, .unset, .unset, .unset, .unset, .unset, .unset, .unset, .unset, .unset, .unset] [])) _
    rw [← hx2]
    show Steps p.tables e below (s₁.setTop (mkF m 6 A3 [])) _
    refine XS.lload X0.here hx rfl (hb hby at_6) rfl ?_
    show Steps p.tables e below (s₁.setTop (mkF m 8 A3 [(.long q0_5)])) _
    refine X0.ldc2Long hx hown (mvT hZ (ow0 hw)) (g := (mkF m 8 A3 [(.long q0_5)])) rfl (hb hby at_8) _ ?_
    show Steps p.tables e below (s₁.setTop (mkF m 11 A3 [(.long (65535 : Int64)), (.long q0_5)])) _
    refine XS.land X0.here hx rfl (hb hby at_11) rfl ?_
    show Steps p.tables e below (s₁.setTop (mkF m 12 A3 [(.long (q0_5 &&& (65535 : Int64)))])) _
    refine XS.lstore X0.here hx rfl (hb hby at_12) rfl (l' := A4) rfl ?_
    show Steps p.tables e below (s₁.setTop (mkF m 14 A4 [])) _
    refine XS.lload X0.here hx rfl (hb hby at_14) rfl ?_
    show Steps p.tables e below (s₁.setTop (mkF m 16 A4 [(.long q0_5)])) _
    refine XS.bipush X0.here hx rfl (hb hby at_16) ?_
    show Steps p.tables e below (s₁.setTop (mkF m 18 A4 [(.int (16 : Int32)), (.long q0_5)])) _
    refine XS.lushr X0.here hx rfl (hb hby at_18) rfl ?_
    show Steps p.tables e below (s₁.setTop (mkF m 19 A4 [(.long ((q0_5.toUInt64 >>> ((16 : Int32) &&& 0x3f).toInt64.toUInt64).toInt64))])) _
    refine X0.ldc2Long hx hown (mvT hZ (ow0 hw)) (g := (mkF m 19 A4 [(.long ((q0_5.toUInt64 >>> ((16 : Int32) &&& 0x3f).toInt64.toUInt64).toInt64))])) rfl (hb hby at_19) _ ?_
    show Steps p.tables e below (s₁.setTop (mkF m 22 A4 [(.long (65535 : Int64)), (.long ((q0_5.toUInt64 >>> ((16 : Int32) &&& 0x3f).toInt64.toUInt64).toInt64))])) _
    refine XS.land X0.here hx rfl (hb hby at_22) rfl ?_
    show Steps p.tables e below (s₁.setTop (mkF m 23 A4 [(.long (((q0_5.toUInt64 >>> ((16 : Int32) &&& 0x3f).toInt64.toUInt64).toInt64) &&& (65535 : Int64)))])) _
    refine XS.lstore X0.here hx rfl (hb hby at_23) rfl (l' := #[.val (.int p0_0), .val (.int p0_1), .val (.int p0_2), .val (.int p0_3), .val (.long q0_4), .second, .val (.long q0_5), .second, .val (.long x2), .second, .val (.long (q0_5 &&& (65535 : Int64))), .second, .val (.long (((q0_5.toUInt64 >>> ((16 : Int32) &&& 0x3f).toInt64.toUInt64).toInt64) &&& (65535 : Int64))), .second, .unset, .unset, .unset, .unset, .unset, .unset, .unset, .unset, .unset, .unset, .unset, .unset, .unset, .unset, .unset, .unset, .unset, .unset, .unset, .unset, .unset, .unset, .unset, .unset, .unset, .unset, .unset, .unset, .unset, .unset, .unset, .unset, .unset, .unset, .unset, .unset, .unset, .unset, .unset, .unset, .unset, .unset]) rfl ?_
    show Steps p.tables e below (s₁.setTop (mkF m 25 #[.val (.int p0_0), .val (.int p0_1), .val (.int p0_2), .val (.int p0_3), .val (.long q0_4), .second, .val (.long q0_5), .second, .val (.long x2), .second, .val (.long (q0_5 &&& (65535 : Int64))), .second, .val (.long (((q0_5.toUInt64 >>> ((16 : Int32) &&& 0x3f).toInt64.toUInt64).toInt64) &&& (65535 : Int64))), .second, .unset, .unset, .unset, .unset, .unset, .unset, .unset, .unset, .unset, .unset, .unset, .unset, .unset, .unset, .unset, .unset, .unset, .unset, .unset, .unset, .unset, .unset, .unset, .unset, .unset, .unset, .unset, .unset, .unset, .unset, .unset, .unset, .unset, .unset, .unset, .unset, .unset, .unset, .unset, .unset, .unset, .unset] [])) _
    rw [← hx5]
    show Steps p.tables e below (s₁.setTop (mkF m 25 A6 [])) _
    refine XS.lload X0.here hx rfl (hb hby at_25) rfl ?_
    show Steps p.tables e below (s₁.setTop (mkF m 27 A6 [(.long q0_5)])) _
    refine XS.bipush X0.here hx rfl (hb hby at_27) ?_
    show Steps p.tables e below (s₁.setTop (mkF m 29 A6 [(.int (32 : Int32)), (.long q0_5)])) _
    refine XS.lushr X0.here hx rfl (hb hby at_29) rfl ?_
    show Steps p.tables e below (s₁.setTop (mkF m 30 A6 [(.long ((q0_5.toUInt64 >>> ((32 : Int32) &&& 0x3f).toInt64.toUInt64).toInt64))])) _
    refine X0.ldc2Long hx hown (mvT hZ (ow0 hw)) (g := (mkF m 30 A6 [(.long ((q0_5.toUInt64 >>> ((32 : Int32) &&& 0x3f).toInt64.toUInt64).toInt64))])) rfl (hb hby at_30) _ ?_
    show Steps p.tables e below (s₁.setTop (mkF m 33 A6 [(.long (65535 : Int64)), (.long ((q0_5.toUInt64 >>> ((32 : Int32) &&& 0x3f).toInt64.toUInt64).toInt64))])) _
    refine XS.land X0.here hx rfl (hb hby at_33) rfl ?_
    show Steps p.tables e below (s₁.setTop (mkF m 34 A6 [(.long (((q0_5.toUInt64 >>> ((32 : Int32) &&& 0x3f).toInt64.toUInt64).toInt64) &&& (65535 : Int64)))])) _
    refine XS.lstore X0.here hx rfl (hb hby at_34) rfl (l' := #[.val (.int p0_0), .val (.int p0_1), .val (.int p0_2), .val (.int p0_3), .val (.long q0_4), .second, .val (.long q0_5), .second, .val (.long x2), .second, .val (.long (q0_5 &&& (65535 : Int64))), .second, .val (.long x5), .second, .val (.long (((q0_5.toUInt64 >>> ((32 : Int32) &&& 0x3f).toInt64.toUInt64).toInt64) &&& (65535 : Int64))), .second, .unset, .unset, .unset, .unset, .unset, .unset, .unset, .unset, .unset, .unset, .unset, .unset, .unset, .unset, .unset, .unset, .unset, .unset, .unset, .unset, .unset, .unset, .unset, .unset, .unset, .unset, .unset, .unset, .unset, .unset, .unset, .unset, .unset, .unset, .unset, .unset, .unset, .unset, .unset, .unset]) rfl ?_
    show Steps p.tables e below (s₁.setTop (mkF m 36 #[.val (.int p0_0), .val (.int p0_1), .val (.int p0_2), .val (.int p0_3), .val (.long q0_4), .second, .val (.long q0_5), .second, .val (.long x2), .second, .val (.long (q0_5 &&& (65535 : Int64))), .second, .val (.long x5), .second, .val (.long (((q0_5.toUInt64 >>> ((32 : Int32) &&& 0x3f).toInt64.toUInt64).toInt64) &&& (65535 : Int64))), .second, .unset, .unset, .unset, .unset, .unset, .unset, .unset, .unset, .unset, .unset, .unset, .unset, .unset, .unset, .unset, .unset, .unset, .unset, .unset, .unset, .unset, .unset, .unset, .unset, .unset, .unset, .unset, .unset, .unset, .unset, .unset, .unset, .unset, .unset, .unset, .unset, .unset, .unset, .unset, .unset] [])) _
    rw [← hx7]
    show Steps p.tables e below (s₁.setTop (mkF m 36 A8 [])) _
    refine XS.lload X0.here hx rfl (hb hby at_36) rfl ?_
    show Steps p.tables e below (s₁.setTop (mkF m 38 A8 [(.long q0_5)])) _
    refine XS.bipush X0.here hx rfl (hb hby at_38) ?_
    show Steps p.tables e below (s₁.setTop (mkF m 40 A8 [(.int (48 : Int32)), (.long q0_5)])) _
    refine XS.lushr X0.here hx rfl (hb hby at_40) rfl ?_
    show Steps p.tables e below (s₁.setTop (mkF m 41 A8 [(.long ((q0_5.toUInt64 >>> ((48 : Int32) &&& 0x3f).toInt64.toUInt64).toInt64))])) _
    refine X0.ldc2Long hx hown (mvT hZ (ow1 hw)) (g := (mkF m 41 A8 [(.long ((q0_5.toUInt64 >>> ((48 : Int32) &&& 0x3f).toInt64.toUInt64).toInt64))])) rfl (hb hby at_41) _ ?_
    show Steps p.tables e below (s₁.setTop (mkF m 44 A8 [(.long (4095 : Int64)), (.long ((q0_5.toUInt64 >>> ((48 : Int32) &&& 0x3f).toInt64.toUInt64).toInt64))])) _
    refine XS.land X0.here hx rfl (hb hby at_44) rfl ?_
    show Steps p.tables e below (s₁.setTop (mkF m 45 A8 [(.long (((q0_5.toUInt64 >>> ((48 : Int32) &&& 0x3f).toInt64.toUInt64).toInt64) &&& (4095 : Int64)))])) _
    refine XS.lstore X0.here hx rfl (hb hby at_45) rfl (l' := #[.val (.int p0_0), .val (.int p0_1), .val (.int p0_2), .val (.int p0_3), .val (.long q0_4), .second, .val (.long q0_5), .second, .val (.long x2), .second, .val (.long (q0_5 &&& (65535 : Int64))), .second, .val (.long x5), .second, .val (.long x7), .second, .val (.long (((q0_5.toUInt64 >>> ((48 : Int32) &&& 0x3f).toInt64.toUInt64).toInt64) &&& (4095 : Int64))), .second, .unset, .unset, .unset, .unset, .unset, .unset, .unset, .unset, .unset, .unset, .unset, .unset, .unset, .unset, .unset, .unset, .unset, .unset, .unset, .unset, .unset, .unset, .unset, .unset, .unset, .unset, .unset, .unset, .unset, .unset, .unset, .unset, .unset, .unset, .unset, .unset, .unset, .unset]) rfl ?_
    show Steps p.tables e below (s₁.setTop (mkF m 47 #[.val (.int p0_0), .val (.int p0_1), .val (.int p0_2), .val (.int p0_3), .val (.long q0_4), .second, .val (.long q0_5), .second, .val (.long x2), .second, .val (.long (q0_5 &&& (65535 : Int64))), .second, .val (.long x5), .second, .val (.long x7), .second, .val (.long (((q0_5.toUInt64 >>> ((48 : Int32) &&& 0x3f).toInt64.toUInt64).toInt64) &&& (4095 : Int64))), .second, .unset, .unset, .unset, .unset, .unset, .unset, .unset, .unset, .unset, .unset, .unset, .unset, .unset, .unset, .unset, .unset, .unset, .unset, .unset, .unset, .unset, .unset, .unset, .unset, .unset, .unset, .unset, .unset, .unset, .unset, .unset, .unset, .unset, .unset, .unset, .unset, .unset, .unset] [])) _
    rw [← hx9]
    show Steps p.tables e below (s₁.setTop (mkF m 47 A10 [])) _
    refine XS.lload X0.here hx rfl (hb hby at_47) rfl ?_
    show Steps p.tables e below (s₁.setTop (mkF m 49 A10 [(.long q0_5)])) _
    refine XS.bipush X0.here hx rfl (hb hby at_49) ?_
    show Steps p.tables e below (s₁.setTop (mkF m 51 A10 [(.int (60 : Int32)), (.long q0_5)])) _
    refine XS.lushr X0.here hx rfl (hb hby at_51) rfl ?_
    show Steps p.tables e below (s₁.setTop (mkF m 52 A10 [(.long ((q0_5.toUInt64 >>> ((60 : Int32) &&& 0x3f).toInt64.toUInt64).toInt64))])) _
    refine X0.ldc2Long hx hown (mvT hZ (ow2 hw)) (g := (mkF m 52 A10 [(.long ((q0_5.toUInt64 >>> ((60 : Int32) &&& 0x3f).toInt64.toUInt64).toInt64))])) rfl (hb hby at_52) _ ?_
    show Steps p.tables e below (s₁.setTop (mkF m 55 A10 [(.long (3 : Int64)), (.long ((q0_5.toUInt64 >>> ((60 : Int32) &&& 0x3f).toInt64.toUInt64).toInt64))])) _
    refine XS.land X0.here hx rfl (hb hby at_55) rfl ?_
    show Steps p.tables e below (s₁.setTop (mkF m 56 A10 [(.long (((q0_5.toUInt64 >>> ((60 : Int32) &&& 0x3f).toInt64.toUInt64).toInt64) &&& (3 : Int64)))])) _
    refine XS.l2i X0.here hx rfl (hb hby at_56) rfl ?_
    show Steps p.tables e below (s₁.setTop (mkF m 57 A10 [(.int ((((q0_5.toUInt64 >>> ((60 : Int32) &&& 0x3f).toInt64.toUInt64).toInt64) &&& (3 : Int64)).toInt32))])) _
    refine XS.istore X0.here hx rfl (hb hby at_57) rfl (l' := #[.val (.int p0_0), .val (.int p0_1), .val (.int p0_2), .val (.int p0_3), .val (.long q0_4), .second, .val (.long q0_5), .second, .val (.long x2), .second, .val (.long (q0_5 &&& (65535 : Int64))), .second, .val (.long x5), .second, .val (.long x7), .second, .val (.long x9), .second, .val (.int ((((q0_5.toUInt64 >>> ((60 : Int32) &&& 0x3f).toInt64.toUInt64).toInt64) &&& (3 : Int64)).toInt32)), .unset, .unset, .unset, .unset, .unset, .unset, .unset, .unset, .unset, .unset, .unset, .unset, .unset, .unset, .unset, .unset, .unset, .unset, .unset, .unset, .unset, .unset, .unset, .unset, .unset, .unset, .unset, .unset, .unset, .unset, .unset, .unset, .unset, .unset, .unset, .unset, .unset]) rfl ?_
    show Steps p.tables e below (s₁.setTop (mkF m 59 #[.val (.int p0_0), .val (.int p0_1), .val (.int p0_2), .val (.int p0_3), .val (.long q0_4), .second, .val (.long q0_5), .second, .val (.long x2), .second, .val (.long (q0_5 &&& (65535 : Int64))), .second, .val (.long x5), .second, .val (.long x7), .second, .val (.long x9), .second, .val (.int ((((q0_5.toUInt64 >>> ((60 : Int32) &&& 0x3f).toInt64.toUInt64).toInt64) &&& (3 : Int64)).toInt32)), .unset, .unset, .unset, .unset, .unset, .unset, .unset, .unset, .unset, .unset, .unset, .unset, .unset, .unset, .unset, .unset, .unset, .unset, .unset, .unset, .unset, .unset, .unset, .unset, .unset, .unset, .unset, .unset, .unset, .unset, .unset, .unset, .unset, .unset, .unset, .unset, .unset] [])) _
    rw [← hx11]
    show Steps p.tables e below (s₁.setTop (mkF m 59 A12 [])) _
    refine XS.lload X0.here hx rfl (hb hby at_59) rfl ?_
    show Steps p.tables e below (s₁.setTop (mkF m 61 A12 [(.long q0_5)])) _
    refine XS.bipush X0.here hx rfl (hb hby at_61) ?_
    show Steps p.tables e below (s₁.setTop (mkF m 63 A12 [(.int (62 : Int32)), (.long q0_5)])) _
    refine XS.lushr X0.here hx rfl (hb hby at_63) rfl ?_
    show Steps p.tables e below (s₁.setTop (mkF m 64 A12 [(.long ((q0_5.toUInt64 >>> ((62 : Int32) &&& 0x3f).toInt64.toUInt64).toInt64))])) _
    refine XS.lconst X0.here hx rfl (hb hby at_64) ?_
    show Steps p.tables e below (s₁.setTop (mkF m 65 A12 [(.long (1 : Int64)), (.long ((q0_5.toUInt64 >>> ((62 : Int32) &&& 0x3f).toInt64.toUInt64).toInt64))])) _
    refine XS.land X0.here hx rfl (hb hby at_65) rfl ?_
    show Steps p.tables e below (s₁.setTop (mkF m 66 A12 [(.long (((q0_5.toUInt64 >>> ((62 : Int32) &&& 0x3f).toInt64.toUInt64).toInt64) &&& (1 : Int64)))])) _
    refine XS.lconst X0.here hx rfl (hb hby at_66) ?_
    show Steps p.tables e below (s₁.setTop (mkF m 67 A12 [(.long (0 : Int64)), (.long (((q0_5.toUInt64 >>> ((62 : Int32) &&& 0x3f).toInt64.toUInt64).toInt64) &&& (1 : Int64)))])) _
    refine XS.lcmp X0.here hx rfl (hb hby at_67) rfl ?_
    exact k
  obtain ⟨v15, hv15⟩ : ∃ z : Int32, z = (if (((q0_5.toUInt64 >>> ((62 : Int32) &&& 0x3f).toInt64.toUInt64).toInt64) &&& (1 : Int64)) = (0 : Int64) then (1 : Int32) else (0 : Int32)) := ⟨_, rfl⟩
  obtain ⟨T16, Lo16, X16, N16, e16, G16⟩ := own_join X0 N0 (h := h0) (mkF m 68 A12 [(.int (lcmpW (((q0_5.toUInt64 >>> ((62 : Int32) &&& 0x3f).toInt64.toUInt64).toInt64) &&& (1 : Int64)) (0 : Int64)))]) (mkF m 76 A12 [(.int v15)]) (by
    by_cases h68_14 : (((q0_5.toUInt64 >>> ((62 : Int32) &&& 0x3f).toInt64.toUInt64).toInt64) &&& (1 : Int64)) = (0 : Int64)
    · refine ⟨s₁, _, X0, N0, e0, fun t k => ?_⟩
      rw [show v15 = (1 : Int32) from hv15.trans (if_pos h68_14)] at k
      show Steps p.tables e below (s₁.setTop (mkF m 68 A12 [(.int (lcmpW (((q0_5.toUInt64 >>> ((62 : Int32) &&& 0x3f).toInt64.toUInt64).toInt64) &&& (1 : Int64)) (0 : Int64)))])) _
      refine XS.ifNo X0.here hx rfl (hb hby at_68) rfl ((if0 _ _).trans (teq ((lw_eq _ _).mpr h68_14)).2) ?_
      show Steps p.tables e below (s₁.setTop (mkF m 71 A12 [])) _
      refine XS.iconst X0.here hx rfl (hb hby at_71) ?_
      show Steps p.tables e below (s₁.setTop (mkF m 72 A12 [(.int (1 : Int32))])) _
      refine XS.goto X0.here hx rfl (pc0 := 72) (pc' := 76) rfl (hb hby at_72) (by decide) (by decide) ?_
      exact k
    · refine ⟨s₁, _, X0, N0, e0, fun t k => ?_⟩
      rw [show v15 = (0 : Int32) from hv15.trans (if_neg h68_14)] at k
      show Steps p.tables e below (s₁.setTop (mkF m 68 A12 [(.int (lcmpW (((q0_5.toUInt64 >>> ((62 : Int32) &&& 0x3f).toInt64.toUInt64).toInt64) &&& (1 : Int64)) (0 : Int64)))])) _
      refine XS.ifYes X0.here hx rfl (pc0 := 68) (pc' := 75) rfl (hb hby at_68) rfl ((if0 _ _).trans (feq (fun q => h68_14 ((lw_eq _ _).mp q))).2) (by decide) (by decide) ?_
      show Steps p.tables e below (s₁.setTop (mkF m 75 A12 [])) _
      refine XS.iconst X0.here hx rfl (hb hby at_75) ?_
      exact k)
  let A17 : Array Slot := #[.val (.int p0_0), .val (.int p0_1), .val (.int p0_2), .val (.int p0_3), .val (.long q0_4), .second, .val (.long q0_5), .second, .val (.long x2), .second, .val (.long (q0_5 &&& (65535 : Int64))), .second, .val (.long x5), .second, .val (.long x7), .second, .val (.long x9), .second, .val (.int x11), .val (.int v15), .unset, .unset, .unset, .unset, .unset, .unset, .unset, .unset, .unset, .unset, .unset, .unset, .unset, .unset, .unset, .unset, .unset, .unset, .unset, .unset, .unset, .unset, .unset, .unset, .unset, .unset, .unset, .unset, .unset, .unset, .unset, .unset, .unset, .unset, .unset, .unset]
  let A18 : Array Slot := #[.val (.int p0_0), .val (.int p0_1), .val (.int p0_2), .val (.int p0_3), .val (.long q0_4), .second, .val (.long q0_5), .second, .val (.long x2), .second, .val (.long (q0_5 &&& (65535 : Int64))), .second, .val (.long x5), .second, .val (.long x7), .second, .val (.long x9), .second, .val (.int x11), .val (.int v15), .val (.long (x2 + x5)), .second, .unset, .unset, .unset, .unset, .unset, .unset, .unset, .unset, .unset, .unset, .unset, .unset, .unset, .unset, .unset, .unset, .unset, .unset, .unset, .unset, .unset, .unset, .unset, .unset, .unset, .unset, .unset, .unset, .unset, .unset, .unset, .unset, .unset, .unset]
  let A19 : Array Slot := #[.val (.int p0_0), .val (.int p0_1), .val (.int p0_2), .val (.int p0_3), .val (.long q0_4), .second, .val (.long q0_5), .second, .val (.long x2), .second, .val (.long (q0_5 &&& (65535 : Int64))), .second, .val (.long x5), .second, .val (.long x7), .second, .val (.long x9), .second, .val (.int x11), .val (.int v15), .val (.long (x2 + x5)), .second, .val (.long ((x2 + x5) + x7)), .second, .unset, .unset, .unset, .unset, .unset, .unset, .unset, .unset, .unset, .unset, .unset, .unset, .unset, .unset, .unset, .unset, .unset, .unset, .unset, .unset, .unset, .unset, .unset, .unset, .unset, .unset, .unset, .unset, .unset, .unset, .unset, .unset]
  let A20 : Array Slot := #[.val (.int p0_0), .val (.int p0_1), .val (.int p0_2), .val (.int p0_3), .val (.long q0_4), .second, .val (.long q0_5), .second, .val (.long x2), .second, .val (.long (q0_5 &&& (65535 : Int64))), .second, .val (.long x5), .second, .val (.long x7), .second, .val (.long x9), .second, .val (.int x11), .val (.int v15), .val (.long (x2 + x5)), .second, .val (.long ((x2 + x5) + x7)), .second, .val (.long (((x2 + x5) + x7) + x9)), .second, .unset, .unset, .unset, .unset, .unset, .unset, .unset, .unset, .unset, .unset, .unset, .unset, .unset, .unset, .unset, .unset, .unset, .unset, .unset, .unset, .unset, .unset, .unset, .unset, .unset, .unset, .unset, .unset, .unset, .unset]
  let A21 : Array Slot := #[.val (.int p0_0), .val (.int p0_1), .val (.int p0_2), .val (.int p0_3), .val (.long q0_4), .second, .val (.long q0_5), .second, .val (.long x2), .second, .val (.long (q0_5 &&& (65535 : Int64))), .second, .val (.long x5), .second, .val (.long x7), .second, .val (.long x9), .second, .val (.int x11), .val (.int v15), .val (.long (x2 + x5)), .second, .val (.long ((x2 + x5) + x7)), .second, .val (.long (((x2 + x5) + x7) + x9)), .second, .val (.int ((p0_2 + x11) - (1 : Int32))), .unset, .unset, .unset, .unset, .unset, .unset, .unset, .unset, .unset, .unset, .unset, .unset, .unset, .unset, .unset, .unset, .unset, .unset, .unset, .unset, .unset, .unset, .unset, .unset, .unset, .unset, .unset, .unset, .unset]
  obtain ⟨T22, h22, X22, e22, E22, A22, D22, -, st22⟩ := newO X16 hx hZ hown (ow3 hw) (ow4 hw) (ow5 hw) e16 (g := (mkF m 107 A21 [])) rfl (hb hby at_107) (by decide) (by decide)
  obtain ⟨b22, g22⟩ : ∃ z, z = h0.size := ⟨_, rfl⟩
  rw [← g22] at A22 D22 st22
  have F_dropped_b22 : Fld Z h22 b22 "com/example/halozat/halozat/node/Leader" "dropped" "I" (.int (0 : Int32)) := D22 (Or.inl (ow13 hw)) (ty := .int) (by decide)
  have F_checkAt_b22 : Fld Z h22 b22 "com/example/halozat/halozat/node/Leader" "checkAt" "J" (.long (0 : Int64)) := D22 (Or.inl (ow16 hw)) (ty := .long) (by decide)
  have F_node_b22 : Fld Z h22 b22 "com/example/halozat/halozat/node/Leader" "node" "I" (.int (0 : Int32)) := D22 (Or.inl (ow18 hw)) (ty := .int) (by decide)
  have F_raisedAt_b22 : Fld Z h22 b22 "com/example/halozat/halozat/node/Leader" "raisedAt" "J" (.long (0 : Int64)) := D22 (Or.inl (ow20 hw)) (ty := .long) (by decide)
  have F_since_b22 : Fld Z h22 b22 "com/example/halozat/halozat/node/Leader" "since" "J" (.long (0 : Int64)) := D22 (Or.inl (ow22 hw)) (ty := .long) (by decide)
  have F_beat_b22 : Fld Z h22 b22 "com/example/halozat/halozat/node/Leader" "beat" "I" (.int (0 : Int32)) := D22 (Or.inl (ow35 hw)) (ty := .int) (by decide)
  have F_far_b22 : Fld Z h22 b22 "com/example/halozat/halozat/node/Leader" "far" "Z" (.int (0 : Int32)) := D22 (Or.inl (ow62 hw)) (ty := .boolean) (by decide)
  have F_droppedBeat_b22 : Fld Z h22 b22 "com/example/halozat/halozat/node/Leader" "droppedBeat" "I" (.int (0 : Int32)) := D22 (Or.inl (ow67 hw)) (ty := .int) (by decide)
  have g_b22 : n0 ≤ b22 := Nat.le_trans Z0 (Nat.le_of_eq g22.symm)
  have sz_b22 : h0.size ≤ b22 := Nat.le_trans (Nat.le_refl _) (Nat.le_of_eq g22.symm)
  have K22 : Keep h0 h22 [] := (Keep.refl h0 []).ext E22
  have Z22 : n0 ≤ h22.size := Nat.le_trans Z0 K22.1
  obtain ⟨_, _, ⟨T23, L23, k23, n23⟩, -, X23, ⟨Lc23, hQ23, l23, y23, z23⟩, st23⟩ := X22.specialBack hx (y := (⟨"com/example/halozat/halozat/node/Leader", "<init>", "(IJ)V"⟩ : MethodName)) rfl hown (mvT hZ (ow6 hw)) (mvT hZ (ow7 hw)) (mvT hZ (ow8 hw)) (by decide) (backOf (W := 1) (rm1 l Z a0 hw [] b22 p0_0 x2 (0 : Int32) (0 : Int64) (0 : Int32) (0 : Int64) (0 : Int64) (0 : Int32) (0 : Int32) (0 : Int32) h22 n0 Z22 A22 F_dropped_b22 g_b22 F_checkAt_b22 F_node_b22 F_raisedAt_b22 F_since_b22 F_beat_b22 F_far_b22 F_droppedBeat_b22) hZ (ow8 hw) (ow5 hw) (by decide) (by decide)) (g := (mkF m 114 A21 [(.long x2), (.int p0_0), (.ref b22), (.ref b22)])) rfl (by rw [hml]; rfl) (Steps.refl _) (a := b22) (argsL := [(.int p0_0), (.long x2)]) (rest := [(.ref b22)]) (lenOf pd__IJ_V rfl) rfl (by show 2 * 0 + _ ≤ _; exact Nat.le_of_eq rfl) (hb hby at_114) (fun _ _ => ⟨rfl, e22, (by decide : 1 + 0 ≤ _), (by decide : 8 + 0 ≤ _)⟩)
  dsimp only [Pt.U, Pt.locs, Pt.cells, Pt.slots] at X23 l23 y23 z23 st23 hQ23
  subst l23 y23 z23
  obtain ⟨rfl, Nq23, Kc23, P23_0, P23_1, P23_2, P23_3, P23_4, P23_5, P23_6, P23_7, P23_8⟩ := hQ23
  have K23 : Keep h0 T23.heap [] := Keep.trans K22 Kc23 (allS (P := fun x => x ∈ ([] : List Addr) ∨ h0.size ≤ x) (Or.inr sz_b22) all0)
  have Z23 : n0 ≤ T23.heap.size := Nat.le_trans Z0 K23.1
  have N23 := Fr.app N16 Nq23
  let A24 : Array Slot := #[.val (.int p0_0), .val (.int p0_1), .val (.int p0_2), .val (.int p0_3), .val (.long q0_4), .second, .val (.long q0_5), .second, .val (.long x2), .second, .val (.long (q0_5 &&& (65535 : Int64))), .second, .val (.long x5), .second, .val (.long x7), .second, .val (.long x9), .second, .val (.int x11), .val (.int v15), .val (.long (x2 + x5)), .second, .val (.long ((x2 + x5) + x7)), .second, .val (.long (((x2 + x5) + x7) + x9)), .second, .val (.int ((p0_2 + x11) - (1 : Int32))), .val (.ref b22), .unset, .unset, .unset, .unset, .unset, .unset, .unset, .unset, .unset, .unset, .unset, .unset, .unset, .unset, .unset, .unset, .unset, .unset, .unset, .unset, .unset, .unset, .unset, .unset, .unset, .unset, .unset, .unset]
  obtain ⟨cq25, kq25, q25a, q25b, q25c⟩ := isOf hZ rfl P23_0
  obtain ⟨_, _, ⟨T25, L25, k25, n25⟩, -, X25, ⟨Lc25, hQ25, l25, y25, z25⟩, st25⟩ := X23.virtualBack hx (y := (⟨"com/example/halozat/halozat/node/Leader", "hear", "(IIJJ)Z"⟩ : MethodName)) (z := (⟨"com/example/halozat/halozat/node/Leader", "hear", "(IIJJ)Z"⟩ : MethodName)) hown (mvT hZ (ow23 hw)) (mvT hZ (ow24 hw)) (notFace_of_selects (args := #[]) (mvT hZ (ow26 hw))) (mvT hZ (ow26 hw)) (mvT hZ (ow25 hw)) (by decide) (backOf (W := 0) (rm3 l Z a0 hw [] b22 p0_1 p0_2 (q0_5 &&& (65535 : Int64)) (x2 + x5) (-1 : Int32) (0 : Int32) p0_0 (0 : Int32) x2 x2 (9223372036854775807 : Int64) (0 : Int32) T23.heap n0 Z23 P23_1 P23_8 P23_3 P23_6 P23_0 g_b22 P23_4 P23_5 P23_2 P23_7) hZ (ow27 hw) (ow5 hw) (by decide) (by decide)) q25a q25c (g := (mkF m 127 A24 [(.long (x2 + x5)), (.long (q0_5 &&& (65535 : Int64))), (.int p0_2), (.int p0_1), (.ref b22)])) rfl (by rw [hml]; rfl) (Steps.refl _) (argsL := [(.int p0_1), (.int p0_2), (.long (q0_5 &&& (65535 : Int64))), (.long (x2 + x5))]) (rest := []) (lenOf pd__IIJJ_Z rfl) rfl (by show 2 * 0 + _ ≤ _; exact Nat.le_of_eq rfl) (hb hby at_127) (fun _ _ => ⟨rfl, rfl, (by decide : 1 + 0 ≤ _), (by decide : 8 + 0 ≤ _)⟩)
  dsimp only [Pt.U, Pt.locs, Pt.cells, Pt.slots] at X25 l25 y25 z25 st25 hQ25
  subst l25 y25 z25
  obtain ⟨rfl, Nq25, Kc25, P25_0, P25_1, P25_2, P25_3, P25_4, P25_5, P25_6, P25_7, P25_8⟩ := hQ25
  have K25 : Keep h0 T25.heap [] := Keep.trans K23 Kc25 (allS (P := fun x => x ∈ ([] : List Addr) ∨ h0.size ≤ x) (Or.inr sz_b22) all0)
  have Z25 : n0 ≤ T25.heap.size := Nat.le_trans Z0 K25.1
  obtain ⟨y26, hy26⟩ : ∃ z : Int32, z = (if ((q0_5 &&& (65535 : Int64)) < (5000 : Int64) ∧ (p0_1 < p0_0 ∧ ¬ ((p0_1 = (-1 : Int32) ∧ ¬ ((0 : Int32) < p0_2))))) then p0_1 else (if (p0_1 = p0_0 ∧ (0 : Int32) < p0_2) then p0_1 else p0_0)) := ⟨_, rfl⟩
  rw [← hy26] at P25_1
  obtain ⟨y27, hy27⟩ : ∃ z : Int32, z = (if ((q0_5 &&& (65535 : Int64)) < (5000 : Int64) ∧ (p0_1 < p0_0 ∧ ¬ ((p0_1 = (-1 : Int32) ∧ ¬ ((0 : Int32) < p0_2))))) then p0_2 else (if (p0_1 = p0_0 ∧ (0 : Int32) < p0_2) then p0_2 else (0 : Int32))) := ⟨_, rfl⟩
  rw [← hy27] at P25_3
  obtain ⟨y28, hy28⟩ : ∃ z : Int64, z = (if ((q0_5 &&& (65535 : Int64)) < (5000 : Int64) ∧ (p0_1 < p0_0 ∧ ¬ ((p0_1 = (-1 : Int32) ∧ ¬ ((0 : Int32) < p0_2))))) then ((x2 + x5) - (q0_5 &&& (65535 : Int64))) else (if (p0_1 = p0_0 ∧ (0 : Int32) < p0_2) then ((x2 + x5) - (q0_5 &&& (65535 : Int64))) else x2)) := ⟨_, rfl⟩
  rw [← hy28] at P25_4
  obtain ⟨y29, hy29⟩ : ∃ z : Int64, z = (if ((q0_5 &&& (65535 : Int64)) < (5000 : Int64) ∧ (p0_1 < p0_0 ∧ ¬ ((p0_1 = (-1 : Int32) ∧ ¬ ((0 : Int32) < p0_2))))) then (x2 + x5) else x2) := ⟨_, rfl⟩
  rw [← hy29] at P25_5
  obtain ⟨y30, hy30⟩ : ∃ z : Int64, z = (if ((q0_5 &&& (65535 : Int64)) < (5000 : Int64) ∧ (p0_1 < p0_0 ∧ ¬ ((p0_1 = (-1 : Int32) ∧ ¬ ((0 : Int32) < p0_2))))) then ((x2 + x5) + (1000 : Int64)) else (9223372036854775807 : Int64)) := ⟨_, rfl⟩
  rw [← hy30] at P25_6
  have N25 := Fr.app N23 Nq25
  obtain ⟨x31, hx31⟩ : ∃ z : Int32, z = (if ((q0_5 &&& (65535 : Int64)) < (5000 : Int64) ∧ (p0_1 < p0_0 ∧ ¬ ((p0_1 = (-1 : Int32) ∧ ¬ ((0 : Int32) < p0_2))))) then (1 : Int32) else (0 : Int32)) := ⟨_, rfl⟩
  let A32 : Array Slot := #[.val (.int p0_0), .val (.int p0_1), .val (.int p0_2), .val (.int p0_3), .val (.long q0_4), .second, .val (.long q0_5), .second, .val (.long x2), .second, .val (.long (q0_5 &&& (65535 : Int64))), .second, .val (.long x5), .second, .val (.long x7), .second, .val (.long x9), .second, .val (.int x11), .val (.int v15), .val (.long (x2 + x5)), .second, .val (.long ((x2 + x5) + x7)), .second, .val (.long (((x2 + x5) + x7) + x9)), .second, .val (.int ((p0_2 + x11) - (1 : Int32))), .val (.ref b22), .val (.int x31), .unset, .unset, .unset, .unset, .unset, .unset, .unset, .unset, .unset, .unset, .unset, .unset, .unset, .unset, .unset, .unset, .unset, .unset, .unset, .unset, .unset, .unset, .unset, .unset, .unset, .unset, .unset]
  obtain ⟨cq33, kq33, q33a, q33b, q33c⟩ := isOf hZ rfl P25_2
  obtain ⟨_, _, ⟨T33, L33, k33, n33⟩, -, X33, ⟨Lc33, hQ33, l33, y33, z33⟩, st33⟩ := X25.virtualBack hx (y := (⟨"com/example/halozat/halozat/node/Leader", "heartbeat", "(IIJ)Z"⟩ : MethodName)) (z := (⟨"com/example/halozat/halozat/node/Leader", "heartbeat", "(IIJ)Z"⟩ : MethodName)) hown (mvT hZ (ow29 hw)) (mvT hZ (ow30 hw)) (notFace_of_selects (args := #[]) (mvT hZ (ow32 hw))) (mvT hZ (ow32 hw)) (mvT hZ (ow31 hw)) (by decide) (backOf (W := 0) (rm4 l Z a0 hw [] b22 p0_0 p0_3 ((x2 + x5) + x7) y26 y28 (-1 : Int32) y27 (0 : Int32) y29 y30 (0 : Int32) T25.heap n0 Z25 P25_1 P25_4 P25_2 P25_0 g_b22 P25_3 P25_7 P25_5 P25_6 P25_8) hZ (ow33 hw) (ow5 hw) (by decide) (by decide)) q33a q33c (g := (mkF m 138 A32 [(.long ((x2 + x5) + x7)), (.int p0_3), (.int p0_0), (.ref b22)])) rfl (by rw [hml]; rfl) (Steps.refl _) (argsL := [(.int p0_0), (.int p0_3), (.long ((x2 + x5) + x7))]) (rest := []) (lenOf pd__IIJ_Z rfl) rfl (by show 2 * 0 + _ ≤ _; exact Nat.le_of_eq rfl) (hb hby at_138) (fun _ _ => ⟨rfl, rfl, (by decide : 1 + 0 ≤ _), (by decide : 8 + 0 ≤ _)⟩)
  dsimp only [Pt.U, Pt.locs, Pt.cells, Pt.slots] at X33 l33 y33 z33 st33 hQ33
  subst l33 y33 z33
  obtain ⟨rfl, Nq33, Kc33, P33_0, P33_1, P33_2, P33_3, P33_4, P33_5, P33_6, P33_7, P33_8⟩ := hQ33
  have K33 : Keep h0 T33.heap [] := Keep.trans K25 Kc33 (allS (P := fun x => x ∈ ([] : List Addr) ∨ h0.size ≤ x) (Or.inr sz_b22) all0)
  have Z33 : n0 ≤ T33.heap.size := Nat.le_trans Z0 K33.1
  obtain ⟨y34, hy34⟩ : ∃ z : Int32, z = (if (¬ (y26 = p0_0) ∧ ¬ ((((x2 + x5) + x7) - y28) < (5000 : Int64))) then p0_0 else y26) := ⟨_, rfl⟩
  rw [← hy34] at P33_0
  obtain ⟨y35, hy35⟩ : ∃ z : Int32, z = (if (¬ (y26 = p0_0) ∧ ¬ ((((x2 + x5) + x7) - y28) < (5000 : Int64))) then y26 else (-1 : Int32)) := ⟨_, rfl⟩
  rw [← hy35] at P33_2
  obtain ⟨y36, hy36⟩ : ∃ z : Int32, z = (if (¬ (y26 = p0_0) ∧ ¬ ((((x2 + x5) + x7) - y28) < (5000 : Int64))) then p0_3 else (if y26 = p0_0 then p0_3 else y27)) := ⟨_, rfl⟩
  rw [← hy36] at P33_3
  obtain ⟨y37, hy37⟩ : ∃ z : Int32, z = (if (¬ (y26 = p0_0) ∧ ¬ ((((x2 + x5) + x7) - y28) < (5000 : Int64))) then y27 else (0 : Int32)) := ⟨_, rfl⟩
  rw [← hy37] at P33_4
  obtain ⟨y38, hy38⟩ : ∃ z : Int64, z = (if (¬ (y26 = p0_0) ∧ ¬ ((((x2 + x5) + x7) - y28) < (5000 : Int64))) then ((x2 + x5) + x7) else y29) := ⟨_, rfl⟩
  rw [← hy38] at P33_5
  obtain ⟨y39, hy39⟩ : ∃ z : Int64, z = (if (¬ (y26 = p0_0) ∧ ¬ ((((x2 + x5) + x7) - y28) < (5000 : Int64))) then ((x2 + x5) + x7) else (if y26 = p0_0 then ((x2 + x5) + x7) else y28)) := ⟨_, rfl⟩
  rw [← hy39] at P33_6
  obtain ⟨y40, hy40⟩ : ∃ z : Int64, z = (if ((x2 + x5) + x7) < y30 then y30 else (9223372036854775807 : Int64)) := ⟨_, rfl⟩
  rw [← hy40] at P33_7
  obtain ⟨y41, hy41⟩ : ∃ z : Int32, z = (if (¬ (y26 = p0_0) ∧ ¬ ((((x2 + x5) + x7) - y28) < (5000 : Int64))) then (if ((x2 + x5) + x7) < y30 then (0 : Int32) else (nar .boolean ((0 : Int32) ||| (if ¬ ((((x2 + x5) + x7) - ((x2 + x5) + x7)) < (2500 : Int64)) then (1 : Int32) else (0 : Int32))))) else (if y26 = p0_0 then (if ((x2 + x5) + x7) < y30 then (0 : Int32) else (nar .boolean ((0 : Int32) ||| (if ¬ ((((x2 + x5) + x7) - ((x2 + x5) + x7)) < (2500 : Int64)) then (1 : Int32) else (0 : Int32))))) else (if ((x2 + x5) + x7) < y30 then (0 : Int32) else (nar .boolean ((0 : Int32) ||| (if ¬ ((((x2 + x5) + x7) - y28) < (2500 : Int64)) then (1 : Int32) else (0 : Int32))))))) := ⟨_, rfl⟩
  rw [← hy41] at P33_8
  have N33 := Fr.app N25 Nq33
  obtain ⟨x42, hx42⟩ : ∃ z : Int32, z = (if (¬ (y26 = p0_0) ∧ ¬ ((((x2 + x5) + x7) - y28) < (5000 : Int64))) then (1 : Int32) else (0 : Int32)) := ⟨_, rfl⟩
  let A43 : Array Slot := #[.val (.int p0_0), .val (.int p0_1), .val (.int p0_2), .val (.int p0_3), .val (.long q0_4), .second, .val (.long q0_5), .second, .val (.long x2), .second, .val (.long (q0_5 &&& (65535 : Int64))), .second, .val (.long x5), .second, .val (.long x7), .second, .val (.long x9), .second, .val (.int x11), .val (.int v15), .val (.long (x2 + x5)), .second, .val (.long ((x2 + x5) + x7)), .second, .val (.long (((x2 + x5) + x7) + x9)), .second, .val (.int ((p0_2 + x11) - (1 : Int32))), .val (.ref b22), .val (.int x31), .val (.int x42), .unset, .unset, .unset, .unset, .unset, .unset, .unset, .unset, .unset, .unset, .unset, .unset, .unset, .unset, .unset, .unset, .unset, .unset, .unset, .unset, .unset, .unset, .unset, .unset, .unset, .unset]
  obtain ⟨cq44, kq44, q44a, q44b, q44c⟩ := isOf hZ rfl P33_1
  obtain ⟨_, _, ⟨T44, L44, k44, n44⟩, -, X44, ⟨Lc44, hQ44, l44, y44, z44⟩, st44⟩ := X33.virtualBack hx (y := (⟨"com/example/halozat/halozat/node/Leader", "node", "()I"⟩ : MethodName)) (z := (⟨"com/example/halozat/halozat/node/Leader", "node", "()I"⟩ : MethodName)) hown (mvT hZ (ow36 hw)) (mvT hZ (ow37 hw)) (notFace_of_selects (args := #[]) (mvT hZ (ow39 hw))) (mvT hZ (ow39 hw)) (mvT hZ (ow38 hw)) (by decide) (backOf (W := 0) (rm5 l Z a0 hw [] b22 y34 T33.heap n0 Z33 P33_0) hZ (ow40 hw) (ow5 hw) (by decide) (by decide)) q44a q44c (g := (mkF m 145 A43 [(.ref b22)])) rfl (by rw [hml]; rfl) (Steps.refl _) (argsL := []) (rest := []) (lenOf pd___I rfl) rfl (by show 2 * 0 + _ ≤ _; exact Nat.le_of_eq rfl) (hb hby at_145) (fun _ _ => ⟨rfl, rfl, (by decide : 1 + 0 ≤ _), (by decide : 8 + 0 ≤ _)⟩)
  dsimp only [Pt.U, Pt.locs, Pt.cells, Pt.slots] at X44 l44 y44 z44 st44 hQ44
  subst l44 y44 z44
  obtain ⟨rfl, Nq44, e44⟩ := hQ44
  have N44 := Fr.app N33 Nq44
  let A45 : Array Slot := #[.val (.int p0_0), .val (.int p0_1), .val (.int p0_2), .val (.int p0_3), .val (.long q0_4), .second, .val (.long q0_5), .second, .val (.long x2), .second, .val (.long (q0_5 &&& (65535 : Int64))), .second, .val (.long x5), .second, .val (.long x7), .second, .val (.long x9), .second, .val (.int x11), .val (.int v15), .val (.long (x2 + x5)), .second, .val (.long ((x2 + x5) + x7)), .second, .val (.long (((x2 + x5) + x7) + x9)), .second, .val (.int ((p0_2 + x11) - (1 : Int32))), .val (.ref b22), .val (.int x31), .val (.int x42), .val (.int y34), .unset, .unset, .unset, .unset, .unset, .unset, .unset, .unset, .unset, .unset, .unset, .unset, .unset, .unset, .unset, .unset, .unset, .unset, .unset, .unset, .unset, .unset, .unset, .unset, .unset]
  obtain ⟨cq46, kq46, q46a, q46b, q46c⟩ := isOf hZ e44 P33_1
  obtain ⟨_, _, ⟨T46, L46, k46, n46⟩, -, X46, ⟨Lc46, hQ46, l46, y46, z46⟩, st46⟩ := X44.virtualBack hx (y := (⟨"com/example/halozat/halozat/node/Leader", "beat", "()I"⟩ : MethodName)) (z := (⟨"com/example/halozat/halozat/node/Leader", "beat", "()I"⟩ : MethodName)) hown (mvT hZ (ow41 hw)) (mvT hZ (ow42 hw)) (notFace_of_selects (args := #[]) (mvT hZ (ow44 hw))) (mvT hZ (ow44 hw)) (mvT hZ (ow43 hw)) (by decide) (backOf (W := 0) (rm6 l Z a0 hw [] b22 y36 T33.heap n0 Z33 P33_3) hZ (ow45 hw) (ow5 hw) (by decide) (by decide)) q46a q46c (g := (mkF m 152 A45 [(.ref b22)])) rfl (by rw [hml]; rfl) (Steps.refl _) (argsL := []) (rest := []) (lenOf pd___I rfl) rfl (by show 2 * 0 + _ ≤ _; exact Nat.le_of_eq rfl) (hb hby at_152) (fun _ _ => ⟨rfl, e44, (by decide : 1 + 0 ≤ _), (by decide : 8 + 0 ≤ _)⟩)
  dsimp only [Pt.U, Pt.locs, Pt.cells, Pt.slots] at X46 l46 y46 z46 st46 hQ46
  subst l46 y46 z46
  obtain ⟨rfl, Nq46, e46⟩ := hQ46
  have N46 := Fr.app N44 Nq46
  let A47 : Array Slot := #[.val (.int p0_0), .val (.int p0_1), .val (.int p0_2), .val (.int p0_3), .val (.long q0_4), .second, .val (.long q0_5), .second, .val (.long x2), .second, .val (.long (q0_5 &&& (65535 : Int64))), .second, .val (.long x5), .second, .val (.long x7), .second, .val (.long x9), .second, .val (.int x11), .val (.int v15), .val (.long (x2 + x5)), .second, .val (.long ((x2 + x5) + x7)), .second, .val (.long (((x2 + x5) + x7) + x9)), .second, .val (.int ((p0_2 + x11) - (1 : Int32))), .val (.ref b22), .val (.int x31), .val (.int x42), .val (.int y34), .val (.int y36), .unset, .unset, .unset, .unset, .unset, .unset, .unset, .unset, .unset, .unset, .unset, .unset, .unset, .unset, .unset, .unset, .unset, .unset, .unset, .unset, .unset, .unset, .unset, .unset]
  obtain ⟨cq48, kq48, q48a, q48b, q48c⟩ := isOf hZ e46 P33_1
  obtain ⟨_, _, ⟨T48, L48, k48, n48⟩, -, X48, ⟨Lc48, hQ48, l48, y48, z48⟩, st48⟩ := X46.virtualBack hx (y := (⟨"com/example/halozat/halozat/node/Leader", "age", "(J)J"⟩ : MethodName)) (z := (⟨"com/example/halozat/halozat/node/Leader", "age", "(J)J"⟩ : MethodName)) hown (mvT hZ (ow46 hw)) (mvT hZ (ow47 hw)) (notFace_of_selects (args := #[]) (mvT hZ (ow49 hw))) (mvT hZ (ow49 hw)) (mvT hZ (ow48 hw)) (by decide) (backOf (W := 0) (rm7 l Z a0 hw [] b22 ((x2 + x5) + x7) y39 T33.heap n0 Z33 P33_6) hZ (ow50 hw) (ow5 hw) (by decide) (by decide)) q48a q48c (g := (mkF m 161 A47 [(.long ((x2 + x5) + x7)), (.ref b22)])) rfl (by rw [hml]; rfl) (Steps.refl _) (argsL := [(.long ((x2 + x5) + x7))]) (rest := []) (lenOf pd__J_J rfl) rfl (by show 2 * 0 + _ ≤ _; exact Nat.le_of_eq rfl) (hb hby at_161) (fun _ _ => ⟨rfl, e46, (by decide : 1 + 0 ≤ _), (by decide : 8 + 0 ≤ _)⟩)
  dsimp only [Pt.U, Pt.locs, Pt.cells, Pt.slots] at X48 l48 y48 z48 st48 hQ48
  subst l48 y48 z48
  obtain ⟨rfl, Nq48, e48⟩ := hQ48
  have N48 := Fr.app N46 Nq48
  obtain ⟨x49, hx49⟩ : ∃ z : Int64, z = (((x2 + x5) + x7) - y39) := ⟨_, rfl⟩
  let A50 : Array Slot := #[.val (.int p0_0), .val (.int p0_1), .val (.int p0_2), .val (.int p0_3), .val (.long q0_4), .second, .val (.long q0_5), .second, .val (.long x2), .second, .val (.long (q0_5 &&& (65535 : Int64))), .second, .val (.long x5), .second, .val (.long x7), .second, .val (.long x9), .second, .val (.int x11), .val (.int v15), .val (.long (x2 + x5)), .second, .val (.long ((x2 + x5) + x7)), .second, .val (.long (((x2 + x5) + x7) + x9)), .second, .val (.int ((p0_2 + x11) - (1 : Int32))), .val (.ref b22), .val (.int x31), .val (.int x42), .val (.int y34), .val (.int y36), .val (.long x49), .second, .unset, .unset, .unset, .unset, .unset, .unset, .unset, .unset, .unset, .unset, .unset, .unset, .unset, .unset, .unset, .unset, .unset, .unset, .unset, .unset, .unset, .unset]
  obtain ⟨cq51, kq51, q51a, q51b, q51c⟩ := isOf hZ e48 P33_1
  obtain ⟨_, _, ⟨T51, L51, k51, n51⟩, -, X51, ⟨Lc51, hQ51, l51, y51, z51⟩, st51⟩ := X48.virtualBack hx (y := (⟨"com/example/halozat/halozat/node/Leader", "since", "()J"⟩ : MethodName)) (z := (⟨"com/example/halozat/halozat/node/Leader", "since", "()J"⟩ : MethodName)) hown (mvT hZ (ow51 hw)) (mvT hZ (ow52 hw)) (notFace_of_selects (args := #[]) (mvT hZ (ow54 hw))) (mvT hZ (ow54 hw)) (mvT hZ (ow53 hw)) (by decide) (backOf (W := 0) (rm8 l Z a0 hw [] b22 y38 T33.heap n0 Z33 P33_5) hZ (ow55 hw) (ow5 hw) (by decide) (by decide)) q51a q51c (g := (mkF m 168 A50 [(.ref b22)])) rfl (by rw [hml]; rfl) (Steps.refl _) (argsL := []) (rest := []) (lenOf pd___J rfl) rfl (by show 2 * 0 + _ ≤ _; exact Nat.le_of_eq rfl) (hb hby at_168) (fun _ _ => ⟨rfl, e48, (by decide : 1 + 0 ≤ _), (by decide : 8 + 0 ≤ _)⟩)
  dsimp only [Pt.U, Pt.locs, Pt.cells, Pt.slots] at X51 l51 y51 z51 st51 hQ51
  subst l51 y51 z51
  obtain ⟨rfl, Nq51, e51⟩ := hQ51
  have N51 := Fr.app N48 Nq51
  let A52 : Array Slot := #[.val (.int p0_0), .val (.int p0_1), .val (.int p0_2), .val (.int p0_3), .val (.long q0_4), .second, .val (.long q0_5), .second, .val (.long x2), .second, .val (.long (q0_5 &&& (65535 : Int64))), .second, .val (.long x5), .second, .val (.long x7), .second, .val (.long x9), .second, .val (.int x11), .val (.int v15), .val (.long (x2 + x5)), .second, .val (.long ((x2 + x5) + x7)), .second, .val (.long (((x2 + x5) + x7) + x9)), .second, .val (.int ((p0_2 + x11) - (1 : Int32))), .val (.ref b22), .val (.int x31), .val (.int x42), .val (.int y34), .val (.int y36), .val (.long x49), .second, .val (.long y38), .second, .unset, .unset, .unset, .unset, .unset, .unset, .unset, .unset, .unset, .unset, .unset, .unset, .unset, .unset, .unset, .unset, .unset, .unset, .unset, .unset]
  obtain ⟨cq53, kq53, q53a, q53b, q53c⟩ := isOf hZ e51 P33_1
  obtain ⟨_, _, ⟨T53, L53, k53, n53⟩, -, X53, ⟨Lc53, hQ53, l53, y53, z53⟩, st53⟩ := X51.virtualBack hx (y := (⟨"com/example/halozat/halozat/node/Leader", "far", "()Z"⟩ : MethodName)) (z := (⟨"com/example/halozat/halozat/node/Leader", "far", "()Z"⟩ : MethodName)) hown (mvT hZ (ow56 hw)) (mvT hZ (ow57 hw)) (notFace_of_selects (args := #[]) (mvT hZ (ow59 hw))) (mvT hZ (ow59 hw)) (mvT hZ (ow58 hw)) (by decide) (backOf (W := 0) (rm9 l Z a0 hw [] b22 y41 T33.heap n0 Z33 P33_8) hZ (ow60 hw) (ow5 hw) (by decide) (by decide)) q53a q53c (g := (mkF m 175 A52 [(.ref b22)])) rfl (by rw [hml]; rfl) (Steps.refl _) (argsL := []) (rest := []) (lenOf pd___Z rfl) rfl (by show 2 * 0 + _ ≤ _; exact Nat.le_of_eq rfl) (hb hby at_175) (fun _ _ => ⟨rfl, e51, (by decide : 1 + 0 ≤ _), (by decide : 8 + 0 ≤ _)⟩)
  dsimp only [Pt.U, Pt.locs, Pt.cells, Pt.slots] at X53 l53 y53 z53 st53 hQ53
  subst l53 y53 z53
  obtain ⟨rfl, Nq53, e53⟩ := hQ53
  have N53 := Fr.app N51 Nq53
  obtain ⟨x54, hx54⟩ : ∃ z : Int32, z = (nar .boolean y41) := ⟨_, rfl⟩
  let A55 : Array Slot := #[.val (.int p0_0), .val (.int p0_1), .val (.int p0_2), .val (.int p0_3), .val (.long q0_4), .second, .val (.long q0_5), .second, .val (.long x2), .second, .val (.long (q0_5 &&& (65535 : Int64))), .second, .val (.long x5), .second, .val (.long x7), .second, .val (.long x9), .second, .val (.int x11), .val (.int v15), .val (.long (x2 + x5)), .second, .val (.long ((x2 + x5) + x7)), .second, .val (.long (((x2 + x5) + x7) + x9)), .second, .val (.int ((p0_2 + x11) - (1 : Int32))), .val (.ref b22), .val (.int x31), .val (.int x42), .val (.int y34), .val (.int y36), .val (.long x49), .second, .val (.long y38), .second, .val (.int x54), .unset, .unset, .unset, .unset, .unset, .unset, .unset, .unset, .unset, .unset, .unset, .unset, .unset, .unset, .unset, .unset, .unset, .unset, .unset]
  let A56 : Array Slot := #[.val (.int p0_0), .val (.int p0_1), .val (.int p0_2), .val (.int p0_3), .val (.long q0_4), .second, .val (.long q0_5), .second, .val (.long x2), .second, .val (.long (q0_5 &&& (65535 : Int64))), .second, .val (.long x5), .second, .val (.long x7), .second, .val (.long x9), .second, .val (.int x11), .val (.int v15), .val (.long (x2 + x5)), .second, .val (.long ((x2 + x5) + x7)), .second, .val (.long (((x2 + x5) + x7) + x9)), .second, .val (.int ((p0_2 + x11) - (1 : Int32))), .val (.ref b22), .val (.int x31), .val (.int x42), .val (.int y34), .val (.int y36), .val (.long x49), .second, .val (.long y38), .second, .val (.int x54), .val (.long ((q0_5 &&& (65535 : Int64)) + x7)), .second, .unset, .unset, .unset, .unset, .unset, .unset, .unset, .unset, .unset, .unset, .unset, .unset, .unset, .unset, .unset, .unset, .unset]
  have G57 : ∀ t, Steps p.tables e below (T53.setTop (mkF m 189 A56 [(.int x31)])) t → Steps p.tables e below (T16.setTop (mkF m 76 A12 [(.int v15)])) t := by
    intro t k
    show Steps p.tables e below (T16.setTop (mkF m 76 A12 [(.int v15)])) _
    refine XS.istore X16.here hx rfl (hb hby at_76) rfl (l' := A17) rfl ?_
    show Steps p.tables e below (T16.setTop (mkF m 78 A17 [])) _
    refine XS.lload X16.here hx rfl (hb hby at_78) rfl ?_
    show Steps p.tables e below (T16.setTop (mkF m 80 A17 [(.long x2)])) _
    refine XS.lload X16.here hx rfl (hb hby at_80) rfl ?_
    show Steps p.tables e below (T16.setTop (mkF m 82 A17 [(.long x5), (.long x2)])) _
    refine XS.ladd X16.here hx rfl (hb hby at_82) rfl ?_
    show Steps p.tables e below (T16.setTop (mkF m 83 A17 [(.long (x2 + x5))])) _
    refine XS.lstore X16.here hx rfl (hb hby at_83) rfl (l' := A18) rfl ?_
    show Steps p.tables e below (T16.setTop (mkF m 85 A18 [])) _
    refine XS.lload X16.here hx rfl (hb hby at_85) rfl ?_
    show Steps p.tables e below (T16.setTop (mkF m 87 A18 [(.long (x2 + x5))])) _
    refine XS.lload X16.here hx rfl (hb hby at_87) rfl ?_
    show Steps p.tables e below (T16.setTop (mkF m 89 A18 [(.long x7), (.long (x2 + x5))])) _
    refine XS.ladd X16.here hx rfl (hb hby at_89) rfl ?_
    show Steps p.tables e below (T16.setTop (mkF m 90 A18 [(.long ((x2 + x5) + x7))])) _
    refine XS.lstore X16.here hx rfl (hb hby at_90) rfl (l' := A19) rfl ?_
    show Steps p.tables e below (T16.setTop (mkF m 92 A19 [])) _
    refine XS.lload X16.here hx rfl (hb hby at_92) rfl ?_
    show Steps p.tables e below (T16.setTop (mkF m 94 A19 [(.long ((x2 + x5) + x7))])) _
    refine XS.lload X16.here hx rfl (hb hby at_94) rfl ?_
    show Steps p.tables e below (T16.setTop (mkF m 96 A19 [(.long x9), (.long ((x2 + x5) + x7))])) _
    refine XS.ladd X16.here hx rfl (hb hby at_96) rfl ?_
    show Steps p.tables e below (T16.setTop (mkF m 97 A19 [(.long (((x2 + x5) + x7) + x9))])) _
    refine XS.lstore X16.here hx rfl (hb hby at_97) rfl (l' := A20) rfl ?_
    show Steps p.tables e below (T16.setTop (mkF m 99 A20 [])) _
    refine XS.iloadN X16.here hx rfl (hb hby at_99) rfl ?_
    show Steps p.tables e below (T16.setTop (mkF m 100 A20 [(.int p0_2)])) _
    refine XS.iload X16.here hx rfl (hb hby at_100) rfl ?_
    show Steps p.tables e below (T16.setTop (mkF m 102 A20 [(.int x11), (.int p0_2)])) _
    refine XS.iadd X16.here hx rfl (hb hby at_102) rfl ?_
    show Steps p.tables e below (T16.setTop (mkF m 103 A20 [(.int (p0_2 + x11))])) _
    refine XS.iconst X16.here hx rfl (hb hby at_103) ?_
    show Steps p.tables e below (T16.setTop (mkF m 104 A20 [(.int (1 : Int32)), (.int (p0_2 + x11))])) _
    refine XS.isub X16.here hx rfl (hb hby at_104) rfl ?_
    show Steps p.tables e below (T16.setTop (mkF m 105 A20 [(.int ((p0_2 + x11) - (1 : Int32)))])) _
    refine XS.istore X16.here hx rfl (hb hby at_105) rfl (l' := A21) rfl ?_
    show Steps p.tables e below (T16.setTop (mkF m 107 A21 [])) _
    refine st22 _ ?_
    show Steps p.tables e below (T22.setTop (mkF m 110 A21 [(.ref b22)])) _
    refine XS.dup X22.here hx rfl (hb hby at_110) rfl rfl ?_
    show Steps p.tables e below (T22.setTop (mkF m 111 A21 [(.ref b22), (.ref b22)])) _
    refine XS.iloadN X22.here hx rfl (hb hby at_111) rfl ?_
    show Steps p.tables e below (T22.setTop (mkF m 112 A21 [(.int p0_0), (.ref b22), (.ref b22)])) _
    refine XS.lload X22.here hx rfl (hb hby at_112) rfl ?_
    show Steps p.tables e below (T22.setTop (mkF m 114 A21 [(.long x2), (.int p0_0), (.ref b22), (.ref b22)])) _
    refine st23.trans ?_
    show Steps p.tables e below (T23.setTop (mkF m 117 A21 [(.ref b22)])) _
    refine XS.astore X23.here hx rfl (hb hby at_117) rfl rfl (l' := A24) rfl ?_
    show Steps p.tables e below (T23.setTop (mkF m 119 A24 [])) _
    refine XS.aload X23.here hx rfl (hb hby at_119) rfl rfl ?_
    show Steps p.tables e below (T23.setTop (mkF m 121 A24 [(.ref b22)])) _
    refine XS.iloadN X23.here hx rfl (hb hby at_121) rfl ?_
    show Steps p.tables e below (T23.setTop (mkF m 122 A24 [(.int p0_1), (.ref b22)])) _
    refine XS.iloadN X23.here hx rfl (hb hby at_122) rfl ?_
    show Steps p.tables e below (T23.setTop (mkF m 123 A24 [(.int p0_2), (.int p0_1), (.ref b22)])) _
    refine XS.lload X23.here hx rfl (hb hby at_123) rfl ?_
    show Steps p.tables e below (T23.setTop (mkF m 125 A24 [(.long (q0_5 &&& (65535 : Int64))), (.int p0_2), (.int p0_1), (.ref b22)])) _
    refine XS.lload X23.here hx rfl (hb hby at_125) rfl ?_
    show Steps p.tables e below (T23.setTop (mkF m 127 A24 [(.long (x2 + x5)), (.long (q0_5 &&& (65535 : Int64))), (.int p0_2), (.int p0_1), (.ref b22)])) _
    refine st25.trans ?_
    show Steps p.tables e below (T25.setTop (mkF m 130 A24 [(.int (if ((q0_5 &&& (65535 : Int64)) < (5000 : Int64) ∧ (p0_1 < p0_0 ∧ ¬ ((p0_1 = (-1 : Int32) ∧ ¬ ((0 : Int32) < p0_2))))) then (1 : Int32) else (0 : Int32)))])) _
    rw [← hx31]
    show Steps p.tables e below (T25.setTop (mkF m 130 A24 [(.int x31)])) _
    refine XS.istore X25.here hx rfl (hb hby at_130) rfl (l' := A32) rfl ?_
    show Steps p.tables e below (T25.setTop (mkF m 132 A32 [])) _
    refine XS.aload X25.here hx rfl (hb hby at_132) rfl rfl ?_
    show Steps p.tables e below (T25.setTop (mkF m 134 A32 [(.ref b22)])) _
    refine XS.iloadN X25.here hx rfl (hb hby at_134) rfl ?_
    show Steps p.tables e below (T25.setTop (mkF m 135 A32 [(.int p0_0), (.ref b22)])) _
    refine XS.iloadN X25.here hx rfl (hb hby at_135) rfl ?_
    show Steps p.tables e below (T25.setTop (mkF m 136 A32 [(.int p0_3), (.int p0_0), (.ref b22)])) _
    refine XS.lload X25.here hx rfl (hb hby at_136) rfl ?_
    show Steps p.tables e below (T25.setTop (mkF m 138 A32 [(.long ((x2 + x5) + x7)), (.int p0_3), (.int p0_0), (.ref b22)])) _
    refine st33.trans ?_
    show Steps p.tables e below (T33.setTop (mkF m 141 A32 [(.int (if (¬ (y26 = p0_0) ∧ ¬ ((((x2 + x5) + x7) - y28) < (5000 : Int64))) then (1 : Int32) else (0 : Int32)))])) _
    rw [← hx42]
    show Steps p.tables e below (T33.setTop (mkF m 141 A32 [(.int x42)])) _
    refine XS.istore X33.here hx rfl (hb hby at_141) rfl (l' := A43) rfl ?_
    show Steps p.tables e below (T33.setTop (mkF m 143 A43 [])) _
    refine XS.aload X33.here hx rfl (hb hby at_143) rfl rfl ?_
    show Steps p.tables e below (T33.setTop (mkF m 145 A43 [(.ref b22)])) _
    refine st44.trans ?_
    show Steps p.tables e below (T44.setTop (mkF m 148 A43 [(.int y34)])) _
    refine XS.istore X44.here hx rfl (hb hby at_148) rfl (l' := A45) rfl ?_
    show Steps p.tables e below (T44.setTop (mkF m 150 A45 [])) _
    refine XS.aload X44.here hx rfl (hb hby at_150) rfl rfl ?_
    show Steps p.tables e below (T44.setTop (mkF m 152 A45 [(.ref b22)])) _
    refine st46.trans ?_
    show Steps p.tables e below (T46.setTop (mkF m 155 A45 [(.int y36)])) _
    refine XS.istore X46.here hx rfl (hb hby at_155) rfl (l' := A47) rfl ?_
    show Steps p.tables e below (T46.setTop (mkF m 157 A47 [])) _
    refine XS.aload X46.here hx rfl (hb hby at_157) rfl rfl ?_
    show Steps p.tables e below (T46.setTop (mkF m 159 A47 [(.ref b22)])) _
    refine XS.lload X46.here hx rfl (hb hby at_159) rfl ?_
    show Steps p.tables e below (T46.setTop (mkF m 161 A47 [(.long ((x2 + x5) + x7)), (.ref b22)])) _
    refine st48.trans ?_
    show Steps p.tables e below (T48.setTop (mkF m 164 A47 [(.long (((x2 + x5) + x7) - y39))])) _
    rw [← hx49]
    show Steps p.tables e below (T48.setTop (mkF m 164 A47 [(.long x49)])) _
    refine XS.lstore X48.here hx rfl (hb hby at_164) rfl (l' := A50) rfl ?_
    show Steps p.tables e below (T48.setTop (mkF m 166 A50 [])) _
    refine XS.aload X48.here hx rfl (hb hby at_166) rfl rfl ?_
    show Steps p.tables e below (T48.setTop (mkF m 168 A50 [(.ref b22)])) _
    refine st51.trans ?_
    show Steps p.tables e below (T51.setTop (mkF m 171 A50 [(.long y38)])) _
    refine XS.lstore X51.here hx rfl (hb hby at_171) rfl (l' := A52) rfl ?_
    show Steps p.tables e below (T51.setTop (mkF m 173 A52 [])) _
    refine XS.aload X51.here hx rfl (hb hby at_173) rfl rfl ?_
    show Steps p.tables e below (T51.setTop (mkF m 175 A52 [(.ref b22)])) _
    refine st53.trans ?_
    show Steps p.tables e below (T53.setTop (mkF m 178 A52 [(.int (nar .boolean y41))])) _
    rw [← hx54]
    show Steps p.tables e below (T53.setTop (mkF m 178 A52 [(.int x54)])) _
    refine XS.istore X53.here hx rfl (hb hby at_178) rfl (l' := A55) rfl ?_
    show Steps p.tables e below (T53.setTop (mkF m 180 A55 [])) _
    refine XS.lload X53.here hx rfl (hb hby at_180) rfl ?_
    show Steps p.tables e below (T53.setTop (mkF m 182 A55 [(.long (q0_5 &&& (65535 : Int64)))])) _
    refine XS.lload X53.here hx rfl (hb hby at_182) rfl ?_
    show Steps p.tables e below (T53.setTop (mkF m 184 A55 [(.long x7), (.long (q0_5 &&& (65535 : Int64)))])) _
    refine XS.ladd X53.here hx rfl (hb hby at_184) rfl ?_
    show Steps p.tables e below (T53.setTop (mkF m 185 A55 [(.long ((q0_5 &&& (65535 : Int64)) + x7))])) _
    refine XS.lstore X53.here hx rfl (hb hby at_185) rfl (l' := A56) rfl ?_
    show Steps p.tables e below (T53.setTop (mkF m 187 A56 [])) _
    refine XS.iload X53.here hx rfl (hb hby at_187) rfl ?_
    exact k
  obtain ⟨v61, hv61⟩ : ∃ z : Int32, z = (if (((q0_5 &&& (65535 : Int64)) < (5000 : Int64) ∧ (p0_1 < p0_0 ∧ ¬ ((p0_1 = (-1 : Int32) ∧ ¬ ((0 : Int32) < p0_2))))) ∧ ¬ (((q0_5 &&& (65535 : Int64)) + x7) < (5000 : Int64))) then (1 : Int32) else (0 : Int32)) := ⟨_, rfl⟩
  obtain ⟨T62, Lo62, X62, N62, e62, G62⟩ := own_join X53 N53 (h := T33.heap) (mkF m 189 A56 [(.int x31)]) (mkF m 206 A56 [(.int v61)]) (by
    by_cases h189_58 : ((q0_5 &&& (65535 : Int64)) < (5000 : Int64) ∧ (p0_1 < p0_0 ∧ ¬ ((p0_1 = (-1 : Int32) ∧ ¬ ((0 : Int32) < p0_2)))))
    · have G59 : ∀ t, Steps p.tables e below (T53.setTop (mkF m 198 A56 [(.int (lcmpW ((q0_5 &&& (65535 : Int64)) + x7) (5000 : Int64)))])) t → Steps p.tables e below (T53.setTop (mkF m 189 A56 [(.int x31)])) t := by
        intro t k
        show Steps p.tables e below (T53.setTop (mkF m 189 A56 [(.int x31)])) _
        refine XS.ifNo X53.here hx rfl (hb hby at_189) rfl ((if0 _ _).trans (feq (own_b1 (hx31.trans (if_pos h189_58)))).1) ?_
        show Steps p.tables e below (T53.setTop (mkF m 192 A56 [])) _
        refine XS.lload X53.here hx rfl (hb hby at_192) rfl ?_
        show Steps p.tables e below (T53.setTop (mkF m 194 A56 [(.long ((q0_5 &&& (65535 : Int64)) + x7))])) _
        refine X53.ldc2Long hx hown (mvT hZ (ow64 hw)) (g := (mkF m 194 A56 [(.long ((q0_5 &&& (65535 : Int64)) + x7))])) rfl (hb hby at_194) _ ?_
        show Steps p.tables e below (T53.setTop (mkF m 197 A56 [(.long (5000 : Int64)), (.long ((q0_5 &&& (65535 : Int64)) + x7))])) _
        refine XS.lcmp X53.here hx rfl (hb hby at_197) rfl ?_
        exact k
      by_cases h198_60 : ((q0_5 &&& (65535 : Int64)) + x7) < (5000 : Int64)
      · refine ⟨T53, _, X53, N53, e53, fun t k => ?_⟩
        rw [show v61 = (0 : Int32) from hv61.trans (if_neg (fun q => (fun q => q h198_60) q.2))] at k
        refine G59 _ ?_
        show Steps p.tables e below (T53.setTop (mkF m 198 A56 [(.int (lcmpW ((q0_5 &&& (65535 : Int64)) + x7) (5000 : Int64)))])) _
        refine XS.ifYes X53.here hx rfl (pc0 := 198) (pc' := 205) rfl (hb hby at_198) rfl ((if0 _ _).trans (tlt ((lw_lt _ _).mpr h198_60)).1) (by decide) (by decide) ?_
        show Steps p.tables e below (T53.setTop (mkF m 205 A56 [])) _
        refine XS.iconst X53.here hx rfl (hb hby at_205) ?_
        exact k
      · refine ⟨T53, _, X53, N53, e53, fun t k => ?_⟩
        rw [show v61 = (1 : Int32) from hv61.trans (if_pos ⟨h189_58, h198_60⟩)] at k
        refine G59 _ ?_
        show Steps p.tables e below (T53.setTop (mkF m 198 A56 [(.int (lcmpW ((q0_5 &&& (65535 : Int64)) + x7) (5000 : Int64)))])) _
        refine XS.ifNo X53.here hx rfl (hb hby at_198) rfl ((if0 _ _).trans (flt (fun q => h198_60 ((lw_lt _ _).mp q))).1) ?_
        show Steps p.tables e below (T53.setTop (mkF m 201 A56 [])) _
        refine XS.iconst X53.here hx rfl (hb hby at_201) ?_
        show Steps p.tables e below (T53.setTop (mkF m 202 A56 [(.int (1 : Int32))])) _
        refine XS.goto X53.here hx rfl (pc0 := 202) (pc' := 206) rfl (hb hby at_202) (by decide) (by decide) ?_
        exact k
    · refine ⟨T53, _, X53, N53, e53, fun t k => ?_⟩
      rw [show v61 = (0 : Int32) from hv61.trans (if_neg (fun q => h189_58 q.1))] at k
      show Steps p.tables e below (T53.setTop (mkF m 189 A56 [(.int x31)])) _
      refine XS.ifYes X53.here hx rfl (pc0 := 189) (pc' := 205) rfl (hb hby at_189) rfl ((if0 _ _).trans (teq (hx31.trans (if_neg h189_58))).1) (by decide) (by decide) ?_
      show Steps p.tables e below (T53.setTop (mkF m 205 A56 [])) _
      refine XS.iconst X53.here hx rfl (hb hby at_205) ?_
      exact k)
  let A63 : Array Slot := #[.val (.int p0_0), .val (.int p0_1), .val (.int p0_2), .val (.int p0_3), .val (.long q0_4), .second, .val (.long q0_5), .second, .val (.long x2), .second, .val (.long (q0_5 &&& (65535 : Int64))), .second, .val (.long x5), .second, .val (.long x7), .second, .val (.long x9), .second, .val (.int x11), .val (.int v15), .val (.long (x2 + x5)), .second, .val (.long ((x2 + x5) + x7)), .second, .val (.long (((x2 + x5) + x7) + x9)), .second, .val (.int ((p0_2 + x11) - (1 : Int32))), .val (.ref b22), .val (.int x31), .val (.int x42), .val (.int y34), .val (.int y36), .val (.long x49), .second, .val (.long y38), .second, .val (.int x54), .val (.long ((q0_5 &&& (65535 : Int64)) + x7)), .second, .val (.int v61), .unset, .unset, .unset, .unset, .unset, .unset, .unset, .unset, .unset, .unset, .unset, .unset, .unset, .unset, .unset, .unset]
  have G64 : ∀ t, Steps p.tables e below (T62.setTop (mkF m 210 A63 [(.int x31)])) t → Steps p.tables e below (T62.setTop (mkF m 206 A56 [(.int v61)])) t := by
    intro t k
    show Steps p.tables e below (T62.setTop (mkF m 206 A56 [(.int v61)])) _
    refine XS.istore X62.here hx rfl (hb hby at_206) rfl (l' := A63) rfl ?_
    show Steps p.tables e below (T62.setTop (mkF m 208 A63 [])) _
    refine XS.iload X62.here hx rfl (hb hby at_208) rfl ?_
    exact k
  obtain ⟨v68, hv68⟩ : ∃ z : Int32, z = (if (((q0_5 &&& (65535 : Int64)) < (5000 : Int64) ∧ (p0_1 < p0_0 ∧ ¬ ((p0_1 = (-1 : Int32) ∧ ¬ ((0 : Int32) < p0_2))))) ∧ ¬ ((((q0_5 &&& (65535 : Int64)) < (5000 : Int64) ∧ (p0_1 < p0_0 ∧ ¬ ((p0_1 = (-1 : Int32) ∧ ¬ ((0 : Int32) < p0_2))))) ∧ ¬ (((q0_5 &&& (65535 : Int64)) + x7) < (5000 : Int64))))) then (1 : Int32) else (0 : Int32)) := ⟨_, rfl⟩
  obtain ⟨T69, Lo69, X69, N69, e69, G69⟩ := own_join X62 N62 (h := T33.heap) (mkF m 210 A63 [(.int x31)]) (mkF m 223 A63 [(.int v68)]) (by
    by_cases h210_65 : ((q0_5 &&& (65535 : Int64)) < (5000 : Int64) ∧ (p0_1 < p0_0 ∧ ¬ ((p0_1 = (-1 : Int32) ∧ ¬ ((0 : Int32) < p0_2)))))
    · have G66 : ∀ t, Steps p.tables e below (T62.setTop (mkF m 215 A63 [(.int v61)])) t → Steps p.tables e below (T62.setTop (mkF m 210 A63 [(.int x31)])) t := by
        intro t k
        show Steps p.tables e below (T62.setTop (mkF m 210 A63 [(.int x31)])) _
        refine XS.ifNo X62.here hx rfl (hb hby at_210) rfl ((if0 _ _).trans (feq (own_b1 (hx31.trans (if_pos h210_65)))).1) ?_
        show Steps p.tables e below (T62.setTop (mkF m 213 A63 [])) _
        refine XS.iload X62.here hx rfl (hb hby at_213) rfl ?_
        exact k
      by_cases h215_67 : (((q0_5 &&& (65535 : Int64)) < (5000 : Int64) ∧ (p0_1 < p0_0 ∧ ¬ ((p0_1 = (-1 : Int32) ∧ ¬ ((0 : Int32) < p0_2))))) ∧ ¬ (((q0_5 &&& (65535 : Int64)) + x7) < (5000 : Int64)))
      · refine ⟨T62, _, X62, N62, e62, fun t k => ?_⟩
        rw [show v68 = (0 : Int32) from hv68.trans (if_neg (fun q => (fun q => q h215_67) q.2))] at k
        refine G66 _ ?_
        show Steps p.tables e below (T62.setTop (mkF m 215 A63 [(.int v61)])) _
        refine XS.ifYes X62.here hx rfl (pc0 := 215) (pc' := 222) rfl (hb hby at_215) rfl ((if0 _ _).trans (feq (own_b1 (hv61.trans (if_pos h215_67)))).2) (by decide) (by decide) ?_
        show Steps p.tables e below (T62.setTop (mkF m 222 A63 [])) _
        refine XS.iconst X62.here hx rfl (hb hby at_222) ?_
        exact k
      · refine ⟨T62, _, X62, N62, e62, fun t k => ?_⟩
        rw [show v68 = (1 : Int32) from hv68.trans (if_pos ⟨h210_65, h215_67⟩)] at k
        refine G66 _ ?_
        show Steps p.tables e below (T62.setTop (mkF m 215 A63 [(.int v61)])) _
        refine XS.ifNo X62.here hx rfl (hb hby at_215) rfl ((if0 _ _).trans (teq (hv61.trans (if_neg h215_67))).2) ?_
        show Steps p.tables e below (T62.setTop (mkF m 218 A63 [])) _
        refine XS.iconst X62.here hx rfl (hb hby at_218) ?_
        show Steps p.tables e below (T62.setTop (mkF m 219 A63 [(.int (1 : Int32))])) _
        refine XS.goto X62.here hx rfl (pc0 := 219) (pc' := 223) rfl (hb hby at_219) (by decide) (by decide) ?_
        exact k
    · refine ⟨T62, _, X62, N62, e62, fun t k => ?_⟩
      rw [show v68 = (0 : Int32) from hv68.trans (if_neg (fun q => h210_65 q.1))] at k
      show Steps p.tables e below (T62.setTop (mkF m 210 A63 [(.int x31)])) _
      refine XS.ifYes X62.here hx rfl (pc0 := 210) (pc' := 222) rfl (hb hby at_210) rfl ((if0 _ _).trans (teq (hx31.trans (if_neg h210_65))).1) (by decide) (by decide) ?_
      show Steps p.tables e below (T62.setTop (mkF m 222 A63 [])) _
      refine XS.iconst X62.here hx rfl (hb hby at_222) ?_
      exact k)
  let A70 : Array Slot := #[.val (.int p0_0), .val (.int p0_1), .val (.int p0_2), .val (.int p0_3), .val (.long q0_4), .second, .val (.long q0_5), .second, .val (.long x2), .second, .val (.long (q0_5 &&& (65535 : Int64))), .second, .val (.long x5), .second, .val (.long x7), .second, .val (.long x9), .second, .val (.int x11), .val (.int v15), .val (.long (x2 + x5)), .second, .val (.long ((x2 + x5) + x7)), .second, .val (.long (((x2 + x5) + x7) + x9)), .second, .val (.int ((p0_2 + x11) - (1 : Int32))), .val (.ref b22), .val (.int x31), .val (.int x42), .val (.int y34), .val (.int y36), .val (.long x49), .second, .val (.long y38), .second, .val (.int x54), .val (.long ((q0_5 &&& (65535 : Int64)) + x7)), .second, .val (.int v61), .val (.int v68), .unset, .unset, .unset, .unset, .unset, .unset, .unset, .unset, .unset, .unset, .unset, .unset, .unset, .unset, .unset]
  have G71 : ∀ t, Steps p.tables e below (T69.setTop (mkF m 227 A70 [(.int v68)])) t → Steps p.tables e below (T69.setTop (mkF m 223 A63 [(.int v68)])) t := by
    intro t k
    show Steps p.tables e below (T69.setTop (mkF m 223 A63 [(.int v68)])) _
    refine XS.istore X69.here hx rfl (hb hby at_223) rfl (l' := A70) rfl ?_
    show Steps p.tables e below (T69.setTop (mkF m 225 A70 [])) _
    refine XS.iload X69.here hx rfl (hb hby at_225) rfl ?_
    exact k
  obtain ⟨v73, hv73⟩ : ∃ z : Int32, z = (if (((q0_5 &&& (65535 : Int64)) < (5000 : Int64) ∧ (p0_1 < p0_0 ∧ ¬ ((p0_1 = (-1 : Int32) ∧ ¬ ((0 : Int32) < p0_2))))) ∧ ¬ ((((q0_5 &&& (65535 : Int64)) < (5000 : Int64) ∧ (p0_1 < p0_0 ∧ ¬ ((p0_1 = (-1 : Int32) ∧ ¬ ((0 : Int32) < p0_2))))) ∧ ¬ (((q0_5 &&& (65535 : Int64)) + x7) < (5000 : Int64))))) then p0_1 else p0_0) := ⟨_, rfl⟩
  obtain ⟨T74, Lo74, X74, N74, e74, G74⟩ := own_join X69 N69 (h := T33.heap) (mkF m 227 A70 [(.int v68)]) (mkF m 235 A70 [(.int v73)]) (by
    by_cases h227_72 : (((q0_5 &&& (65535 : Int64)) < (5000 : Int64) ∧ (p0_1 < p0_0 ∧ ¬ ((p0_1 = (-1 : Int32) ∧ ¬ ((0 : Int32) < p0_2))))) ∧ ¬ ((((q0_5 &&& (65535 : Int64)) < (5000 : Int64) ∧ (p0_1 < p0_0 ∧ ¬ ((p0_1 = (-1 : Int32) ∧ ¬ ((0 : Int32) < p0_2))))) ∧ ¬ (((q0_5 &&& (65535 : Int64)) + x7) < (5000 : Int64)))))
    · refine ⟨T69, _, X69, N69, e69, fun t k => ?_⟩
      rw [show v73 = p0_1 from hv73.trans (if_pos h227_72)] at k
      show Steps p.tables e below (T69.setTop (mkF m 227 A70 [(.int v68)])) _
      refine XS.ifNo X69.here hx rfl (hb hby at_227) rfl ((if0 _ _).trans (feq (own_b1 (hv68.trans (if_pos h227_72)))).1) ?_
      show Steps p.tables e below (T69.setTop (mkF m 230 A70 [])) _
      refine XS.iloadN X69.here hx rfl (hb hby at_230) rfl ?_
      show Steps p.tables e below (T69.setTop (mkF m 231 A70 [(.int p0_1)])) _
      refine XS.goto X69.here hx rfl (pc0 := 231) (pc' := 235) rfl (hb hby at_231) (by decide) (by decide) ?_
      exact k
    · refine ⟨T69, _, X69, N69, e69, fun t k => ?_⟩
      rw [show v73 = p0_0 from hv73.trans (if_neg h227_72)] at k
      show Steps p.tables e below (T69.setTop (mkF m 227 A70 [(.int v68)])) _
      refine XS.ifYes X69.here hx rfl (pc0 := 227) (pc' := 234) rfl (hb hby at_227) rfl ((if0 _ _).trans (teq (hv68.trans (if_neg h227_72))).1) (by decide) (by decide) ?_
      show Steps p.tables e below (T69.setTop (mkF m 234 A70 [])) _
      refine XS.iloadN X69.here hx rfl (hb hby at_234) rfl ?_
      exact k)
  let A75 : Array Slot := #[.val (.int p0_0), .val (.int p0_1), .val (.int p0_2), .val (.int p0_3), .val (.long q0_4), .second, .val (.long q0_5), .second, .val (.long x2), .second, .val (.long (q0_5 &&& (65535 : Int64))), .second, .val (.long x5), .second, .val (.long x7), .second, .val (.long x9), .second, .val (.int x11), .val (.int v15), .val (.long (x2 + x5)), .second, .val (.long ((x2 + x5) + x7)), .second, .val (.long (((x2 + x5) + x7) + x9)), .second, .val (.int ((p0_2 + x11) - (1 : Int32))), .val (.ref b22), .val (.int x31), .val (.int x42), .val (.int y34), .val (.int y36), .val (.long x49), .second, .val (.long y38), .second, .val (.int x54), .val (.long ((q0_5 &&& (65535 : Int64)) + x7)), .second, .val (.int v61), .val (.int v68), .val (.int v73), .unset, .unset, .unset, .unset, .unset, .unset, .unset, .unset, .unset, .unset, .unset, .unset, .unset, .unset]
  have G76 : ∀ t, Steps p.tables e below (T74.setTop (mkF m 239 A75 [(.int v68)])) t → Steps p.tables e below (T74.setTop (mkF m 235 A70 [(.int v73)])) t := by
    intro t k
    show Steps p.tables e below (T74.setTop (mkF m 235 A70 [(.int v73)])) _
    refine XS.istore X74.here hx rfl (hb hby at_235) rfl (l' := A75) rfl ?_
    show Steps p.tables e below (T74.setTop (mkF m 237 A75 [])) _
    refine XS.iload X74.here hx rfl (hb hby at_237) rfl ?_
    exact k
  obtain ⟨v78, hv78⟩ : ∃ z : Int32, z = (if (((q0_5 &&& (65535 : Int64)) < (5000 : Int64) ∧ (p0_1 < p0_0 ∧ ¬ ((p0_1 = (-1 : Int32) ∧ ¬ ((0 : Int32) < p0_2))))) ∧ ¬ ((((q0_5 &&& (65535 : Int64)) < (5000 : Int64) ∧ (p0_1 < p0_0 ∧ ¬ ((p0_1 = (-1 : Int32) ∧ ¬ ((0 : Int32) < p0_2))))) ∧ ¬ (((q0_5 &&& (65535 : Int64)) + x7) < (5000 : Int64))))) then p0_2 else p0_3) := ⟨_, rfl⟩
  obtain ⟨T79, Lo79, X79, N79, e79, G79⟩ := own_join X74 N74 (h := T33.heap) (mkF m 239 A75 [(.int v68)]) (mkF m 247 A75 [(.int v78)]) (by
    by_cases h239_77 : (((q0_5 &&& (65535 : Int64)) < (5000 : Int64) ∧ (p0_1 < p0_0 ∧ ¬ ((p0_1 = (-1 : Int32) ∧ ¬ ((0 : Int32) < p0_2))))) ∧ ¬ ((((q0_5 &&& (65535 : Int64)) < (5000 : Int64) ∧ (p0_1 < p0_0 ∧ ¬ ((p0_1 = (-1 : Int32) ∧ ¬ ((0 : Int32) < p0_2))))) ∧ ¬ (((q0_5 &&& (65535 : Int64)) + x7) < (5000 : Int64)))))
    · refine ⟨T74, _, X74, N74, e74, fun t k => ?_⟩
      rw [show v78 = p0_2 from hv78.trans (if_pos h239_77)] at k
      show Steps p.tables e below (T74.setTop (mkF m 239 A75 [(.int v68)])) _
      refine XS.ifNo X74.here hx rfl (hb hby at_239) rfl ((if0 _ _).trans (feq (own_b1 (hv68.trans (if_pos h239_77)))).1) ?_
      show Steps p.tables e below (T74.setTop (mkF m 242 A75 [])) _
      refine XS.iloadN X74.here hx rfl (hb hby at_242) rfl ?_
      show Steps p.tables e below (T74.setTop (mkF m 243 A75 [(.int p0_2)])) _
      refine XS.goto X74.here hx rfl (pc0 := 243) (pc' := 247) rfl (hb hby at_243) (by decide) (by decide) ?_
      exact k
    · refine ⟨T74, _, X74, N74, e74, fun t k => ?_⟩
      rw [show v78 = p0_3 from hv78.trans (if_neg h239_77)] at k
      show Steps p.tables e below (T74.setTop (mkF m 239 A75 [(.int v68)])) _
      refine XS.ifYes X74.here hx rfl (pc0 := 239) (pc' := 246) rfl (hb hby at_239) rfl ((if0 _ _).trans (teq (hv68.trans (if_neg h239_77))).1) (by decide) (by decide) ?_
      show Steps p.tables e below (T74.setTop (mkF m 246 A75 [])) _
      refine XS.iloadN X74.here hx rfl (hb hby at_246) rfl ?_
      exact k)
  let A80 : Array Slot := #[.val (.int p0_0), .val (.int p0_1), .val (.int p0_2), .val (.int p0_3), .val (.long q0_4), .second, .val (.long q0_5), .second, .val (.long x2), .second, .val (.long (q0_5 &&& (65535 : Int64))), .second, .val (.long x5), .second, .val (.long x7), .second, .val (.long x9), .second, .val (.int x11), .val (.int v15), .val (.long (x2 + x5)), .second, .val (.long ((x2 + x5) + x7)), .second, .val (.long (((x2 + x5) + x7) + x9)), .second, .val (.int ((p0_2 + x11) - (1 : Int32))), .val (.ref b22), .val (.int x31), .val (.int x42), .val (.int y34), .val (.int y36), .val (.long x49), .second, .val (.long y38), .second, .val (.int x54), .val (.long ((q0_5 &&& (65535 : Int64)) + x7)), .second, .val (.int v61), .val (.int v68), .val (.int v73), .val (.int v78), .unset, .unset, .unset, .unset, .unset, .unset, .unset, .unset, .unset, .unset, .unset, .unset, .unset]
  have G81 : ∀ t, Steps p.tables e below (T79.setTop (mkF m 251 A80 [(.int v68)])) t → Steps p.tables e below (T79.setTop (mkF m 247 A75 [(.int v78)])) t := by
    intro t k
    show Steps p.tables e below (T79.setTop (mkF m 247 A75 [(.int v78)])) _
    refine XS.istore X79.here hx rfl (hb hby at_247) rfl (l' := A80) rfl ?_
    show Steps p.tables e below (T79.setTop (mkF m 249 A80 [])) _
    refine XS.iload X79.here hx rfl (hb hby at_249) rfl ?_
    exact k
  obtain ⟨v83, hv83⟩ : ∃ z : Int64, z = (if (((q0_5 &&& (65535 : Int64)) < (5000 : Int64) ∧ (p0_1 < p0_0 ∧ ¬ ((p0_1 = (-1 : Int32) ∧ ¬ ((0 : Int32) < p0_2))))) ∧ ¬ ((((q0_5 &&& (65535 : Int64)) < (5000 : Int64) ∧ (p0_1 < p0_0 ∧ ¬ ((p0_1 = (-1 : Int32) ∧ ¬ ((0 : Int32) < p0_2))))) ∧ ¬ (((q0_5 &&& (65535 : Int64)) + x7) < (5000 : Int64))))) then ((q0_5 &&& (65535 : Int64)) + x7) else (0 : Int64)) := ⟨_, rfl⟩
  obtain ⟨T84, Lo84, X84, N84, e84, G84⟩ := own_join X79 N79 (h := T33.heap) (mkF m 251 A80 [(.int v68)]) (mkF m 260 A80 [(.long v83)]) (by
    by_cases h251_82 : (((q0_5 &&& (65535 : Int64)) < (5000 : Int64) ∧ (p0_1 < p0_0 ∧ ¬ ((p0_1 = (-1 : Int32) ∧ ¬ ((0 : Int32) < p0_2))))) ∧ ¬ ((((q0_5 &&& (65535 : Int64)) < (5000 : Int64) ∧ (p0_1 < p0_0 ∧ ¬ ((p0_1 = (-1 : Int32) ∧ ¬ ((0 : Int32) < p0_2))))) ∧ ¬ (((q0_5 &&& (65535 : Int64)) + x7) < (5000 : Int64)))))
    · refine ⟨T79, _, X79, N79, e79, fun t k => ?_⟩
      rw [show v83 = ((q0_5 &&& (65535 : Int64)) + x7) from hv83.trans (if_pos h251_82)] at k
      show Steps p.tables e below (T79.setTop (mkF m 251 A80 [(.int v68)])) _
      refine XS.ifNo X79.here hx rfl (hb hby at_251) rfl ((if0 _ _).trans (feq (own_b1 (hv68.trans (if_pos h251_82)))).1) ?_
      show Steps p.tables e below (T79.setTop (mkF m 254 A80 [])) _
      refine XS.lload X79.here hx rfl (hb hby at_254) rfl ?_
      show Steps p.tables e below (T79.setTop (mkF m 256 A80 [(.long ((q0_5 &&& (65535 : Int64)) + x7))])) _
      refine XS.goto X79.here hx rfl (pc0 := 256) (pc' := 260) rfl (hb hby at_256) (by decide) (by decide) ?_
      exact k
    · refine ⟨T79, _, X79, N79, e79, fun t k => ?_⟩
      rw [show v83 = (0 : Int64) from hv83.trans (if_neg h251_82)] at k
      show Steps p.tables e below (T79.setTop (mkF m 251 A80 [(.int v68)])) _
      refine XS.ifYes X79.here hx rfl (pc0 := 251) (pc' := 259) rfl (hb hby at_251) rfl ((if0 _ _).trans (teq (hv68.trans (if_neg h251_82))).1) (by decide) (by decide) ?_
      show Steps p.tables e below (T79.setTop (mkF m 259 A80 [])) _
      refine XS.lconst X79.here hx rfl (hb hby at_259) ?_
      exact k)
  let A85 : Array Slot := #[.val (.int p0_0), .val (.int p0_1), .val (.int p0_2), .val (.int p0_3), .val (.long q0_4), .second, .val (.long q0_5), .second, .val (.long x2), .second, .val (.long (q0_5 &&& (65535 : Int64))), .second, .val (.long x5), .second, .val (.long x7), .second, .val (.long x9), .second, .val (.int x11), .val (.int v15), .val (.long (x2 + x5)), .second, .val (.long ((x2 + x5) + x7)), .second, .val (.long (((x2 + x5) + x7) + x9)), .second, .val (.int ((p0_2 + x11) - (1 : Int32))), .val (.ref b22), .val (.int x31), .val (.int x42), .val (.int y34), .val (.int y36), .val (.long x49), .second, .val (.long y38), .second, .val (.int x54), .val (.long ((q0_5 &&& (65535 : Int64)) + x7)), .second, .val (.int v61), .val (.int v68), .val (.int v73), .val (.int v78), .val (.long v83), .second, .unset, .unset, .unset, .unset, .unset, .unset, .unset, .unset, .unset, .unset, .unset]
  have G86 : ∀ t, Steps p.tables e below (T84.setTop (mkF m 264 A85 [(.int x31)])) t → Steps p.tables e below (T84.setTop (mkF m 260 A80 [(.long v83)])) t := by
    intro t k
    show Steps p.tables e below (T84.setTop (mkF m 260 A80 [(.long v83)])) _
    refine XS.lstore X84.here hx rfl (hb hby at_260) rfl (l' := A85) rfl ?_
    show Steps p.tables e below (T84.setTop (mkF m 262 A85 [])) _
    refine XS.iload X84.here hx rfl (hb hby at_262) rfl ?_
    exact k
  obtain ⟨v90, hv90⟩ : ∃ z : Int64, z = (if ((q0_5 &&& (65535 : Int64)) < (5000 : Int64) ∧ (p0_1 < p0_0 ∧ ¬ ((p0_1 = (-1 : Int32) ∧ ¬ ((0 : Int32) < p0_2))))) then (if (((q0_5 &&& (65535 : Int64)) < (5000 : Int64) ∧ (p0_1 < p0_0 ∧ ¬ ((p0_1 = (-1 : Int32) ∧ ¬ ((0 : Int32) < p0_2))))) ∧ ¬ (((q0_5 &&& (65535 : Int64)) + x7) < (5000 : Int64))) then ((x2 + x5) + x7) else (x2 + x5)) else x2) := ⟨_, rfl⟩
  obtain ⟨T91, Lo91, X91, N91, e91, G91⟩ := own_join X84 N84 (h := T33.heap) (mkF m 264 A85 [(.int x31)]) (mkF m 284 A85 [(.long v90)]) (by
    by_cases h264_87 : ((q0_5 &&& (65535 : Int64)) < (5000 : Int64) ∧ (p0_1 < p0_0 ∧ ¬ ((p0_1 = (-1 : Int32) ∧ ¬ ((0 : Int32) < p0_2)))))
    · have G88 : ∀ t, Steps p.tables e below (T84.setTop (mkF m 269 A85 [(.int v61)])) t → Steps p.tables e below (T84.setTop (mkF m 264 A85 [(.int x31)])) t := by
        intro t k
        show Steps p.tables e below (T84.setTop (mkF m 264 A85 [(.int x31)])) _
        refine XS.ifNo X84.here hx rfl (hb hby at_264) rfl ((if0 _ _).trans (feq (own_b1 (hx31.trans (if_pos h264_87)))).1) ?_
        show Steps p.tables e below (T84.setTop (mkF m 267 A85 [])) _
        refine XS.iload X84.here hx rfl (hb hby at_267) rfl ?_
        exact k
      by_cases h269_89 : (((q0_5 &&& (65535 : Int64)) < (5000 : Int64) ∧ (p0_1 < p0_0 ∧ ¬ ((p0_1 = (-1 : Int32) ∧ ¬ ((0 : Int32) < p0_2))))) ∧ ¬ (((q0_5 &&& (65535 : Int64)) + x7) < (5000 : Int64)))
      · refine ⟨T84, _, X84, N84, e84, fun t k => ?_⟩
        rw [show v90 = ((x2 + x5) + x7) from hv90.trans ((if_pos h264_87).trans (if_pos h269_89))] at k
        refine G88 _ ?_
        show Steps p.tables e below (T84.setTop (mkF m 269 A85 [(.int v61)])) _
        refine XS.ifNo X84.here hx rfl (hb hby at_269) rfl ((if0 _ _).trans (feq (own_b1 (hv61.trans (if_pos h269_89)))).1) ?_
        show Steps p.tables e below (T84.setTop (mkF m 272 A85 [])) _
        refine XS.lload X84.here hx rfl (hb hby at_272) rfl ?_
        show Steps p.tables e below (T84.setTop (mkF m 274 A85 [(.long ((x2 + x5) + x7))])) _
        refine XS.goto X84.here hx rfl (pc0 := 274) (pc' := 284) rfl (hb hby at_274) (by decide) (by decide) ?_
        exact k
      · refine ⟨T84, _, X84, N84, e84, fun t k => ?_⟩
        rw [show v90 = (x2 + x5) from hv90.trans ((if_pos h264_87).trans (if_neg h269_89))] at k
        refine G88 _ ?_
        show Steps p.tables e below (T84.setTop (mkF m 269 A85 [(.int v61)])) _
        refine XS.ifYes X84.here hx rfl (pc0 := 269) (pc' := 277) rfl (hb hby at_269) rfl ((if0 _ _).trans (teq (hv61.trans (if_neg h269_89))).1) (by decide) (by decide) ?_
        show Steps p.tables e below (T84.setTop (mkF m 277 A85 [])) _
        refine XS.lload X84.here hx rfl (hb hby at_277) rfl ?_
        show Steps p.tables e below (T84.setTop (mkF m 279 A85 [(.long (x2 + x5))])) _
        refine XS.goto X84.here hx rfl (pc0 := 279) (pc' := 284) rfl (hb hby at_279) (by decide) (by decide) ?_
        exact k
    · refine ⟨T84, _, X84, N84, e84, fun t k => ?_⟩
      rw [show v90 = x2 from hv90.trans (if_neg h264_87)] at k
      show Steps p.tables e below (T84.setTop (mkF m 264 A85 [(.int x31)])) _
      refine XS.ifYes X84.here hx rfl (pc0 := 264) (pc' := 282) rfl (hb hby at_264) rfl ((if0 _ _).trans (teq (hx31.trans (if_neg h264_87))).1) (by decide) (by decide) ?_
      show Steps p.tables e below (T84.setTop (mkF m 282 A85 [])) _
      refine XS.lload X84.here hx rfl (hb hby at_282) rfl ?_
      exact k)
  let A92 : Array Slot := #[.val (.int p0_0), .val (.int p0_1), .val (.int p0_2), .val (.int p0_3), .val (.long q0_4), .second, .val (.long q0_5), .second, .val (.long x2), .second, .val (.long (q0_5 &&& (65535 : Int64))), .second, .val (.long x5), .second, .val (.long x7), .second, .val (.long x9), .second, .val (.int x11), .val (.int v15), .val (.long (x2 + x5)), .second, .val (.long ((x2 + x5) + x7)), .second, .val (.long (((x2 + x5) + x7) + x9)), .second, .val (.int ((p0_2 + x11) - (1 : Int32))), .val (.ref b22), .val (.int x31), .val (.int x42), .val (.int y34), .val (.int y36), .val (.long x49), .second, .val (.long y38), .second, .val (.int x54), .val (.long ((q0_5 &&& (65535 : Int64)) + x7)), .second, .val (.int v61), .val (.int v68), .val (.int v73), .val (.int v78), .val (.long v83), .second, .val (.long v90), .second, .unset, .unset, .unset, .unset, .unset, .unset, .unset, .unset, .unset]
  have G93 : ∀ t, Steps p.tables e below (T91.setTop (mkF m 288 A92 [(.int x31)])) t → Steps p.tables e below (T91.setTop (mkF m 284 A85 [(.long v90)])) t := by
    intro t k
    show Steps p.tables e below (T91.setTop (mkF m 284 A85 [(.long v90)])) _
    refine XS.lstore X91.here hx rfl (hb hby at_284) rfl (l' := A92) rfl ?_
    show Steps p.tables e below (T91.setTop (mkF m 286 A92 [])) _
    refine XS.iload X91.here hx rfl (hb hby at_286) rfl ?_
    exact k
  obtain ⟨v97, hv97⟩ : ∃ z : Int32, z = (if (((q0_5 &&& (65535 : Int64)) < (5000 : Int64) ∧ (p0_1 < p0_0 ∧ ¬ ((p0_1 = (-1 : Int32) ∧ ¬ ((0 : Int32) < p0_2))))) ∧ ¬ (x7 < (1000 : Int64))) then (1 : Int32) else (0 : Int32)) := ⟨_, rfl⟩
  obtain ⟨T98, Lo98, X98, N98, e98, G98⟩ := own_join X91 N91 (h := T33.heap) (mkF m 288 A92 [(.int x31)]) (mkF m 305 A92 [(.int v97)]) (by
    by_cases h288_94 : ((q0_5 &&& (65535 : Int64)) < (5000 : Int64) ∧ (p0_1 < p0_0 ∧ ¬ ((p0_1 = (-1 : Int32) ∧ ¬ ((0 : Int32) < p0_2)))))
    · have G95 : ∀ t, Steps p.tables e below (T91.setTop (mkF m 297 A92 [(.int (lcmpW x7 (1000 : Int64)))])) t → Steps p.tables e below (T91.setTop (mkF m 288 A92 [(.int x31)])) t := by
        intro t k
        show Steps p.tables e below (T91.setTop (mkF m 288 A92 [(.int x31)])) _
        refine XS.ifNo X91.here hx rfl (hb hby at_288) rfl ((if0 _ _).trans (feq (own_b1 (hx31.trans (if_pos h288_94)))).1) ?_
        show Steps p.tables e below (T91.setTop (mkF m 291 A92 [])) _
        refine XS.lload X91.here hx rfl (hb hby at_291) rfl ?_
        show Steps p.tables e below (T91.setTop (mkF m 293 A92 [(.long x7)])) _
        refine X91.ldc2Long hx hown (mvT hZ (ow65 hw)) (g := (mkF m 293 A92 [(.long x7)])) rfl (hb hby at_293) _ ?_
        show Steps p.tables e below (T91.setTop (mkF m 296 A92 [(.long (1000 : Int64)), (.long x7)])) _
        refine XS.lcmp X91.here hx rfl (hb hby at_296) rfl ?_
        exact k
      by_cases h297_96 : x7 < (1000 : Int64)
      · refine ⟨T91, _, X91, N91, e91, fun t k => ?_⟩
        rw [show v97 = (0 : Int32) from hv97.trans (if_neg (fun q => (fun q => q h297_96) q.2))] at k
        refine G95 _ ?_
        show Steps p.tables e below (T91.setTop (mkF m 297 A92 [(.int (lcmpW x7 (1000 : Int64)))])) _
        refine XS.ifYes X91.here hx rfl (pc0 := 297) (pc' := 304) rfl (hb hby at_297) rfl ((if0 _ _).trans (tlt ((lw_lt _ _).mpr h297_96)).1) (by decide) (by decide) ?_
        show Steps p.tables e below (T91.setTop (mkF m 304 A92 [])) _
        refine XS.iconst X91.here hx rfl (hb hby at_304) ?_
        exact k
      · refine ⟨T91, _, X91, N91, e91, fun t k => ?_⟩
        rw [show v97 = (1 : Int32) from hv97.trans (if_pos ⟨h288_94, h297_96⟩)] at k
        refine G95 _ ?_
        show Steps p.tables e below (T91.setTop (mkF m 297 A92 [(.int (lcmpW x7 (1000 : Int64)))])) _
        refine XS.ifNo X91.here hx rfl (hb hby at_297) rfl ((if0 _ _).trans (flt (fun q => h297_96 ((lw_lt _ _).mp q))).1) ?_
        show Steps p.tables e below (T91.setTop (mkF m 300 A92 [])) _
        refine XS.iconst X91.here hx rfl (hb hby at_300) ?_
        show Steps p.tables e below (T91.setTop (mkF m 301 A92 [(.int (1 : Int32))])) _
        refine XS.goto X91.here hx rfl (pc0 := 301) (pc' := 305) rfl (hb hby at_301) (by decide) (by decide) ?_
        exact k
    · refine ⟨T91, _, X91, N91, e91, fun t k => ?_⟩
      rw [show v97 = (0 : Int32) from hv97.trans (if_neg (fun q => h288_94 q.1))] at k
      show Steps p.tables e below (T91.setTop (mkF m 288 A92 [(.int x31)])) _
      refine XS.ifYes X91.here hx rfl (pc0 := 288) (pc' := 304) rfl (hb hby at_288) rfl ((if0 _ _).trans (teq (hx31.trans (if_neg h288_94))).1) (by decide) (by decide) ?_
      show Steps p.tables e below (T91.setTop (mkF m 304 A92 [])) _
      refine XS.iconst X91.here hx rfl (hb hby at_304) ?_
      exact k)
  let A99 : Array Slot := #[.val (.int p0_0), .val (.int p0_1), .val (.int p0_2), .val (.int p0_3), .val (.long q0_4), .second, .val (.long q0_5), .second, .val (.long x2), .second, .val (.long (q0_5 &&& (65535 : Int64))), .second, .val (.long x5), .second, .val (.long x7), .second, .val (.long x9), .second, .val (.int x11), .val (.int v15), .val (.long (x2 + x5)), .second, .val (.long ((x2 + x5) + x7)), .second, .val (.long (((x2 + x5) + x7) + x9)), .second, .val (.int ((p0_2 + x11) - (1 : Int32))), .val (.ref b22), .val (.int x31), .val (.int x42), .val (.int y34), .val (.int y36), .val (.long x49), .second, .val (.long y38), .second, .val (.int x54), .val (.long ((q0_5 &&& (65535 : Int64)) + x7)), .second, .val (.int v61), .val (.int v68), .val (.int v73), .val (.int v78), .val (.long v83), .second, .val (.long v90), .second, .val (.int v97), .unset, .unset, .unset, .unset, .unset, .unset, .unset, .unset]
  have G100 : ∀ t, Steps p.tables e below (T98.setTop (mkF m 309 A99 [(.int v97)])) t → Steps p.tables e below (T98.setTop (mkF m 305 A92 [(.int v97)])) t := by
    intro t k
    show Steps p.tables e below (T98.setTop (mkF m 305 A92 [(.int v97)])) _
    refine XS.istore X98.here hx rfl (hb hby at_305) rfl (l' := A99) rfl ?_
    show Steps p.tables e below (T98.setTop (mkF m 307 A99 [])) _
    refine XS.iload X98.here hx rfl (hb hby at_307) rfl ?_
    exact k
  obtain ⟨v106, hv106⟩ : ∃ z : Int32, z = (if ((((q0_5 &&& (65535 : Int64)) < (5000 : Int64) ∧ (p0_1 < p0_0 ∧ ¬ ((p0_1 = (-1 : Int32) ∧ ¬ ((0 : Int32) < p0_2))))) ∧ ¬ (x7 < (1000 : Int64))) ∧ ((((q0_5 &&& (65535 : Int64)) < (5000 : Int64) ∧ (p0_1 < p0_0 ∧ ¬ ((p0_1 = (-1 : Int32) ∧ ¬ ((0 : Int32) < p0_2))))) ∧ ¬ ((((q0_5 &&& (65535 : Int64)) < (5000 : Int64) ∧ (p0_1 < p0_0 ∧ ¬ ((p0_1 = (-1 : Int32) ∧ ¬ ((0 : Int32) < p0_2))))) ∧ ¬ (((q0_5 &&& (65535 : Int64)) + x7) < (5000 : Int64))))) ∧ ¬ (((q0_5 &&& (65535 : Int64)) + x7) < (2500 : Int64)))) then (1 : Int32) else (0 : Int32)) := ⟨_, rfl⟩
  obtain ⟨T107, Lo107, X107, N107, e107, G107⟩ := own_join X98 N98 (h := T33.heap) (mkF m 309 A99 [(.int v97)]) (mkF m 331 A99 [(.int v106)]) (by
    by_cases h309_101 : (((q0_5 &&& (65535 : Int64)) < (5000 : Int64) ∧ (p0_1 < p0_0 ∧ ¬ ((p0_1 = (-1 : Int32) ∧ ¬ ((0 : Int32) < p0_2))))) ∧ ¬ (x7 < (1000 : Int64)))
    · have G102 : ∀ t, Steps p.tables e below (T98.setTop (mkF m 314 A99 [(.int v68)])) t → Steps p.tables e below (T98.setTop (mkF m 309 A99 [(.int v97)])) t := by
        intro t k
        show Steps p.tables e below (T98.setTop (mkF m 309 A99 [(.int v97)])) _
        refine XS.ifNo X98.here hx rfl (hb hby at_309) rfl ((if0 _ _).trans (feq (own_b1 (hv97.trans (if_pos h309_101)))).1) ?_
        show Steps p.tables e below (T98.setTop (mkF m 312 A99 [])) _
        refine XS.iload X98.here hx rfl (hb hby at_312) rfl ?_
        exact k
      by_cases h314_103 : (((q0_5 &&& (65535 : Int64)) < (5000 : Int64) ∧ (p0_1 < p0_0 ∧ ¬ ((p0_1 = (-1 : Int32) ∧ ¬ ((0 : Int32) < p0_2))))) ∧ ¬ ((((q0_5 &&& (65535 : Int64)) < (5000 : Int64) ∧ (p0_1 < p0_0 ∧ ¬ ((p0_1 = (-1 : Int32) ∧ ¬ ((0 : Int32) < p0_2))))) ∧ ¬ (((q0_5 &&& (65535 : Int64)) + x7) < (5000 : Int64)))))
      · have G104 : ∀ t, Steps p.tables e below (T98.setTop (mkF m 323 A99 [(.int (lcmpW ((q0_5 &&& (65535 : Int64)) + x7) (2500 : Int64)))])) t → Steps p.tables e below (T98.setTop (mkF m 314 A99 [(.int v68)])) t := by
          intro t k
          show Steps p.tables e below (T98.setTop (mkF m 314 A99 [(.int v68)])) _
          refine XS.ifNo X98.here hx rfl (hb hby at_314) rfl ((if0 _ _).trans (feq (own_b1 (hv68.trans (if_pos h314_103)))).1) ?_
          show Steps p.tables e below (T98.setTop (mkF m 317 A99 [])) _
          refine XS.lload X98.here hx rfl (hb hby at_317) rfl ?_
          show Steps p.tables e below (T98.setTop (mkF m 319 A99 [(.long ((q0_5 &&& (65535 : Int64)) + x7))])) _
          refine X98.ldc2Long hx hown (mvT hZ (ow69 hw)) (g := (mkF m 319 A99 [(.long ((q0_5 &&& (65535 : Int64)) + x7))])) rfl (hb hby at_319) _ ?_
          show Steps p.tables e below (T98.setTop (mkF m 322 A99 [(.long (2500 : Int64)), (.long ((q0_5 &&& (65535 : Int64)) + x7))])) _
          refine XS.lcmp X98.here hx rfl (hb hby at_322) rfl ?_
          exact k
        by_cases h323_105 : ((q0_5 &&& (65535 : Int64)) + x7) < (2500 : Int64)
        · refine ⟨T98, _, X98, N98, e98, fun t k => ?_⟩
          rw [show v106 = (0 : Int32) from hv106.trans (if_neg (fun q => (fun q => (fun q => q h323_105) q.2) q.2))] at k
          refine G102 _ ?_
          refine G104 _ ?_
          show Steps p.tables e below (T98.setTop (mkF m 323 A99 [(.int (lcmpW ((q0_5 &&& (65535 : Int64)) + x7) (2500 : Int64)))])) _
          refine XS.ifYes X98.here hx rfl (pc0 := 323) (pc' := 330) rfl (hb hby at_323) rfl ((if0 _ _).trans (tlt ((lw_lt _ _).mpr h323_105)).1) (by decide) (by decide) ?_
          show Steps p.tables e below (T98.setTop (mkF m 330 A99 [])) _
          refine XS.iconst X98.here hx rfl (hb hby at_330) ?_
          exact k
        · refine ⟨T98, _, X98, N98, e98, fun t k => ?_⟩
          rw [show v106 = (1 : Int32) from hv106.trans (if_pos ⟨h309_101, ⟨h314_103, h323_105⟩⟩)] at k
          refine G102 _ ?_
          refine G104 _ ?_
          show Steps p.tables e below (T98.setTop (mkF m 323 A99 [(.int (lcmpW ((q0_5 &&& (65535 : Int64)) + x7) (2500 : Int64)))])) _
          refine XS.ifNo X98.here hx rfl (hb hby at_323) rfl ((if0 _ _).trans (flt (fun q => h323_105 ((lw_lt _ _).mp q))).1) ?_
          show Steps p.tables e below (T98.setTop (mkF m 326 A99 [])) _
          refine XS.iconst X98.here hx rfl (hb hby at_326) ?_
          show Steps p.tables e below (T98.setTop (mkF m 327 A99 [(.int (1 : Int32))])) _
          refine XS.goto X98.here hx rfl (pc0 := 327) (pc' := 331) rfl (hb hby at_327) (by decide) (by decide) ?_
          exact k
      · refine ⟨T98, _, X98, N98, e98, fun t k => ?_⟩
        rw [show v106 = (0 : Int32) from hv106.trans (if_neg (fun q => (fun q => h314_103 q.1) q.2))] at k
        refine G102 _ ?_
        show Steps p.tables e below (T98.setTop (mkF m 314 A99 [(.int v68)])) _
        refine XS.ifYes X98.here hx rfl (pc0 := 314) (pc' := 330) rfl (hb hby at_314) rfl ((if0 _ _).trans (teq (hv68.trans (if_neg h314_103))).1) (by decide) (by decide) ?_
        show Steps p.tables e below (T98.setTop (mkF m 330 A99 [])) _
        refine XS.iconst X98.here hx rfl (hb hby at_330) ?_
        exact k
    · refine ⟨T98, _, X98, N98, e98, fun t k => ?_⟩
      rw [show v106 = (0 : Int32) from hv106.trans (if_neg (fun q => h309_101 q.1))] at k
      show Steps p.tables e below (T98.setTop (mkF m 309 A99 [(.int v97)])) _
      refine XS.ifYes X98.here hx rfl (pc0 := 309) (pc' := 330) rfl (hb hby at_309) rfl ((if0 _ _).trans (teq (hv97.trans (if_neg h309_101))).1) (by decide) (by decide) ?_
      show Steps p.tables e below (T98.setTop (mkF m 330 A99 [])) _
      refine XS.iconst X98.here hx rfl (hb hby at_330) ?_
      exact k)
  let A108 : Array Slot := #[.val (.int p0_0), .val (.int p0_1), .val (.int p0_2), .val (.int p0_3), .val (.long q0_4), .second, .val (.long q0_5), .second, .val (.long x2), .second, .val (.long (q0_5 &&& (65535 : Int64))), .second, .val (.long x5), .second, .val (.long x7), .second, .val (.long x9), .second, .val (.int x11), .val (.int v15), .val (.long (x2 + x5)), .second, .val (.long ((x2 + x5) + x7)), .second, .val (.long (((x2 + x5) + x7) + x9)), .second, .val (.int ((p0_2 + x11) - (1 : Int32))), .val (.ref b22), .val (.int x31), .val (.int x42), .val (.int y34), .val (.int y36), .val (.long x49), .second, .val (.long y38), .second, .val (.int x54), .val (.long ((q0_5 &&& (65535 : Int64)) + x7)), .second, .val (.int v61), .val (.int v68), .val (.int v73), .val (.int v78), .val (.long v83), .second, .val (.long v90), .second, .val (.int v97), .val (.int v106), .unset, .unset, .unset, .unset, .unset, .unset, .unset]
  have G109 : ∀ t, Steps p.tables e below (T107.setTop (mkF m 337 A108 [(.int v61), (.int x42)])) t → Steps p.tables e below (T107.setTop (mkF m 331 A99 [(.int v106)])) t := by
    intro t k
    show Steps p.tables e below (T107.setTop (mkF m 331 A99 [(.int v106)])) _
    refine XS.istore X107.here hx rfl (hb hby at_331) rfl (l' := A108) rfl ?_
    show Steps p.tables e below (T107.setTop (mkF m 333 A108 [])) _
    refine XS.iload X107.here hx rfl (hb hby at_333) rfl ?_
    show Steps p.tables e below (T107.setTop (mkF m 335 A108 [(.int x42)])) _
    refine XS.iload X107.here hx rfl (hb hby at_335) rfl ?_
    exact k
  obtain ⟨v121, hv121⟩ : ∃ z : Int32, z = (if (x42 = v61 ∧ (y34 = v73 ∧ (y36 = v78 ∧ (x49 = v83 ∧ (y38 = v90 ∧ x54 = v106))))) then (1 : Int32) else (0 : Int32)) := ⟨_, rfl⟩
  obtain ⟨T122, Lo122, X122, N122, e122, G122⟩ := own_join X107 N107 (h := T33.heap) (mkF m 337 A108 [(.int v61), (.int x42)]) (mkF m 382 A108 [(.int v121)]) (by
    by_cases h337_110 : x42 = v61
    · have G111 : ∀ t, Steps p.tables e below (T107.setTop (mkF m 344 A108 [(.int v73), (.int y34)])) t → Steps p.tables e below (T107.setTop (mkF m 337 A108 [(.int v61), (.int x42)])) t := by
        intro t k
        show Steps p.tables e below (T107.setTop (mkF m 337 A108 [(.int v61), (.int x42)])) _
        refine XS.icmpNo X107.here hx rfl (hb hby at_337) rfl (teq h337_110).2 ?_
        show Steps p.tables e below (T107.setTop (mkF m 340 A108 [])) _
        refine XS.iload X107.here hx rfl (hb hby at_340) rfl ?_
        show Steps p.tables e below (T107.setTop (mkF m 342 A108 [(.int y34)])) _
        refine XS.iload X107.here hx rfl (hb hby at_342) rfl ?_
        exact k
      by_cases h344_112 : y34 = v73
      · have G113 : ∀ t, Steps p.tables e below (T107.setTop (mkF m 351 A108 [(.int v78), (.int y36)])) t → Steps p.tables e below (T107.setTop (mkF m 344 A108 [(.int v73), (.int y34)])) t := by
          intro t k
          show Steps p.tables e below (T107.setTop (mkF m 344 A108 [(.int v73), (.int y34)])) _
          refine XS.icmpNo X107.here hx rfl (hb hby at_344) rfl (teq h344_112).2 ?_
          show Steps p.tables e below (T107.setTop (mkF m 347 A108 [])) _
          refine XS.iload X107.here hx rfl (hb hby at_347) rfl ?_
          show Steps p.tables e below (T107.setTop (mkF m 349 A108 [(.int y36)])) _
          refine XS.iload X107.here hx rfl (hb hby at_349) rfl ?_
          exact k
        by_cases h351_114 : y36 = v78
        · have G115 : ∀ t, Steps p.tables e below (T107.setTop (mkF m 359 A108 [(.int (lcmpW x49 v83))])) t → Steps p.tables e below (T107.setTop (mkF m 351 A108 [(.int v78), (.int y36)])) t := by
            intro t k
            show Steps p.tables e below (T107.setTop (mkF m 351 A108 [(.int v78), (.int y36)])) _
            refine XS.icmpNo X107.here hx rfl (hb hby at_351) rfl (teq h351_114).2 ?_
            show Steps p.tables e below (T107.setTop (mkF m 354 A108 [])) _
            refine XS.lload X107.here hx rfl (hb hby at_354) rfl ?_
            show Steps p.tables e below (T107.setTop (mkF m 356 A108 [(.long x49)])) _
            refine XS.lload X107.here hx rfl (hb hby at_356) rfl ?_
            show Steps p.tables e below (T107.setTop (mkF m 358 A108 [(.long v83), (.long x49)])) _
            refine XS.lcmp X107.here hx rfl (hb hby at_358) rfl ?_
            exact k
          by_cases h359_116 : x49 = v83
          · have G117 : ∀ t, Steps p.tables e below (T107.setTop (mkF m 367 A108 [(.int (lcmpW y38 v90))])) t → Steps p.tables e below (T107.setTop (mkF m 359 A108 [(.int (lcmpW x49 v83))])) t := by
              intro t k
              show Steps p.tables e below (T107.setTop (mkF m 359 A108 [(.int (lcmpW x49 v83))])) _
              refine XS.ifNo X107.here hx rfl (hb hby at_359) rfl ((if0 _ _).trans (teq ((lw_eq _ _).mpr h359_116)).2) ?_
              show Steps p.tables e below (T107.setTop (mkF m 362 A108 [])) _
              refine XS.lload X107.here hx rfl (hb hby at_362) rfl ?_
              show Steps p.tables e below (T107.setTop (mkF m 364 A108 [(.long y38)])) _
              refine XS.lload X107.here hx rfl (hb hby at_364) rfl ?_
              show Steps p.tables e below (T107.setTop (mkF m 366 A108 [(.long v90), (.long y38)])) _
              refine XS.lcmp X107.here hx rfl (hb hby at_366) rfl ?_
              exact k
            by_cases h367_118 : y38 = v90
            · have G119 : ∀ t, Steps p.tables e below (T107.setTop (mkF m 374 A108 [(.int v106), (.int x54)])) t → Steps p.tables e below (T107.setTop (mkF m 367 A108 [(.int (lcmpW y38 v90))])) t := by
                intro t k
                show Steps p.tables e below (T107.setTop (mkF m 367 A108 [(.int (lcmpW y38 v90))])) _
                refine XS.ifNo X107.here hx rfl (hb hby at_367) rfl ((if0 _ _).trans (teq ((lw_eq _ _).mpr h367_118)).2) ?_
                show Steps p.tables e below (T107.setTop (mkF m 370 A108 [])) _
                refine XS.iload X107.here hx rfl (hb hby at_370) rfl ?_
                show Steps p.tables e below (T107.setTop (mkF m 372 A108 [(.int x54)])) _
                refine XS.iload X107.here hx rfl (hb hby at_372) rfl ?_
                exact k
              by_cases h374_120 : x54 = v106
              · refine ⟨T107, _, X107, N107, e107, fun t k => ?_⟩
                rw [show v121 = (1 : Int32) from hv121.trans (if_pos ⟨h337_110, ⟨h344_112, ⟨h351_114, ⟨h359_116, ⟨h367_118, h374_120⟩⟩⟩⟩⟩)] at k
                refine G111 _ ?_
                refine G113 _ ?_
                refine G115 _ ?_
                refine G117 _ ?_
                refine G119 _ ?_
                show Steps p.tables e below (T107.setTop (mkF m 374 A108 [(.int v106), (.int x54)])) _
                refine XS.icmpNo X107.here hx rfl (hb hby at_374) rfl (teq h374_120).2 ?_
                show Steps p.tables e below (T107.setTop (mkF m 377 A108 [])) _
                refine XS.iconst X107.here hx rfl (hb hby at_377) ?_
                show Steps p.tables e below (T107.setTop (mkF m 378 A108 [(.int (1 : Int32))])) _
                refine XS.goto X107.here hx rfl (pc0 := 378) (pc' := 382) rfl (hb hby at_378) (by decide) (by decide) ?_
                exact k
              · refine ⟨T107, _, X107, N107, e107, fun t k => ?_⟩
                rw [show v121 = (0 : Int32) from hv121.trans (if_neg (fun q => (fun q => (fun q => (fun q => (fun q => h374_120 q.2) q.2) q.2) q.2) q.2))] at k
                refine G111 _ ?_
                refine G113 _ ?_
                refine G115 _ ?_
                refine G117 _ ?_
                refine G119 _ ?_
                show Steps p.tables e below (T107.setTop (mkF m 374 A108 [(.int v106), (.int x54)])) _
                refine XS.icmpYes X107.here hx rfl (pc0 := 374) (pc' := 381) rfl (hb hby at_374) rfl (feq h374_120).2 (by decide) (by decide) ?_
                show Steps p.tables e below (T107.setTop (mkF m 381 A108 [])) _
                refine XS.iconst X107.here hx rfl (hb hby at_381) ?_
                exact k
            · refine ⟨T107, _, X107, N107, e107, fun t k => ?_⟩
              rw [show v121 = (0 : Int32) from hv121.trans (if_neg (fun q => (fun q => (fun q => (fun q => (fun q => h367_118 q.1) q.2) q.2) q.2) q.2))] at k
              refine G111 _ ?_
              refine G113 _ ?_
              refine G115 _ ?_
              refine G117 _ ?_
              show Steps p.tables e below (T107.setTop (mkF m 367 A108 [(.int (lcmpW y38 v90))])) _
              refine XS.ifYes X107.here hx rfl (pc0 := 367) (pc' := 381) rfl (hb hby at_367) rfl ((if0 _ _).trans (feq (fun q => h367_118 ((lw_eq _ _).mp q))).2) (by decide) (by decide) ?_
              show Steps p.tables e below (T107.setTop (mkF m 381 A108 [])) _
              refine XS.iconst X107.here hx rfl (hb hby at_381) ?_
              exact k
          · refine ⟨T107, _, X107, N107, e107, fun t k => ?_⟩
            rw [show v121 = (0 : Int32) from hv121.trans (if_neg (fun q => (fun q => (fun q => (fun q => h359_116 q.1) q.2) q.2) q.2))] at k
            refine G111 _ ?_
            refine G113 _ ?_
            refine G115 _ ?_
            show Steps p.tables e below (T107.setTop (mkF m 359 A108 [(.int (lcmpW x49 v83))])) _
            refine XS.ifYes X107.here hx rfl (pc0 := 359) (pc' := 381) rfl (hb hby at_359) rfl ((if0 _ _).trans (feq (fun q => h359_116 ((lw_eq _ _).mp q))).2) (by decide) (by decide) ?_
            show Steps p.tables e below (T107.setTop (mkF m 381 A108 [])) _
            refine XS.iconst X107.here hx rfl (hb hby at_381) ?_
            exact k
        · refine ⟨T107, _, X107, N107, e107, fun t k => ?_⟩
          rw [show v121 = (0 : Int32) from hv121.trans (if_neg (fun q => (fun q => (fun q => h351_114 q.1) q.2) q.2))] at k
          refine G111 _ ?_
          refine G113 _ ?_
          show Steps p.tables e below (T107.setTop (mkF m 351 A108 [(.int v78), (.int y36)])) _
          refine XS.icmpYes X107.here hx rfl (pc0 := 351) (pc' := 381) rfl (hb hby at_351) rfl (feq h351_114).2 (by decide) (by decide) ?_
          show Steps p.tables e below (T107.setTop (mkF m 381 A108 [])) _
          refine XS.iconst X107.here hx rfl (hb hby at_381) ?_
          exact k
      · refine ⟨T107, _, X107, N107, e107, fun t k => ?_⟩
        rw [show v121 = (0 : Int32) from hv121.trans (if_neg (fun q => (fun q => h344_112 q.1) q.2))] at k
        refine G111 _ ?_
        show Steps p.tables e below (T107.setTop (mkF m 344 A108 [(.int v73), (.int y34)])) _
        refine XS.icmpYes X107.here hx rfl (pc0 := 344) (pc' := 381) rfl (hb hby at_344) rfl (feq h344_112).2 (by decide) (by decide) ?_
        show Steps p.tables e below (T107.setTop (mkF m 381 A108 [])) _
        refine XS.iconst X107.here hx rfl (hb hby at_381) ?_
        exact k
    · refine ⟨T107, _, X107, N107, e107, fun t k => ?_⟩
      rw [show v121 = (0 : Int32) from hv121.trans (if_neg (fun q => h337_110 q.1))] at k
      show Steps p.tables e below (T107.setTop (mkF m 337 A108 [(.int v61), (.int x42)])) _
      refine XS.icmpYes X107.here hx rfl (pc0 := 337) (pc' := 381) rfl (hb hby at_337) rfl (feq h337_110).2 (by decide) (by decide) ?_
      show Steps p.tables e below (T107.setTop (mkF m 381 A108 [])) _
      refine XS.iconst X107.here hx rfl (hb hby at_381) ?_
      exact k)
  let A123 : Array Slot := #[.val (.int p0_0), .val (.int p0_1), .val (.int p0_2), .val (.int p0_3), .val (.long q0_4), .second, .val (.long q0_5), .second, .val (.long x2), .second, .val (.long (q0_5 &&& (65535 : Int64))), .second, .val (.long x5), .second, .val (.long x7), .second, .val (.long x9), .second, .val (.int x11), .val (.int v15), .val (.long (x2 + x5)), .second, .val (.long ((x2 + x5) + x7)), .second, .val (.long (((x2 + x5) + x7) + x9)), .second, .val (.int ((p0_2 + x11) - (1 : Int32))), .val (.ref b22), .val (.int x31), .val (.int x42), .val (.int y34), .val (.int y36), .val (.long x49), .second, .val (.long y38), .second, .val (.int x54), .val (.long ((q0_5 &&& (65535 : Int64)) + x7)), .second, .val (.int v61), .val (.int v68), .val (.int v73), .val (.int v78), .val (.long v83), .second, .val (.long v90), .second, .val (.int v97), .val (.int v106), .val (.int v121), .unset, .unset, .unset, .unset, .unset, .unset]
  have G124 : ∀ t, Steps p.tables e below (T122.setTop (mkF m 386 A123 [(.int v15)])) t → Steps p.tables e below (T122.setTop (mkF m 382 A108 [(.int v121)])) t := by
    intro t k
    show Steps p.tables e below (T122.setTop (mkF m 382 A108 [(.int v121)])) _
    refine XS.istore X122.here hx rfl (hb hby at_382) rfl (l' := A123) rfl ?_
    show Steps p.tables e below (T122.setTop (mkF m 384 A123 [])) _
    refine XS.iload X122.here hx rfl (hb hby at_384) rfl ?_
    exact k
  by_cases h386_125 : (((q0_5.toUInt64 >>> ((62 : Int32) &&& 0x3f).toInt64.toUInt64).toInt64) &&& (1 : Int64)) = (0 : Int64)
  · obtain ⟨cq126, kq126, q126a, q126b, q126c⟩ := isOf hZ e122 P33_1
    obtain ⟨_, _, ⟨T126, L126, k126, n126⟩, -, X126, ⟨Lc126, hQ126, l126, y126, z126⟩, st126⟩ := X122.virtualBack hx (y := (⟨"com/example/halozat/halozat/node/Leader", "heartbeat", "(IIJ)Z"⟩ : MethodName)) (z := (⟨"com/example/halozat/halozat/node/Leader", "heartbeat", "(IIJ)Z"⟩ : MethodName)) hown (mvT hZ (ow29 hw)) (mvT hZ (ow30 hw)) (notFace_of_selects (args := #[]) (mvT hZ (ow32 hw))) (mvT hZ (ow32 hw)) (mvT hZ (ow31 hw)) (by decide) (backOf (W := 0) (rm4 l Z a0 hw [] b22 p0_0 p0_3 (((x2 + x5) + x7) + x9) y34 y39 y35 y36 y37 y38 y40 y41 T33.heap n0 Z33 P33_0 P33_6 P33_1 P33_2 g_b22 P33_3 P33_4 P33_5 P33_7 P33_8) hZ (ow33 hw) (ow5 hw) (by decide) (by decide)) q126a q126c (g := (mkF m 395 A123 [(.long (((x2 + x5) + x7) + x9)), (.int p0_3), (.int p0_0), (.ref b22)])) rfl (by rw [hml]; rfl) (Steps.refl _) (argsL := [(.int p0_0), (.int p0_3), (.long (((x2 + x5) + x7) + x9))]) (rest := []) (lenOf pd__IIJ_Z rfl) rfl (by show 2 * 0 + _ ≤ _; exact Nat.le_of_eq rfl) (hb hby at_395) (fun _ _ => ⟨rfl, e122, (by decide : 1 + 0 ≤ _), (by decide : 8 + 0 ≤ _)⟩)
    dsimp only [Pt.U, Pt.locs, Pt.cells, Pt.slots] at X126 l126 y126 z126 st126 hQ126
    subst l126 y126 z126
    obtain ⟨rfl, Nq126, Kc126, P126_0, P126_1, P126_2, P126_3, P126_4, P126_5, P126_6, P126_7, P126_8⟩ := hQ126
    have K126 : Keep h0 T126.heap [] := Keep.trans K33 Kc126 (allS (P := fun x => x ∈ ([] : List Addr) ∨ h0.size ≤ x) (Or.inr sz_b22) all0)
    have Z126 : n0 ≤ T126.heap.size := Nat.le_trans Z0 K126.1
    obtain ⟨y127, hy127⟩ : ∃ z : Int32, z = (if (¬ (y34 = p0_0) ∧ ¬ (((((x2 + x5) + x7) + x9) - y39) < (5000 : Int64))) then p0_0 else y34) := ⟨_, rfl⟩
    rw [← hy127] at P126_0
    obtain ⟨y128, hy128⟩ : ∃ z : Int32, z = (if (¬ (y34 = p0_0) ∧ ¬ (((((x2 + x5) + x7) + x9) - y39) < (5000 : Int64))) then y34 else y35) := ⟨_, rfl⟩
    rw [← hy128] at P126_2
    obtain ⟨y129, hy129⟩ : ∃ z : Int32, z = (if (¬ (y34 = p0_0) ∧ ¬ (((((x2 + x5) + x7) + x9) - y39) < (5000 : Int64))) then p0_3 else (if y34 = p0_0 then p0_3 else y36)) := ⟨_, rfl⟩
    rw [← hy129] at P126_3
    obtain ⟨y130, hy130⟩ : ∃ z : Int32, z = (if (¬ (y34 = p0_0) ∧ ¬ (((((x2 + x5) + x7) + x9) - y39) < (5000 : Int64))) then y36 else y37) := ⟨_, rfl⟩
    rw [← hy130] at P126_4
    obtain ⟨y131, hy131⟩ : ∃ z : Int64, z = (if (¬ (y34 = p0_0) ∧ ¬ (((((x2 + x5) + x7) + x9) - y39) < (5000 : Int64))) then (((x2 + x5) + x7) + x9) else y38) := ⟨_, rfl⟩
    rw [← hy131] at P126_5
    obtain ⟨y132, hy132⟩ : ∃ z : Int64, z = (if (¬ (y34 = p0_0) ∧ ¬ (((((x2 + x5) + x7) + x9) - y39) < (5000 : Int64))) then (((x2 + x5) + x7) + x9) else (if y34 = p0_0 then (((x2 + x5) + x7) + x9) else y39)) := ⟨_, rfl⟩
    rw [← hy132] at P126_6
    obtain ⟨y133, hy133⟩ : ∃ z : Int64, z = (if (((x2 + x5) + x7) + x9) < y40 then y40 else (9223372036854775807 : Int64)) := ⟨_, rfl⟩
    rw [← hy133] at P126_7
    obtain ⟨y134, hy134⟩ : ∃ z : Int32, z = (if (¬ (y34 = p0_0) ∧ ¬ (((((x2 + x5) + x7) + x9) - y39) < (5000 : Int64))) then (if (((x2 + x5) + x7) + x9) < y40 then y41 else (nar .boolean (y41 ||| (if ¬ (((((x2 + x5) + x7) + x9) - (((x2 + x5) + x7) + x9)) < (2500 : Int64)) then (1 : Int32) else (0 : Int32))))) else (if y34 = p0_0 then (if (((x2 + x5) + x7) + x9) < y40 then y41 else (nar .boolean (y41 ||| (if ¬ (((((x2 + x5) + x7) + x9) - (((x2 + x5) + x7) + x9)) < (2500 : Int64)) then (1 : Int32) else (0 : Int32))))) else (if (((x2 + x5) + x7) + x9) < y40 then y41 else (nar .boolean (y41 ||| (if ¬ (((((x2 + x5) + x7) + x9) - y39) < (2500 : Int64)) then (1 : Int32) else (0 : Int32))))))) := ⟨_, rfl⟩
    rw [← hy134] at P126_8
    have N126 := Fr.app N122 Nq126
    obtain ⟨x135, hx135⟩ : ∃ z : Int32, z = (if (¬ (y34 = p0_0) ∧ ¬ (((((x2 + x5) + x7) + x9) - y39) < (5000 : Int64))) then (1 : Int32) else (0 : Int32)) := ⟨_, rfl⟩
    let A136 : Array Slot := #[.val (.int p0_0), .val (.int p0_1), .val (.int p0_2), .val (.int p0_3), .val (.long q0_4), .second, .val (.long q0_5), .second, .val (.long x2), .second, .val (.long (q0_5 &&& (65535 : Int64))), .second, .val (.long x5), .second, .val (.long x7), .second, .val (.long x9), .second, .val (.int x11), .val (.int v15), .val (.long (x2 + x5)), .second, .val (.long ((x2 + x5) + x7)), .second, .val (.long (((x2 + x5) + x7) + x9)), .second, .val (.int ((p0_2 + x11) - (1 : Int32))), .val (.ref b22), .val (.int x31), .val (.int x42), .val (.int y34), .val (.int y36), .val (.long x49), .second, .val (.long y38), .second, .val (.int x54), .val (.long ((q0_5 &&& (65535 : Int64)) + x7)), .second, .val (.int v61), .val (.int v68), .val (.int v73), .val (.int v78), .val (.long v83), .second, .val (.long v90), .second, .val (.int v97), .val (.int v106), .val (.int v121), .val (.int x135), .unset, .unset, .unset, .unset, .unset]
    obtain ⟨cq137, kq137, q137a, q137b, q137c⟩ := isOf hZ rfl P126_1
    obtain ⟨_, _, ⟨T137, L137, k137, n137⟩, -, X137, ⟨Lc137, hQ137, l137, y137, z137⟩, st137⟩ := X126.virtualBack hx (y := (⟨"com/example/halozat/halozat/node/Leader", "far", "()Z"⟩ : MethodName)) (z := (⟨"com/example/halozat/halozat/node/Leader", "far", "()Z"⟩ : MethodName)) hown (mvT hZ (ow56 hw)) (mvT hZ (ow57 hw)) (notFace_of_selects (args := #[]) (mvT hZ (ow59 hw))) (mvT hZ (ow59 hw)) (mvT hZ (ow58 hw)) (by decide) (backOf (W := 0) (rm9 l Z a0 hw [] b22 y134 T126.heap n0 Z126 P126_8) hZ (ow60 hw) (ow5 hw) (by decide) (by decide)) q137a q137c (g := (mkF m 402 A136 [(.ref b22)])) rfl (by rw [hml]; rfl) (Steps.refl _) (argsL := []) (rest := []) (lenOf pd___Z rfl) rfl (by show 2 * 0 + _ ≤ _; exact Nat.le_of_eq rfl) (hb hby at_402) (fun _ _ => ⟨rfl, rfl, (by decide : 1 + 0 ≤ _), (by decide : 8 + 0 ≤ _)⟩)
    dsimp only [Pt.U, Pt.locs, Pt.cells, Pt.slots] at X137 l137 y137 z137 st137 hQ137
    subst l137 y137 z137
    obtain ⟨rfl, Nq137, e137⟩ := hQ137
    have N137 := Fr.app N126 Nq137
    obtain ⟨x138, hx138⟩ : ∃ z : Int32, z = (nar .boolean y134) := ⟨_, rfl⟩
    let A139 : Array Slot := #[.val (.int p0_0), .val (.int p0_1), .val (.int p0_2), .val (.int p0_3), .val (.long q0_4), .second, .val (.long q0_5), .second, .val (.long x2), .second, .val (.long (q0_5 &&& (65535 : Int64))), .second, .val (.long x5), .second, .val (.long x7), .second, .val (.long x9), .second, .val (.int x11), .val (.int v15), .val (.long (x2 + x5)), .second, .val (.long ((x2 + x5) + x7)), .second, .val (.long (((x2 + x5) + x7) + x9)), .second, .val (.int ((p0_2 + x11) - (1 : Int32))), .val (.ref b22), .val (.int x31), .val (.int x42), .val (.int y34), .val (.int y36), .val (.long x49), .second, .val (.long y38), .second, .val (.int x54), .val (.long ((q0_5 &&& (65535 : Int64)) + x7)), .second, .val (.int v61), .val (.int v68), .val (.int v73), .val (.int v78), .val (.long v83), .second, .val (.long v90), .second, .val (.int v97), .val (.int v106), .val (.int v121), .val (.int x135), .val (.int x138), .unset, .unset, .unset, .unset]
    have G140 : ∀ t, Steps p.tables e below (T137.setTop (mkF m 409 A139 [(.int v68)])) t → Steps p.tables e below (T122.setTop (mkF m 386 A123 [(.int v15)])) t := by
      intro t k
      show Steps p.tables e below (T122.setTop (mkF m 386 A123 [(.int v15)])) _
      refine XS.ifNo X122.here hx rfl (hb hby at_386) rfl ((if0 _ _).trans (feq (own_b1 (hv15.trans (if_pos h386_125)))).1) ?_
      show Steps p.tables e below (T122.setTop (mkF m 389 A123 [])) _
      refine XS.aload X122.here hx rfl (hb hby at_389) rfl rfl ?_
      show Steps p.tables e below (T122.setTop (mkF m 391 A123 [(.ref b22)])) _
      refine XS.iloadN X122.here hx rfl (hb hby at_391) rfl ?_
      show Steps p.tables e below (T122.setTop (mkF m 392 A123 [(.int p0_0), (.ref b22)])) _
      refine XS.iloadN X122.here hx rfl (hb hby at_392) rfl ?_
      show Steps p.tables e below (T122.setTop (mkF m 393 A123 [(.int p0_3), (.int p0_0), (.ref b22)])) _
      refine XS.lload X122.here hx rfl (hb hby at_393) rfl ?_
      show Steps p.tables e below (T122.setTop (mkF m 395 A123 [(.long (((x2 + x5) + x7) + x9)), (.int p0_3), (.int p0_0), (.ref b22)])) _
      refine st126.trans ?_
      show Steps p.tables e below (T126.setTop (mkF m 398 A123 [(.int (if (¬ (y34 = p0_0) ∧ ¬ (((((x2 + x5) + x7) + x9) - y39) < (5000 : Int64))) then (1 : Int32) else (0 : Int32)))])) _
      rw [← hx135]
      show Steps p.tables e below (T126.setTop (mkF m 398 A123 [(.int x135)])) _
      refine XS.istore X126.here hx rfl (hb hby at_398) rfl (l' := A136) rfl ?_
      show Steps p.tables e below (T126.setTop (mkF m 400 A136 [])) _
      refine XS.aload X126.here hx rfl (hb hby at_400) rfl rfl ?_
      show Steps p.tables e below (T126.setTop (mkF m 402 A136 [(.ref b22)])) _
      refine st137.trans ?_
      show Steps p.tables e below (T137.setTop (mkF m 405 A136 [(.int (nar .boolean y134))])) _
      rw [← hx138]
      show Steps p.tables e below (T137.setTop (mkF m 405 A136 [(.int x138)])) _
      refine XS.istore X137.here hx rfl (hb hby at_405) rfl (l' := A139) rfl ?_
      show Steps p.tables e below (T137.setTop (mkF m 407 A139 [])) _
      refine XS.iload X137.here hx rfl (hb hby at_407) rfl ?_
      exact k
    obtain ⟨v144, hv144⟩ : ∃ z : Int32, z = (if ((((q0_5 &&& (65535 : Int64)) < (5000 : Int64) ∧ (p0_1 < p0_0 ∧ ¬ ((p0_1 = (-1 : Int32) ∧ ¬ ((0 : Int32) < p0_2))))) ∧ ¬ ((((q0_5 &&& (65535 : Int64)) < (5000 : Int64) ∧ (p0_1 < p0_0 ∧ ¬ ((p0_1 = (-1 : Int32) ∧ ¬ ((0 : Int32) < p0_2))))) ∧ ¬ (((q0_5 &&& (65535 : Int64)) + x7) < (5000 : Int64))))) ∧ ¬ ((((q0_5 &&& (65535 : Int64)) + x7) + x9) < (5000 : Int64))) then (1 : Int32) else (0 : Int32)) := ⟨_, rfl⟩
    obtain ⟨T145, Lo145, X145, N145, e145, G145⟩ := own_join X137 N137 (h := T126.heap) (mkF m 409 A139 [(.int v68)]) (mkF m 429 A139 [(.int v144)]) (by
      by_cases h409_141 : (((q0_5 &&& (65535 : Int64)) < (5000 : Int64) ∧ (p0_1 < p0_0 ∧ ¬ ((p0_1 = (-1 : Int32) ∧ ¬ ((0 : Int32) < p0_2))))) ∧ ¬ ((((q0_5 &&& (65535 : Int64)) < (5000 : Int64) ∧ (p0_1 < p0_0 ∧ ¬ ((p0_1 = (-1 : Int32) ∧ ¬ ((0 : Int32) < p0_2))))) ∧ ¬ (((q0_5 &&& (65535 : Int64)) + x7) < (5000 : Int64)))))
      · have G142 : ∀ t, Steps p.tables e below (T137.setTop (mkF m 421 A139 [(.int (lcmpW (((q0_5 &&& (65535 : Int64)) + x7) + x9) (5000 : Int64)))])) t → Steps p.tables e below (T137.setTop (mkF m 409 A139 [(.int v68)])) t := by
          intro t k
          show Steps p.tables e below (T137.setTop (mkF m 409 A139 [(.int v68)])) _
          refine XS.ifNo X137.here hx rfl (hb hby at_409) rfl ((if0 _ _).trans (feq (own_b1 (hv68.trans (if_pos h409_141)))).1) ?_
          show Steps p.tables e below (T137.setTop (mkF m 412 A139 [])) _
          refine XS.lload X137.here hx rfl (hb hby at_412) rfl ?_
          show Steps p.tables e below (T137.setTop (mkF m 414 A139 [(.long ((q0_5 &&& (65535 : Int64)) + x7))])) _
          refine XS.lload X137.here hx rfl (hb hby at_414) rfl ?_
          show Steps p.tables e below (T137.setTop (mkF m 416 A139 [(.long x9), (.long ((q0_5 &&& (65535 : Int64)) + x7))])) _
          refine XS.ladd X137.here hx rfl (hb hby at_416) rfl ?_
          show Steps p.tables e below (T137.setTop (mkF m 417 A139 [(.long (((q0_5 &&& (65535 : Int64)) + x7) + x9))])) _
          refine X137.ldc2Long hx hown (mvT hZ (ow64 hw)) (g := (mkF m 417 A139 [(.long (((q0_5 &&& (65535 : Int64)) + x7) + x9))])) rfl (hb hby at_417) _ ?_
          show Steps p.tables e below (T137.setTop (mkF m 420 A139 [(.long (5000 : Int64)), (.long (((q0_5 &&& (65535 : Int64)) + x7) + x9))])) _
          refine XS.lcmp X137.here hx rfl (hb hby at_420) rfl ?_
          exact k
        by_cases h421_143 : (((q0_5 &&& (65535 : Int64)) + x7) + x9) < (5000 : Int64)
        · refine ⟨T137, _, X137, N137, e137, fun t k => ?_⟩
          rw [show v144 = (0 : Int32) from hv144.trans (if_neg (fun q => (fun q => q h421_143) q.2))] at k
          refine G142 _ ?_
          show Steps p.tables e below (T137.setTop (mkF m 421 A139 [(.int (lcmpW (((q0_5 &&& (65535 : Int64)) + x7) + x9) (5000 : Int64)))])) _
          refine XS.ifYes X137.here hx rfl (pc0 := 421) (pc' := 428) rfl (hb hby at_421) rfl ((if0 _ _).trans (tlt ((lw_lt _ _).mpr h421_143)).1) (by decide) (by decide) ?_
          show Steps p.tables e below (T137.setTop (mkF m 428 A139 [])) _
          refine XS.iconst X137.here hx rfl (hb hby at_428) ?_
          exact k
        · refine ⟨T137, _, X137, N137, e137, fun t k => ?_⟩
          rw [show v144 = (1 : Int32) from hv144.trans (if_pos ⟨h409_141, h421_143⟩)] at k
          refine G142 _ ?_
          show Steps p.tables e below (T137.setTop (mkF m 421 A139 [(.int (lcmpW (((q0_5 &&& (65535 : Int64)) + x7) + x9) (5000 : Int64)))])) _
          refine XS.ifNo X137.here hx rfl (hb hby at_421) rfl ((if0 _ _).trans (flt (fun q => h421_143 ((lw_lt _ _).mp q))).1) ?_
          show Steps p.tables e below (T137.setTop (mkF m 424 A139 [])) _
          refine XS.iconst X137.here hx rfl (hb hby at_424) ?_
          show Steps p.tables e below (T137.setTop (mkF m 425 A139 [(.int (1 : Int32))])) _
          refine XS.goto X137.here hx rfl (pc0 := 425) (pc' := 429) rfl (hb hby at_425) (by decide) (by decide) ?_
          exact k
      · refine ⟨T137, _, X137, N137, e137, fun t k => ?_⟩
        rw [show v144 = (0 : Int32) from hv144.trans (if_neg (fun q => h409_141 q.1))] at k
        show Steps p.tables e below (T137.setTop (mkF m 409 A139 [(.int v68)])) _
        refine XS.ifYes X137.here hx rfl (pc0 := 409) (pc' := 428) rfl (hb hby at_409) rfl ((if0 _ _).trans (teq (hv68.trans (if_neg h409_141))).1) (by decide) (by decide) ?_
        show Steps p.tables e below (T137.setTop (mkF m 428 A139 [])) _
        refine XS.iconst X137.here hx rfl (hb hby at_428) ?_
        exact k)
    let A146 : Array Slot := #[.val (.int p0_0), .val (.int p0_1), .val (.int p0_2), .val (.int p0_3), .val (.long q0_4), .second, .val (.long q0_5), .second, .val (.long x2), .second, .val (.long (q0_5 &&& (65535 : Int64))), .second, .val (.long x5), .second, .val (.long x7), .second, .val (.long x9), .second, .val (.int x11), .val (.int v15), .val (.long (x2 + x5)), .second, .val (.long ((x2 + x5) + x7)), .second, .val (.long (((x2 + x5) + x7) + x9)), .second, .val (.int ((p0_2 + x11) - (1 : Int32))), .val (.ref b22), .val (.int x31), .val (.int x42), .val (.int y34), .val (.int y36), .val (.long x49), .second, .val (.long y38), .second, .val (.int x54), .val (.long ((q0_5 &&& (65535 : Int64)) + x7)), .second, .val (.int v61), .val (.int v68), .val (.int v73), .val (.int v78), .val (.long v83), .second, .val (.long v90), .second, .val (.int v97), .val (.int v106), .val (.int v121), .val (.int x135), .val (.int x138), .val (.int v144), .unset, .unset, .unset]
    have G147 : ∀ t, Steps p.tables e below (T145.setTop (mkF m 433 A146 [(.int v68)])) t → Steps p.tables e below (T145.setTop (mkF m 429 A139 [(.int v144)])) t := by
      intro t k
      show Steps p.tables e below (T145.setTop (mkF m 429 A139 [(.int v144)])) _
      refine XS.istore X145.here hx rfl (hb hby at_429) rfl (l' := A146) rfl ?_
      show Steps p.tables e below (T145.setTop (mkF m 431 A146 [])) _
      refine XS.iload X145.here hx rfl (hb hby at_431) rfl ?_
      exact k
    obtain ⟨v151, hv151⟩ : ∃ z : Int32, z = (if ((((q0_5 &&& (65535 : Int64)) < (5000 : Int64) ∧ (p0_1 < p0_0 ∧ ¬ ((p0_1 = (-1 : Int32) ∧ ¬ ((0 : Int32) < p0_2))))) ∧ ¬ ((((q0_5 &&& (65535 : Int64)) < (5000 : Int64) ∧ (p0_1 < p0_0 ∧ ¬ ((p0_1 = (-1 : Int32) ∧ ¬ ((0 : Int32) < p0_2))))) ∧ ¬ (((q0_5 &&& (65535 : Int64)) + x7) < (5000 : Int64))))) ∧ ¬ (((((q0_5 &&& (65535 : Int64)) < (5000 : Int64) ∧ (p0_1 < p0_0 ∧ ¬ ((p0_1 = (-1 : Int32) ∧ ¬ ((0 : Int32) < p0_2))))) ∧ ¬ ((((q0_5 &&& (65535 : Int64)) < (5000 : Int64) ∧ (p0_1 < p0_0 ∧ ¬ ((p0_1 = (-1 : Int32) ∧ ¬ ((0 : Int32) < p0_2))))) ∧ ¬ (((q0_5 &&& (65535 : Int64)) + x7) < (5000 : Int64))))) ∧ ¬ ((((q0_5 &&& (65535 : Int64)) + x7) + x9) < (5000 : Int64))))) then (1 : Int32) else (0 : Int32)) := ⟨_, rfl⟩
    obtain ⟨T152, Lo152, X152, N152, e152, G152⟩ := own_join X145 N145 (h := T126.heap) (mkF m 433 A146 [(.int v68)]) (mkF m 446 A146 [(.int v151)]) (by
      by_cases h433_148 : (((q0_5 &&& (65535 : Int64)) < (5000 : Int64) ∧ (p0_1 < p0_0 ∧ ¬ ((p0_1 = (-1 : Int32) ∧ ¬ ((0 : Int32) < p0_2))))) ∧ ¬ ((((q0_5 &&& (65535 : Int64)) < (5000 : Int64) ∧ (p0_1 < p0_0 ∧ ¬ ((p0_1 = (-1 : Int32) ∧ ¬ ((0 : Int32) < p0_2))))) ∧ ¬ (((q0_5 &&& (65535 : Int64)) + x7) < (5000 : Int64)))))
      · have G149 : ∀ t, Steps p.tables e below (T145.setTop (mkF m 438 A146 [(.int v144)])) t → Steps p.tables e below (T145.setTop (mkF m 433 A146 [(.int v68)])) t := by
          intro t k
          show Steps p.tables e below (T145.setTop (mkF m 433 A146 [(.int v68)])) _
          refine XS.ifNo X145.here hx rfl (hb hby at_433) rfl ((if0 _ _).trans (feq (own_b1 (hv68.trans (if_pos h433_148)))).1) ?_
          show Steps p.tables e below (T145.setTop (mkF m 436 A146 [])) _
          refine XS.iload X145.here hx rfl (hb hby at_436) rfl ?_
          exact k
        by_cases h438_150 : ((((q0_5 &&& (65535 : Int64)) < (5000 : Int64) ∧ (p0_1 < p0_0 ∧ ¬ ((p0_1 = (-1 : Int32) ∧ ¬ ((0 : Int32) < p0_2))))) ∧ ¬ ((((q0_5 &&& (65535 : Int64)) < (5000 : Int64) ∧ (p0_1 < p0_0 ∧ ¬ ((p0_1 = (-1 : Int32) ∧ ¬ ((0 : Int32) < p0_2))))) ∧ ¬ (((q0_5 &&& (65535 : Int64)) + x7) < (5000 : Int64))))) ∧ ¬ ((((q0_5 &&& (65535 : Int64)) + x7) + x9) < (5000 : Int64)))
        · refine ⟨T145, _, X145, N145, e145, fun t k => ?_⟩
          rw [show v151 = (0 : Int32) from hv151.trans (if_neg (fun q => (fun q => q h438_150) q.2))] at k
          refine G149 _ ?_
          show Steps p.tables e below (T145.setTop (mkF m 438 A146 [(.int v144)])) _
          refine XS.ifYes X145.here hx rfl (pc0 := 438) (pc' := 445) rfl (hb hby at_438) rfl ((if0 _ _).trans (feq (own_b1 (hv144.trans (if_pos h438_150)))).2) (by decide) (by decide) ?_
          show Steps p.tables e below (T145.setTop (mkF m 445 A146 [])) _
          refine XS.iconst X145.here hx rfl (hb hby at_445) ?_
          exact k
        · refine ⟨T145, _, X145, N145, e145, fun t k => ?_⟩
          rw [show v151 = (1 : Int32) from hv151.trans (if_pos ⟨h433_148, h438_150⟩)] at k
          refine G149 _ ?_
          show Steps p.tables e below (T145.setTop (mkF m 438 A146 [(.int v144)])) _
          refine XS.ifNo X145.here hx rfl (hb hby at_438) rfl ((if0 _ _).trans (teq (hv144.trans (if_neg h438_150))).2) ?_
          show Steps p.tables e below (T145.setTop (mkF m 441 A146 [])) _
          refine XS.iconst X145.here hx rfl (hb hby at_441) ?_
          show Steps p.tables e below (T145.setTop (mkF m 442 A146 [(.int (1 : Int32))])) _
          refine XS.goto X145.here hx rfl (pc0 := 442) (pc' := 446) rfl (hb hby at_442) (by decide) (by decide) ?_
          exact k
      · refine ⟨T145, _, X145, N145, e145, fun t k => ?_⟩
        rw [show v151 = (0 : Int32) from hv151.trans (if_neg (fun q => h433_148 q.1))] at k
        show Steps p.tables e below (T145.setTop (mkF m 433 A146 [(.int v68)])) _
        refine XS.ifYes X145.here hx rfl (pc0 := 433) (pc' := 445) rfl (hb hby at_433) rfl ((if0 _ _).trans (teq (hv68.trans (if_neg h433_148))).1) (by decide) (by decide) ?_
        show Steps p.tables e below (T145.setTop (mkF m 445 A146 [])) _
        refine XS.iconst X145.here hx rfl (hb hby at_445) ?_
        exact k)
    let A153 : Array Slot := #[.val (.int p0_0), .val (.int p0_1), .val (.int p0_2), .val (.int p0_3), .val (.long q0_4), .second, .val (.long q0_5), .second, .val (.long x2), .second, .val (.long (q0_5 &&& (65535 : Int64))), .second, .val (.long x5), .second, .val (.long x7), .second, .val (.long x9), .second, .val (.int x11), .val (.int v15), .val (.long (x2 + x5)), .second, .val (.long ((x2 + x5) + x7)), .second, .val (.long (((x2 + x5) + x7) + x9)), .second, .val (.int ((p0_2 + x11) - (1 : Int32))), .val (.ref b22), .val (.int x31), .val (.int x42), .val (.int y34), .val (.int y36), .val (.long x49), .second, .val (.long y38), .second, .val (.int x54), .val (.long ((q0_5 &&& (65535 : Int64)) + x7)), .second, .val (.int v61), .val (.int v68), .val (.int v73), .val (.int v78), .val (.long v83), .second, .val (.long v90), .second, .val (.int v97), .val (.int v106), .val (.int v121), .val (.int x135), .val (.int x138), .val (.int v144), .val (.int v151), .unset, .unset]
    have G154 : ∀ t, Steps p.tables e below (T152.setTop (mkF m 450 A153 [(.int x31)])) t → Steps p.tables e below (T152.setTop (mkF m 446 A146 [(.int v151)])) t := by
      intro t k
      show Steps p.tables e below (T152.setTop (mkF m 446 A146 [(.int v151)])) _
      refine XS.istore X152.here hx rfl (hb hby at_446) rfl (l' := A153) rfl ?_
      show Steps p.tables e below (T152.setTop (mkF m 448 A153 [])) _
      refine XS.iload X152.here hx rfl (hb hby at_448) rfl ?_
      exact k
    obtain ⟨v160, hv160⟩ : ∃ z : Int32, z = (if (((q0_5 &&& (65535 : Int64)) < (5000 : Int64) ∧ (p0_1 < p0_0 ∧ ¬ ((p0_1 = (-1 : Int32) ∧ ¬ ((0 : Int32) < p0_2))))) ∧ (x7 < (1000 : Int64) ∧ ¬ ((x7 + x9) < (1000 : Int64)))) then (1 : Int32) else (0 : Int32)) := ⟨_, rfl⟩
    obtain ⟨T161, Lo161, X161, N161, e161, G161⟩ := own_join X152 N152 (h := T126.heap) (mkF m 450 A153 [(.int x31)]) (mkF m 479 A153 [(.int v160)]) (by
      by_cases h450_155 : ((q0_5 &&& (65535 : Int64)) < (5000 : Int64) ∧ (p0_1 < p0_0 ∧ ¬ ((p0_1 = (-1 : Int32) ∧ ¬ ((0 : Int32) < p0_2)))))
      · have G156 : ∀ t, Steps p.tables e below (T152.setTop (mkF m 459 A153 [(.int (lcmpW x7 (1000 : Int64)))])) t → Steps p.tables e below (T152.setTop (mkF m 450 A153 [(.int x31)])) t := by
          intro t k
          show Steps p.tables e below (T152.setTop (mkF m 450 A153 [(.int x31)])) _
          refine XS.ifNo X152.here hx rfl (hb hby at_450) rfl ((if0 _ _).trans (feq (own_b1 (hx31.trans (if_pos h450_155)))).1) ?_
          show Steps p.tables e below (T152.setTop (mkF m 453 A153 [])) _
          refine XS.lload X152.here hx rfl (hb hby at_453) rfl ?_
          show Steps p.tables e below (T152.setTop (mkF m 455 A153 [(.long x7)])) _
          refine X152.ldc2Long hx hown (mvT hZ (ow65 hw)) (g := (mkF m 455 A153 [(.long x7)])) rfl (hb hby at_455) _ ?_
          show Steps p.tables e below (T152.setTop (mkF m 458 A153 [(.long (1000 : Int64)), (.long x7)])) _
          refine XS.lcmp X152.here hx rfl (hb hby at_458) rfl ?_
          exact k
        by_cases h459_157 : x7 < (1000 : Int64)
        · have G158 : ∀ t, Steps p.tables e below (T152.setTop (mkF m 471 A153 [(.int (lcmpW (x7 + x9) (1000 : Int64)))])) t → Steps p.tables e below (T152.setTop (mkF m 459 A153 [(.int (lcmpW x7 (1000 : Int64)))])) t := by
            intro t k
            show Steps p.tables e below (T152.setTop (mkF m 459 A153 [(.int (lcmpW x7 (1000 : Int64)))])) _
            refine XS.ifNo X152.here hx rfl (hb hby at_459) rfl ((if0 _ _).trans (tlt ((lw_lt _ _).mpr h459_157)).2.1) ?_
            show Steps p.tables e below (T152.setTop (mkF m 462 A153 [])) _
            refine XS.lload X152.here hx rfl (hb hby at_462) rfl ?_
            show Steps p.tables e below (T152.setTop (mkF m 464 A153 [(.long x7)])) _
            refine XS.lload X152.here hx rfl (hb hby at_464) rfl ?_
            show Steps p.tables e below (T152.setTop (mkF m 466 A153 [(.long x9), (.long x7)])) _
            refine XS.ladd X152.here hx rfl (hb hby at_466) rfl ?_
            show Steps p.tables e below (T152.setTop (mkF m 467 A153 [(.long (x7 + x9))])) _
            refine X152.ldc2Long hx hown (mvT hZ (ow65 hw)) (g := (mkF m 467 A153 [(.long (x7 + x9))])) rfl (hb hby at_467) _ ?_
            show Steps p.tables e below (T152.setTop (mkF m 470 A153 [(.long (1000 : Int64)), (.long (x7 + x9))])) _
            refine XS.lcmp X152.here hx rfl (hb hby at_470) rfl ?_
            exact k
          by_cases h471_159 : (x7 + x9) < (1000 : Int64)
          · refine ⟨T152, _, X152, N152, e152, fun t k => ?_⟩
            rw [show v160 = (0 : Int32) from hv160.trans (if_neg (fun q => (fun q => (fun q => q h471_159) q.2) q.2))] at k
            refine G156 _ ?_
            refine G158 _ ?_
            show Steps p.tables e below (T152.setTop (mkF m 471 A153 [(.int (lcmpW (x7 + x9) (1000 : Int64)))])) _
            refine XS.ifYes X152.here hx rfl (pc0 := 471) (pc' := 478) rfl (hb hby at_471) rfl ((if0 _ _).trans (tlt ((lw_lt _ _).mpr h471_159)).1) (by decide) (by decide) ?_
            show Steps p.tables e below (T152.setTop (mkF m 478 A153 [])) _
            refine XS.iconst X152.here hx rfl (hb hby at_478) ?_
            exact k
          · refine ⟨T152, _, X152, N152, e152, fun t k => ?_⟩
            rw [show v160 = (1 : Int32) from hv160.trans (if_pos ⟨h450_155, ⟨h459_157, h471_159⟩⟩)] at k
            refine G156 _ ?_
            refine G158 _ ?_
            show Steps p.tables e below (T152.setTop (mkF m 471 A153 [(.int (lcmpW (x7 + x9) (1000 : Int64)))])) _
            refine XS.ifNo X152.here hx rfl (hb hby at_471) rfl ((if0 _ _).trans (flt (fun q => h471_159 ((lw_lt _ _).mp q))).1) ?_
            show Steps p.tables e below (T152.setTop (mkF m 474 A153 [])) _
            refine XS.iconst X152.here hx rfl (hb hby at_474) ?_
            show Steps p.tables e below (T152.setTop (mkF m 475 A153 [(.int (1 : Int32))])) _
            refine XS.goto X152.here hx rfl (pc0 := 475) (pc' := 479) rfl (hb hby at_475) (by decide) (by decide) ?_
            exact k
        · refine ⟨T152, _, X152, N152, e152, fun t k => ?_⟩
          rw [show v160 = (0 : Int32) from hv160.trans (if_neg (fun q => (fun q => h459_157 q.1) q.2))] at k
          refine G156 _ ?_
          show Steps p.tables e below (T152.setTop (mkF m 459 A153 [(.int (lcmpW x7 (1000 : Int64)))])) _
          refine XS.ifYes X152.here hx rfl (pc0 := 459) (pc' := 478) rfl (hb hby at_459) rfl ((if0 _ _).trans (flt (fun q => h459_157 ((lw_lt _ _).mp q))).2.1) (by decide) (by decide) ?_
          show Steps p.tables e below (T152.setTop (mkF m 478 A153 [])) _
          refine XS.iconst X152.here hx rfl (hb hby at_478) ?_
          exact k
      · refine ⟨T152, _, X152, N152, e152, fun t k => ?_⟩
        rw [show v160 = (0 : Int32) from hv160.trans (if_neg (fun q => h450_155 q.1))] at k
        show Steps p.tables e below (T152.setTop (mkF m 450 A153 [(.int x31)])) _
        refine XS.ifYes X152.here hx rfl (pc0 := 450) (pc' := 478) rfl (hb hby at_450) rfl ((if0 _ _).trans (teq (hx31.trans (if_neg h450_155))).1) (by decide) (by decide) ?_
        show Steps p.tables e below (T152.setTop (mkF m 478 A153 [])) _
        refine XS.iconst X152.here hx rfl (hb hby at_478) ?_
        exact k)
    let A162 : Array Slot := #[.val (.int p0_0), .val (.int p0_1), .val (.int p0_2), .val (.int p0_3), .val (.long q0_4), .second, .val (.long q0_5), .second, .val (.long x2), .second, .val (.long (q0_5 &&& (65535 : Int64))), .second, .val (.long x5), .second, .val (.long x7), .second, .val (.long x9), .second, .val (.int x11), .val (.int v15), .val (.long (x2 + x5)), .second, .val (.long ((x2 + x5) + x7)), .second, .val (.long (((x2 + x5) + x7) + x9)), .second, .val (.int ((p0_2 + x11) - (1 : Int32))), .val (.ref b22), .val (.int x31), .val (.int x42), .val (.int y34), .val (.int y36), .val (.long x49), .second, .val (.long y38), .second, .val (.int x54), .val (.long ((q0_5 &&& (65535 : Int64)) + x7)), .second, .val (.int v61), .val (.int v68), .val (.int v73), .val (.int v78), .val (.long v83), .second, .val (.long v90), .second, .val (.int v97), .val (.int v106), .val (.int v121), .val (.int x135), .val (.int x138), .val (.int v144), .val (.int v151), .val (.int v160), .unset]
    have G163 : ∀ t, Steps p.tables e below (T161.setTop (mkF m 483 A162 [(.int v106)])) t → Steps p.tables e below (T161.setTop (mkF m 479 A153 [(.int v160)])) t := by
      intro t k
      show Steps p.tables e below (T161.setTop (mkF m 479 A153 [(.int v160)])) _
      refine XS.istore X161.here hx rfl (hb hby at_479) rfl (l' := A162) rfl ?_
      show Steps p.tables e below (T161.setTop (mkF m 481 A162 [])) _
      refine XS.iload X161.here hx rfl (hb hby at_481) rfl ?_
      exact k
    obtain ⟨v171, hv171⟩ : ∃ z : Int32, z = (if (((((q0_5 &&& (65535 : Int64)) < (5000 : Int64) ∧ (p0_1 < p0_0 ∧ ¬ ((p0_1 = (-1 : Int32) ∧ ¬ ((0 : Int32) < p0_2))))) ∧ ¬ (x7 < (1000 : Int64))) ∧ ((((q0_5 &&& (65535 : Int64)) < (5000 : Int64) ∧ (p0_1 < p0_0 ∧ ¬ ((p0_1 = (-1 : Int32) ∧ ¬ ((0 : Int32) < p0_2))))) ∧ ¬ ((((q0_5 &&& (65535 : Int64)) < (5000 : Int64) ∧ (p0_1 < p0_0 ∧ ¬ ((p0_1 = (-1 : Int32) ∧ ¬ ((0 : Int32) < p0_2))))) ∧ ¬ (((q0_5 &&& (65535 : Int64)) + x7) < (5000 : Int64))))) ∧ ¬ (((q0_5 &&& (65535 : Int64)) + x7) < (2500 : Int64)))) ∨ ((((q0_5 &&& (65535 : Int64)) < (5000 : Int64) ∧ (p0_1 < p0_0 ∧ ¬ ((p0_1 = (-1 : Int32) ∧ ¬ ((0 : Int32) < p0_2))))) ∧ (x7 < (1000 : Int64) ∧ ¬ ((x7 + x9) < (1000 : Int64)))) ∧ (((((q0_5 &&& (65535 : Int64)) < (5000 : Int64) ∧ (p0_1 < p0_0 ∧ ¬ ((p0_1 = (-1 : Int32) ∧ ¬ ((0 : Int32) < p0_2))))) ∧ ¬ ((((q0_5 &&& (65535 : Int64)) < (5000 : Int64) ∧ (p0_1 < p0_0 ∧ ¬ ((p0_1 = (-1 : Int32) ∧ ¬ ((0 : Int32) < p0_2))))) ∧ ¬ (((q0_5 &&& (65535 : Int64)) + x7) < (5000 : Int64))))) ∧ ¬ (((((q0_5 &&& (65535 : Int64)) < (5000 : Int64) ∧ (p0_1 < p0_0 ∧ ¬ ((p0_1 = (-1 : Int32) ∧ ¬ ((0 : Int32) < p0_2))))) ∧ ¬ ((((q0_5 &&& (65535 : Int64)) < (5000 : Int64) ∧ (p0_1 < p0_0 ∧ ¬ ((p0_1 = (-1 : Int32) ∧ ¬ ((0 : Int32) < p0_2))))) ∧ ¬ (((q0_5 &&& (65535 : Int64)) + x7) < (5000 : Int64))))) ∧ ¬ ((((q0_5 &&& (65535 : Int64)) + x7) + x9) < (5000 : Int64))))) ∧ ¬ ((((q0_5 &&& (65535 : Int64)) + x7) + x9) < (2500 : Int64))))) then (1 : Int32) else (0 : Int32)) := ⟨_, rfl⟩
    obtain ⟨T172, Lo172, X172, N172, e172, G172⟩ := own_join X161 N161 (h := T126.heap) (mkF m 483 A162 [(.int v106)]) (mkF m 513 A162 [(.int v171)]) (by
      by_cases h483_164 : ((((q0_5 &&& (65535 : Int64)) < (5000 : Int64) ∧ (p0_1 < p0_0 ∧ ¬ ((p0_1 = (-1 : Int32) ∧ ¬ ((0 : Int32) < p0_2))))) ∧ ¬ (x7 < (1000 : Int64))) ∧ ((((q0_5 &&& (65535 : Int64)) < (5000 : Int64) ∧ (p0_1 < p0_0 ∧ ¬ ((p0_1 = (-1 : Int32) ∧ ¬ ((0 : Int32) < p0_2))))) ∧ ¬ ((((q0_5 &&& (65535 : Int64)) < (5000 : Int64) ∧ (p0_1 < p0_0 ∧ ¬ ((p0_1 = (-1 : Int32) ∧ ¬ ((0 : Int32) < p0_2))))) ∧ ¬ (((q0_5 &&& (65535 : Int64)) + x7) < (5000 : Int64))))) ∧ ¬ (((q0_5 &&& (65535 : Int64)) + x7) < (2500 : Int64))))
      · refine ⟨T161, _, X161, N161, e161, fun t k => ?_⟩
        rw [show v171 = (1 : Int32) from hv171.trans (if_pos (Or.inl h483_164))] at k
        show Steps p.tables e below (T161.setTop (mkF m 483 A162 [(.int v106)])) _
        refine XS.ifYes X161.here hx rfl (pc0 := 483) (pc' := 508) rfl (hb hby at_483) rfl ((if0 _ _).trans (feq (own_b1 (hv106.trans (if_pos h483_164)))).2) (by decide) (by decide) ?_
        show Steps p.tables e below (T161.setTop (mkF m 508 A162 [])) _
        refine XS.iconst X161.here hx rfl (hb hby at_508) ?_
        show Steps p.tables e below (T161.setTop (mkF m 509 A162 [(.int (1 : Int32))])) _
        refine XS.goto X161.here hx rfl (pc0 := 509) (pc' := 513) rfl (hb hby at_509) (by decide) (by decide) ?_
        exact k
      · have G165 : ∀ t, Steps p.tables e below (T161.setTop (mkF m 488 A162 [(.int v160)])) t → Steps p.tables e below (T161.setTop (mkF m 483 A162 [(.int v106)])) t := by
          intro t k
          show Steps p.tables e below (T161.setTop (mkF m 483 A162 [(.int v106)])) _
          refine XS.ifNo X161.here hx rfl (hb hby at_483) rfl ((if0 _ _).trans (teq (hv106.trans (if_neg h483_164))).2) ?_
          show Steps p.tables e below (T161.setTop (mkF m 486 A162 [])) _
          refine XS.iload X161.here hx rfl (hb hby at_486) rfl ?_
          exact k
        by_cases h488_166 : (((q0_5 &&& (65535 : Int64)) < (5000 : Int64) ∧ (p0_1 < p0_0 ∧ ¬ ((p0_1 = (-1 : Int32) ∧ ¬ ((0 : Int32) < p0_2))))) ∧ (x7 < (1000 : Int64) ∧ ¬ ((x7 + x9) < (1000 : Int64))))
        · have G167 : ∀ t, Steps p.tables e below (T161.setTop (mkF m 493 A162 [(.int v151)])) t → Steps p.tables e below (T161.setTop (mkF m 488 A162 [(.int v160)])) t := by
            intro t k
            show Steps p.tables e below (T161.setTop (mkF m 488 A162 [(.int v160)])) _
            refine XS.ifNo X161.here hx rfl (hb hby at_488) rfl ((if0 _ _).trans (feq (own_b1 (hv160.trans (if_pos h488_166)))).1) ?_
            show Steps p.tables e below (T161.setTop (mkF m 491 A162 [])) _
            refine XS.iload X161.here hx rfl (hb hby at_491) rfl ?_
            exact k
          by_cases h493_168 : ((((q0_5 &&& (65535 : Int64)) < (5000 : Int64) ∧ (p0_1 < p0_0 ∧ ¬ ((p0_1 = (-1 : Int32) ∧ ¬ ((0 : Int32) < p0_2))))) ∧ ¬ ((((q0_5 &&& (65535 : Int64)) < (5000 : Int64) ∧ (p0_1 < p0_0 ∧ ¬ ((p0_1 = (-1 : Int32) ∧ ¬ ((0 : Int32) < p0_2))))) ∧ ¬ (((q0_5 &&& (65535 : Int64)) + x7) < (5000 : Int64))))) ∧ ¬ (((((q0_5 &&& (65535 : Int64)) < (5000 : Int64) ∧ (p0_1 < p0_0 ∧ ¬ ((p0_1 = (-1 : Int32) ∧ ¬ ((0 : Int32) < p0_2))))) ∧ ¬ ((((q0_5 &&& (65535 : Int64)) < (5000 : Int64) ∧ (p0_1 < p0_0 ∧ ¬ ((p0_1 = (-1 : Int32) ∧ ¬ ((0 : Int32) < p0_2))))) ∧ ¬ (((q0_5 &&& (65535 : Int64)) + x7) < (5000 : Int64))))) ∧ ¬ ((((q0_5 &&& (65535 : Int64)) + x7) + x9) < (5000 : Int64)))))
          · have G169 : ∀ t, Steps p.tables e below (T161.setTop (mkF m 505 A162 [(.int (lcmpW (((q0_5 &&& (65535 : Int64)) + x7) + x9) (2500 : Int64)))])) t → Steps p.tables e below (T161.setTop (mkF m 493 A162 [(.int v151)])) t := by
              intro t k
              show Steps p.tables e below (T161.setTop (mkF m 493 A162 [(.int v151)])) _
              refine XS.ifNo X161.here hx rfl (hb hby at_493) rfl ((if0 _ _).trans (feq (own_b1 (hv151.trans (if_pos h493_168)))).1) ?_
              show Steps p.tables e below (T161.setTop (mkF m 496 A162 [])) _
              refine XS.lload X161.here hx rfl (hb hby at_496) rfl ?_
              show Steps p.tables e below (T161.setTop (mkF m 498 A162 [(.long ((q0_5 &&& (65535 : Int64)) + x7))])) _
              refine XS.lload X161.here hx rfl (hb hby at_498) rfl ?_
              show Steps p.tables e below (T161.setTop (mkF m 500 A162 [(.long x9), (.long ((q0_5 &&& (65535 : Int64)) + x7))])) _
              refine XS.ladd X161.here hx rfl (hb hby at_500) rfl ?_
              show Steps p.tables e below (T161.setTop (mkF m 501 A162 [(.long (((q0_5 &&& (65535 : Int64)) + x7) + x9))])) _
              refine X161.ldc2Long hx hown (mvT hZ (ow69 hw)) (g := (mkF m 501 A162 [(.long (((q0_5 &&& (65535 : Int64)) + x7) + x9))])) rfl (hb hby at_501) _ ?_
              show Steps p.tables e below (T161.setTop (mkF m 504 A162 [(.long (2500 : Int64)), (.long (((q0_5 &&& (65535 : Int64)) + x7) + x9))])) _
              refine XS.lcmp X161.here hx rfl (hb hby at_504) rfl ?_
              exact k
            by_cases h505_170 : (((q0_5 &&& (65535 : Int64)) + x7) + x9) < (2500 : Int64)
            · refine ⟨T161, _, X161, N161, e161, fun t k => ?_⟩
              rw [show v171 = (0 : Int32) from hv171.trans (if_neg (fun q => q.elim h483_164 (fun q => (fun q => (fun q => q h505_170) q.2) q.2)))] at k
              refine G165 _ ?_
              refine G167 _ ?_
              refine G169 _ ?_
              show Steps p.tables e below (T161.setTop (mkF m 505 A162 [(.int (lcmpW (((q0_5 &&& (65535 : Int64)) + x7) + x9) (2500 : Int64)))])) _
              refine XS.ifYes X161.here hx rfl (pc0 := 505) (pc' := 512) rfl (hb hby at_505) rfl ((if0 _ _).trans (tlt ((lw_lt _ _).mpr h505_170)).1) (by decide) (by decide) ?_
              show Steps p.tables e below (T161.setTop (mkF m 512 A162 [])) _
              refine XS.iconst X161.here hx rfl (hb hby at_512) ?_
              exact k
            · refine ⟨T161, _, X161, N161, e161, fun t k => ?_⟩
              rw [show v171 = (1 : Int32) from hv171.trans (if_pos (Or.inr ⟨h488_166, ⟨h493_168, h505_170⟩⟩))] at k
              refine G165 _ ?_
              refine G167 _ ?_
              refine G169 _ ?_
              show Steps p.tables e below (T161.setTop (mkF m 505 A162 [(.int (lcmpW (((q0_5 &&& (65535 : Int64)) + x7) + x9) (2500 : Int64)))])) _
              refine XS.ifNo X161.here hx rfl (hb hby at_505) rfl ((if0 _ _).trans (flt (fun q => h505_170 ((lw_lt _ _).mp q))).1) ?_
              show Steps p.tables e below (T161.setTop (mkF m 508 A162 [])) _
              refine XS.iconst X161.here hx rfl (hb hby at_508) ?_
              show Steps p.tables e below (T161.setTop (mkF m 509 A162 [(.int (1 : Int32))])) _
              refine XS.goto X161.here hx rfl (pc0 := 509) (pc' := 513) rfl (hb hby at_509) (by decide) (by decide) ?_
              exact k
          · refine ⟨T161, _, X161, N161, e161, fun t k => ?_⟩
            rw [show v171 = (0 : Int32) from hv171.trans (if_neg (fun q => q.elim h483_164 (fun q => (fun q => h493_168 q.1) q.2)))] at k
            refine G165 _ ?_
            refine G167 _ ?_
            show Steps p.tables e below (T161.setTop (mkF m 493 A162 [(.int v151)])) _
            refine XS.ifYes X161.here hx rfl (pc0 := 493) (pc' := 512) rfl (hb hby at_493) rfl ((if0 _ _).trans (teq (hv151.trans (if_neg h493_168))).1) (by decide) (by decide) ?_
            show Steps p.tables e below (T161.setTop (mkF m 512 A162 [])) _
            refine XS.iconst X161.here hx rfl (hb hby at_512) ?_
            exact k
        · refine ⟨T161, _, X161, N161, e161, fun t k => ?_⟩
          rw [show v171 = (0 : Int32) from hv171.trans (if_neg (fun q => q.elim h483_164 (fun q => h488_166 q.1)))] at k
          refine G165 _ ?_
          show Steps p.tables e below (T161.setTop (mkF m 488 A162 [(.int v160)])) _
          refine XS.ifYes X161.here hx rfl (pc0 := 488) (pc' := 512) rfl (hb hby at_488) rfl ((if0 _ _).trans (teq (hv160.trans (if_neg h488_166))).1) (by decide) (by decide) ?_
          show Steps p.tables e below (T161.setTop (mkF m 512 A162 [])) _
          refine XS.iconst X161.here hx rfl (hb hby at_512) ?_
          exact k)
    let A173 : Array Slot := #[.val (.int p0_0), .val (.int p0_1), .val (.int p0_2), .val (.int p0_3), .val (.long q0_4), .second, .val (.long q0_5), .second, .val (.long x2), .second, .val (.long (q0_5 &&& (65535 : Int64))), .second, .val (.long x5), .second, .val (.long x7), .second, .val (.long x9), .second, .val (.int x11), .val (.int v15), .val (.long (x2 + x5)), .second, .val (.long ((x2 + x5) + x7)), .second, .val (.long (((x2 + x5) + x7) + x9)), .second, .val (.int ((p0_2 + x11) - (1 : Int32))), .val (.ref b22), .val (.int x31), .val (.int x42), .val (.int y34), .val (.int y36), .val (.long x49), .second, .val (.long y38), .second, .val (.int x54), .val (.long ((q0_5 &&& (65535 : Int64)) + x7)), .second, .val (.int v61), .val (.int v68), .val (.int v73), .val (.int v78), .val (.long v83), .second, .val (.long v90), .second, .val (.int v97), .val (.int v106), .val (.int v121), .val (.int x135), .val (.int x138), .val (.int v144), .val (.int v151), .val (.int v160), .val (.int v171)]
    have G174 : ∀ t, Steps p.tables e below (T172.setTop (mkF m 517 A173 [(.int v121)])) t → Steps p.tables e below (T172.setTop (mkF m 513 A162 [(.int v171)])) t := by
      intro t k
      show Steps p.tables e below (T172.setTop (mkF m 513 A162 [(.int v171)])) _
      refine XS.istore X172.here hx rfl (hb hby at_513) rfl (l' := A173) rfl ?_
      show Steps p.tables e below (T172.setTop (mkF m 515 A173 [])) _
      refine XS.iload X172.here hx rfl (hb hby at_515) rfl ?_
      exact k
    obtain ⟨v180, hv180⟩ : ∃ z : Int32, z = (if ((x42 = v61 ∧ (y34 = v73 ∧ (y36 = v78 ∧ (x49 = v83 ∧ (y38 = v90 ∧ x54 = v106))))) ∧ (x135 = v144 ∧ x138 = v171)) then (1 : Int32) else (0 : Int32)) := ⟨_, rfl⟩
    obtain ⟨T181, Lo181, X181, N181, e181, G181⟩ := own_join X172 N172 (h := T126.heap) (mkF m 517 A173 [(.int v121)]) (mkF m 539 A173 [(.int v180)]) (by
      by_cases h517_175 : (x42 = v61 ∧ (y34 = v73 ∧ (y36 = v78 ∧ (x49 = v83 ∧ (y38 = v90 ∧ x54 = v106)))))
      · have G176 : ∀ t, Steps p.tables e below (T172.setTop (mkF m 524 A173 [(.int v144), (.int x135)])) t → Steps p.tables e below (T172.setTop (mkF m 517 A173 [(.int v121)])) t := by
          intro t k
          show Steps p.tables e below (T172.setTop (mkF m 517 A173 [(.int v121)])) _
          refine XS.ifNo X172.here hx rfl (hb hby at_517) rfl ((if0 _ _).trans (feq (own_b1 (hv121.trans (if_pos h517_175)))).1) ?_
          show Steps p.tables e below (T172.setTop (mkF m 520 A173 [])) _
          refine XS.iload X172.here hx rfl (hb hby at_520) rfl ?_
          show Steps p.tables e below (T172.setTop (mkF m 522 A173 [(.int x135)])) _
          refine XS.iload X172.here hx rfl (hb hby at_522) rfl ?_
          exact k
        by_cases h524_177 : x135 = v144
        · have G178 : ∀ t, Steps p.tables e below (T172.setTop (mkF m 531 A173 [(.int v171), (.int x138)])) t → Steps p.tables e below (T172.setTop (mkF m 524 A173 [(.int v144), (.int x135)])) t := by
            intro t k
            show Steps p.tables e below (T172.setTop (mkF m 524 A173 [(.int v144), (.int x135)])) _
            refine XS.icmpNo X172.here hx rfl (hb hby at_524) rfl (teq h524_177).2 ?_
            show Steps p.tables e below (T172.setTop (mkF m 527 A173 [])) _
            refine XS.iload X172.here hx rfl (hb hby at_527) rfl ?_
            show Steps p.tables e below (T172.setTop (mkF m 529 A173 [(.int x138)])) _
            refine XS.iload X172.here hx rfl (hb hby at_529) rfl ?_
            exact k
          by_cases h531_179 : x138 = v171
          · refine ⟨T172, _, X172, N172, e172, fun t k => ?_⟩
            rw [show v180 = (1 : Int32) from hv180.trans (if_pos ⟨h517_175, ⟨h524_177, h531_179⟩⟩)] at k
            refine G176 _ ?_
            refine G178 _ ?_
            show Steps p.tables e below (T172.setTop (mkF m 531 A173 [(.int v171), (.int x138)])) _
            refine XS.icmpNo X172.here hx rfl (hb hby at_531) rfl (teq h531_179).2 ?_
            show Steps p.tables e below (T172.setTop (mkF m 534 A173 [])) _
            refine XS.iconst X172.here hx rfl (hb hby at_534) ?_
            show Steps p.tables e below (T172.setTop (mkF m 535 A173 [(.int (1 : Int32))])) _
            refine XS.goto X172.here hx rfl (pc0 := 535) (pc' := 539) rfl (hb hby at_535) (by decide) (by decide) ?_
            exact k
          · refine ⟨T172, _, X172, N172, e172, fun t k => ?_⟩
            rw [show v180 = (0 : Int32) from hv180.trans (if_neg (fun q => (fun q => h531_179 q.2) q.2))] at k
            refine G176 _ ?_
            refine G178 _ ?_
            show Steps p.tables e below (T172.setTop (mkF m 531 A173 [(.int v171), (.int x138)])) _
            refine XS.icmpYes X172.here hx rfl (pc0 := 531) (pc' := 538) rfl (hb hby at_531) rfl (feq h531_179).2 (by decide) (by decide) ?_
            show Steps p.tables e below (T172.setTop (mkF m 538 A173 [])) _
            refine XS.iconst X172.here hx rfl (hb hby at_538) ?_
            exact k
        · refine ⟨T172, _, X172, N172, e172, fun t k => ?_⟩
          rw [show v180 = (0 : Int32) from hv180.trans (if_neg (fun q => (fun q => h524_177 q.1) q.2))] at k
          refine G176 _ ?_
          show Steps p.tables e below (T172.setTop (mkF m 524 A173 [(.int v144), (.int x135)])) _
          refine XS.icmpYes X172.here hx rfl (pc0 := 524) (pc' := 538) rfl (hb hby at_524) rfl (feq h524_177).2 (by decide) (by decide) ?_
          show Steps p.tables e below (T172.setTop (mkF m 538 A173 [])) _
          refine XS.iconst X172.here hx rfl (hb hby at_538) ?_
          exact k
      · refine ⟨T172, _, X172, N172, e172, fun t k => ?_⟩
        rw [show v180 = (0 : Int32) from hv180.trans (if_neg (fun q => h517_175 q.1))] at k
        show Steps p.tables e below (T172.setTop (mkF m 517 A173 [(.int v121)])) _
        refine XS.ifYes X172.here hx rfl (pc0 := 517) (pc' := 538) rfl (hb hby at_517) rfl ((if0 _ _).trans (teq (hv121.trans (if_neg h517_175))).1) (by decide) (by decide) ?_
        show Steps p.tables e below (T172.setTop (mkF m 538 A173 [])) _
        refine XS.iconst X172.here hx rfl (hb hby at_538) ?_
        exact k)
    have fin : v180 = (1 : Int32) := by
      exact own_fin1 p0_0 p0_1 p0_2 p0_3 q0_4 q0_5 x2 hx2 x5 hx5 x7 hx7 x9 hx9 x11 hx11 v15 hv15 y26 hy26 y27 hy27 y28 hy28 y29 hy29 y30 hy30 x31 hx31 y34 hy34 y35 hy35 y36 hy36 y37 hy37 y38 hy38 y39 hy39 y40 hy40 y41 hy41 x42 hx42 x49 hx49 x54 hx54 v61 hv61 v68 hv68 v73 hv73 v78 hv78 v83 hv83 v90 hv90 v97 hv97 v106 hv106 v121 hv121 y127 hy127 y128 hy128 y129 hy129 y130 hy130 y131 hy131 y132 hy132 y133 hy133 y134 hy134 x135 hx135 x138 hx138 v144 hv144 v151 hv151 v160 hv160 v171 hv171 v180 hv180 h386_125
    obtain ⟨fs, hr, hrun, hended, hW, hsame⟩ := X181.leave (v := some (.int (1 : Int32))) (fun h => by rw [Bd.returns] at h; cases h)
    refine ⟨_, _, pre0 _ ?_, hrun, hended, _, _, rfl, ?_, ⟨_, rfl⟩, hW, hsame.mono (by decide) (by decide)⟩
    · refine G13 _ ?_
      refine G16 _ ?_
      refine G57 _ ?_
      refine G62 _ ?_
      refine G64 _ ?_
      refine G69 _ ?_
      refine G71 _ ?_
      refine G74 _ ?_
      refine G76 _ ?_
      refine G79 _ ?_
      refine G81 _ ?_
      refine G84 _ ?_
      refine G86 _ ?_
      refine G91 _ ?_
      refine G93 _ ?_
      refine G98 _ ?_
      refine G100 _ ?_
      refine G107 _ ?_
      refine G109 _ ?_
      refine G122 _ ?_
      refine G124 _ ?_
      refine G140 _ ?_
      refine G145 _ ?_
      refine G147 _ ?_
      refine G152 _ ?_
      refine G154 _ ?_
      refine G161 _ ?_
      refine G163 _ ?_
      refine G172 _ ?_
      refine G174 _ ?_
      refine G181 _ ?_
      show Steps p.tables e below (T181.setTop (mkF m 539 A173 [(.int v180)])) _
      rw [fin]
      exact retN X181 hx (t := .boolean) Bd.returns (by simp) (hb hby at_539) hr
    · exact ⟨rfl, N181⟩
  · have G182 : ∀ t, Steps p.tables e below (T122.setTop (mkF m 542 A123 [(.int v61)])) t → Steps p.tables e below (T122.setTop (mkF m 386 A123 [(.int v15)])) t := by
      intro t k
      show Steps p.tables e below (T122.setTop (mkF m 386 A123 [(.int v15)])) _
      refine XS.ifYes X122.here hx rfl (pc0 := 386) (pc' := 540) rfl (hb hby at_386) rfl ((if0 _ _).trans (teq (hv15.trans (if_neg h386_125))).1) (by decide) (by decide) ?_
      show Steps p.tables e below (T122.setTop (mkF m 540 A123 [])) _
      refine XS.iload X122.here hx rfl (hb hby at_540) rfl ?_
      exact k
    obtain ⟨v184, hv184⟩ : ∃ z : Int32, z = (if (((q0_5 &&& (65535 : Int64)) < (5000 : Int64) ∧ (p0_1 < p0_0 ∧ ¬ ((p0_1 = (-1 : Int32) ∧ ¬ ((0 : Int32) < p0_2))))) ∧ ¬ (((q0_5 &&& (65535 : Int64)) + x7) < (5000 : Int64))) then p0_1 else (-1 : Int32)) := ⟨_, rfl⟩
    obtain ⟨T185, Lo185, X185, N185, e185, G185⟩ := own_join X122 N122 (h := T33.heap) (mkF m 542 A123 [(.int v61)]) (mkF m 550 A123 [(.int v184)]) (by
      by_cases h542_183 : (((q0_5 &&& (65535 : Int64)) < (5000 : Int64) ∧ (p0_1 < p0_0 ∧ ¬ ((p0_1 = (-1 : Int32) ∧ ¬ ((0 : Int32) < p0_2))))) ∧ ¬ (((q0_5 &&& (65535 : Int64)) + x7) < (5000 : Int64)))
      · refine ⟨T122, _, X122, N122, e122, fun t k => ?_⟩
        rw [show v184 = p0_1 from hv184.trans (if_pos h542_183)] at k
        show Steps p.tables e below (T122.setTop (mkF m 542 A123 [(.int v61)])) _
        refine XS.ifNo X122.here hx rfl (hb hby at_542) rfl ((if0 _ _).trans (feq (own_b1 (hv61.trans (if_pos h542_183)))).1) ?_
        show Steps p.tables e below (T122.setTop (mkF m 545 A123 [])) _
        refine XS.iloadN X122.here hx rfl (hb hby at_545) rfl ?_
        show Steps p.tables e below (T122.setTop (mkF m 546 A123 [(.int p0_1)])) _
        refine XS.goto X122.here hx rfl (pc0 := 546) (pc' := 550) rfl (hb hby at_546) (by decide) (by decide) ?_
        exact k
      · refine ⟨T122, _, X122, N122, e122, fun t k => ?_⟩
        rw [show v184 = (-1 : Int32) from hv184.trans (if_neg h542_183)] at k
        show Steps p.tables e below (T122.setTop (mkF m 542 A123 [(.int v61)])) _
        refine XS.ifYes X122.here hx rfl (pc0 := 542) (pc' := 549) rfl (hb hby at_542) rfl ((if0 _ _).trans (teq (hv61.trans (if_neg h542_183))).1) (by decide) (by decide) ?_
        show Steps p.tables e below (T122.setTop (mkF m 549 A123 [])) _
        refine XS.iconst X122.here hx rfl (hb hby at_549) ?_
        exact k)
    let A186 : Array Slot := #[.val (.int p0_0), .val (.int p0_1), .val (.int p0_2), .val (.int p0_3), .val (.long q0_4), .second, .val (.long q0_5), .second, .val (.long x2), .second, .val (.long (q0_5 &&& (65535 : Int64))), .second, .val (.long x5), .second, .val (.long x7), .second, .val (.long x9), .second, .val (.int x11), .val (.int v15), .val (.long (x2 + x5)), .second, .val (.long ((x2 + x5) + x7)), .second, .val (.long (((x2 + x5) + x7) + x9)), .second, .val (.int ((p0_2 + x11) - (1 : Int32))), .val (.ref b22), .val (.int x31), .val (.int x42), .val (.int y34), .val (.int y36), .val (.long x49), .second, .val (.long y38), .second, .val (.int x54), .val (.long ((q0_5 &&& (65535 : Int64)) + x7)), .second, .val (.int v61), .val (.int v68), .val (.int v73), .val (.int v78), .val (.long v83), .second, .val (.long v90), .second, .val (.int v97), .val (.int v106), .val (.int v121), .val (.int v184), .unset, .unset, .unset, .unset, .unset]
    have G187 : ∀ t, Steps p.tables e below (T185.setTop (mkF m 554 A186 [(.int v61)])) t → Steps p.tables e below (T185.setTop (mkF m 550 A123 [(.int v184)])) t := by
      intro t k
      show Steps p.tables e below (T185.setTop (mkF m 550 A123 [(.int v184)])) _
      refine XS.istore X185.here hx rfl (hb hby at_550) rfl (l' := A186) rfl ?_
      show Steps p.tables e below (T185.setTop (mkF m 552 A186 [])) _
      refine XS.iload X185.here hx rfl (hb hby at_552) rfl ?_
      exact k
    obtain ⟨v189, hv189⟩ : ∃ z : Int32, z = (if (((q0_5 &&& (65535 : Int64)) < (5000 : Int64) ∧ (p0_1 < p0_0 ∧ ¬ ((p0_1 = (-1 : Int32) ∧ ¬ ((0 : Int32) < p0_2))))) ∧ ¬ (((q0_5 &&& (65535 : Int64)) + x7) < (5000 : Int64))) then p0_2 else (0 : Int32)) := ⟨_, rfl⟩
    obtain ⟨T190, Lo190, X190, N190, e190, G190⟩ := own_join X185 N185 (h := T33.heap) (mkF m 554 A186 [(.int v61)]) (mkF m 562 A186 [(.int v189)]) (by
      by_cases h554_188 : (((q0_5 &&& (65535 : Int64)) < (5000 : Int64) ∧ (p0_1 < p0_0 ∧ ¬ ((p0_1 = (-1 : Int32) ∧ ¬ ((0 : Int32) < p0_2))))) ∧ ¬ (((q0_5 &&& (65535 : Int64)) + x7) < (5000 : Int64)))
      · refine ⟨T185, _, X185, N185, e185, fun t k => ?_⟩
        rw [show v189 = p0_2 from hv189.trans (if_pos h554_188)] at k
        show Steps p.tables e below (T185.setTop (mkF m 554 A186 [(.int v61)])) _
        refine XS.ifNo X185.here hx rfl (hb hby at_554) rfl ((if0 _ _).trans (feq (own_b1 (hv61.trans (if_pos h554_188)))).1) ?_
        show Steps p.tables e below (T185.setTop (mkF m 557 A186 [])) _
        refine XS.iloadN X185.here hx rfl (hb hby at_557) rfl ?_
        show Steps p.tables e below (T185.setTop (mkF m 558 A186 [(.int p0_2)])) _
        refine XS.goto X185.here hx rfl (pc0 := 558) (pc' := 562) rfl (hb hby at_558) (by decide) (by decide) ?_
        exact k
      · refine ⟨T185, _, X185, N185, e185, fun t k => ?_⟩
        rw [show v189 = (0 : Int32) from hv189.trans (if_neg h554_188)] at k
        show Steps p.tables e below (T185.setTop (mkF m 554 A186 [(.int v61)])) _
        refine XS.ifYes X185.here hx rfl (pc0 := 554) (pc' := 561) rfl (hb hby at_554) rfl ((if0 _ _).trans (teq (hv61.trans (if_neg h554_188))).1) (by decide) (by decide) ?_
        show Steps p.tables e below (T185.setTop (mkF m 561 A186 [])) _
        refine XS.iconst X185.here hx rfl (hb hby at_561) ?_
        exact k)
    let A191 : Array Slot := #[.val (.int p0_0), .val (.int p0_1), .val (.int p0_2), .val (.int p0_3), .val (.long q0_4), .second, .val (.long q0_5), .second, .val (.long x2), .second, .val (.long (q0_5 &&& (65535 : Int64))), .second, .val (.long x5), .second, .val (.long x7), .second, .val (.long x9), .second, .val (.int x11), .val (.int v15), .val (.long (x2 + x5)), .second, .val (.long ((x2 + x5) + x7)), .second, .val (.long (((x2 + x5) + x7) + x9)), .second, .val (.int ((p0_2 + x11) - (1 : Int32))), .val (.ref b22), .val (.int x31), .val (.int x42), .val (.int y34), .val (.int y36), .val (.long x49), .second, .val (.long y38), .second, .val (.int x54), .val (.long ((q0_5 &&& (65535 : Int64)) + x7)), .second, .val (.int v61), .val (.int v68), .val (.int v73), .val (.int v78), .val (.long v83), .second, .val (.long v90), .second, .val (.int v97), .val (.int v106), .val (.int v121), .val (.int v184), .val (.int v189), .unset, .unset, .unset, .unset]
    have G192 : ∀ t, Steps p.tables e below (T190.setTop (mkF m 567 A191 [(.int v184), (.int p0_1)])) t → Steps p.tables e below (T190.setTop (mkF m 562 A186 [(.int v189)])) t := by
      intro t k
      show Steps p.tables e below (T190.setTop (mkF m 562 A186 [(.int v189)])) _
      refine XS.istore X190.here hx rfl (hb hby at_562) rfl (l' := A191) rfl ?_
      show Steps p.tables e below (T190.setTop (mkF m 564 A191 [])) _
      refine XS.iloadN X190.here hx rfl (hb hby at_564) rfl ?_
      show Steps p.tables e below (T190.setTop (mkF m 565 A191 [(.int p0_1)])) _
      refine XS.iload X190.here hx rfl (hb hby at_565) rfl ?_
      exact k
    obtain ⟨v196, hv196⟩ : ∃ z : Int32, z = (if (p0_1 = v184 ∧ ¬ (v189 < ((p0_2 + x11) - (1 : Int32)))) then (1 : Int32) else (0 : Int32)) := ⟨_, rfl⟩
    obtain ⟨T197, Lo197, X197, N197, e197, G197⟩ := own_join X190 N190 (h := T33.heap) (mkF m 567 A191 [(.int v184), (.int p0_1)]) (mkF m 582 A191 [(.int v196)]) (by
      by_cases h567_193 : p0_1 = v184
      · have G194 : ∀ t, Steps p.tables e below (T190.setTop (mkF m 574 A191 [(.int v189), (.int ((p0_2 + x11) - (1 : Int32)))])) t → Steps p.tables e below (T190.setTop (mkF m 567 A191 [(.int v184), (.int p0_1)])) t := by
          intro t k
          show Steps p.tables e below (T190.setTop (mkF m 567 A191 [(.int v184), (.int p0_1)])) _
          refine XS.icmpNo X190.here hx rfl (hb hby at_567) rfl (teq h567_193).2 ?_
          show Steps p.tables e below (T190.setTop (mkF m 570 A191 [])) _
          refine XS.iload X190.here hx rfl (hb hby at_570) rfl ?_
          show Steps p.tables e below (T190.setTop (mkF m 572 A191 [(.int ((p0_2 + x11) - (1 : Int32)))])) _
          refine XS.iload X190.here hx rfl (hb hby at_572) rfl ?_
          exact k
        by_cases h574_195 : v189 < ((p0_2 + x11) - (1 : Int32))
        · refine ⟨T190, _, X190, N190, e190, fun t k => ?_⟩
          rw [show v196 = (0 : Int32) from hv196.trans (if_neg (fun q => (fun q => q h574_195) q.2))] at k
          refine G194 _ ?_
          show Steps p.tables e below (T190.setTop (mkF m 574 A191 [(.int v189), (.int ((p0_2 + x11) - (1 : Int32)))])) _
          refine XS.icmpYes X190.here hx rfl (pc0 := 574) (pc' := 581) rfl (hb hby at_574) rfl (tlt h574_195).2.2.1 (by decide) (by decide) ?_
          show Steps p.tables e below (T190.setTop (mkF m 581 A191 [])) _
          refine XS.iconst X190.here hx rfl (hb hby at_581) ?_
          exact k
        · refine ⟨T190, _, X190, N190, e190, fun t k => ?_⟩
          rw [show v196 = (1 : Int32) from hv196.trans (if_pos ⟨h567_193, h574_195⟩)] at k
          refine G194 _ ?_
          show Steps p.tables e below (T190.setTop (mkF m 574 A191 [(.int v189), (.int ((p0_2 + x11) - (1 : Int32)))])) _
          refine XS.icmpNo X190.here hx rfl (hb hby at_574) rfl (flt h574_195).2.2.1 ?_
          show Steps p.tables e below (T190.setTop (mkF m 577 A191 [])) _
          refine XS.iconst X190.here hx rfl (hb hby at_577) ?_
          show Steps p.tables e below (T190.setTop (mkF m 578 A191 [(.int (1 : Int32))])) _
          refine XS.goto X190.here hx rfl (pc0 := 578) (pc' := 582) rfl (hb hby at_578) (by decide) (by decide) ?_
          exact k
      · refine ⟨T190, _, X190, N190, e190, fun t k => ?_⟩
        rw [show v196 = (0 : Int32) from hv196.trans (if_neg (fun q => h567_193 q.1))] at k
        show Steps p.tables e below (T190.setTop (mkF m 567 A191 [(.int v184), (.int p0_1)])) _
        refine XS.icmpYes X190.here hx rfl (pc0 := 567) (pc' := 581) rfl (hb hby at_567) rfl (feq h567_193).2 (by decide) (by decide) ?_
        show Steps p.tables e below (T190.setTop (mkF m 581 A191 [])) _
        refine XS.iconst X190.here hx rfl (hb hby at_581) ?_
        exact k)
    let A198 : Array Slot := #[.val (.int p0_0), .val (.int p0_1), .val (.int p0_2), .val (.int p0_3), .val (.long q0_4), .second, .val (.long q0_5), .second, .val (.long x2), .second, .val (.long (q0_5 &&& (65535 : Int64))), .second, .val (.long x5), .second, .val (.long x7), .second, .val (.long x9), .second, .val (.int x11), .val (.int v15), .val (.long (x2 + x5)), .second, .val (.long ((x2 + x5) + x7)), .second, .val (.long (((x2 + x5) + x7) + x9)), .second, .val (.int ((p0_2 + x11) - (1 : Int32))), .val (.ref b22), .val (.int x31), .val (.int x42), .val (.int y34), .val (.int y36), .val (.long x49), .second, .val (.long y38), .second, .val (.int x54), .val (.long ((q0_5 &&& (65535 : Int64)) + x7)), .second, .val (.int v61), .val (.int v68), .val (.int v73), .val (.int v78), .val (.long v83), .second, .val (.long v90), .second, .val (.int v97), .val (.int v106), .val (.int v121), .val (.int v184), .val (.int v189), .val (.int v196), .unset, .unset, .unset]
    have G199 : ∀ t, Steps p.tables e below (T197.setTop (mkF m 587 A198 [(.int v73), (.int p0_1)])) t → Steps p.tables e below (T197.setTop (mkF m 582 A191 [(.int v196)])) t := by
      intro t k
      show Steps p.tables e below (T197.setTop (mkF m 582 A191 [(.int v196)])) _
      refine XS.istore X197.here hx rfl (hb hby at_582) rfl (l' := A198) rfl ?_
      show Steps p.tables e below (T197.setTop (mkF m 584 A198 [])) _
      refine XS.iloadN X197.here hx rfl (hb hby at_584) rfl ?_
      show Steps p.tables e below (T197.setTop (mkF m 585 A198 [(.int p0_1)])) _
      refine XS.iload X197.here hx rfl (hb hby at_585) rfl ?_
      exact k
    obtain ⟨v203, hv203⟩ : ∃ z : Int32, z = (if (p0_1 < v73 ∧ ¬ ((p0_1 = v184 ∧ ¬ (v189 < ((p0_2 + x11) - (1 : Int32)))))) then (1 : Int32) else (0 : Int32)) := ⟨_, rfl⟩
    obtain ⟨T204, Lo204, X204, N204, e204, G204⟩ := own_join X197 N197 (h := T33.heap) (mkF m 587 A198 [(.int v73), (.int p0_1)]) (mkF m 600 A198 [(.int v203)]) (by
      by_cases h587_200 : p0_1 < v73
      · have G201 : ∀ t, Steps p.tables e below (T197.setTop (mkF m 592 A198 [(.int v196)])) t → Steps p.tables e below (T197.setTop (mkF m 587 A198 [(.int v73), (.int p0_1)])) t := by
          intro t k
          show Steps p.tables e below (T197.setTop (mkF m 587 A198 [(.int v73), (.int p0_1)])) _
          refine XS.icmpNo X197.here hx rfl (hb hby at_587) rfl (tlt h587_200).2.1 ?_
          show Steps p.tables e below (T197.setTop (mkF m 590 A198 [])) _
          refine XS.iload X197.here hx rfl (hb hby at_590) rfl ?_
          exact k
        by_cases h592_202 : (p0_1 = v184 ∧ ¬ (v189 < ((p0_2 + x11) - (1 : Int32))))
        · refine ⟨T197, _, X197, N197, e197, fun t k => ?_⟩
          rw [show v203 = (0 : Int32) from hv203.trans (if_neg (fun q => (fun q => q h592_202) q.2))] at k
          refine G201 _ ?_
          show Steps p.tables e below (T197.setTop (mkF m 592 A198 [(.int v196)])) _
          refine XS.ifYes X197.here hx rfl (pc0 := 592) (pc' := 599) rfl (hb hby at_592) rfl ((if0 _ _).trans (feq (own_b1 (hv196.trans (if_pos h592_202)))).2) (by decide) (by decide) ?_
          show Steps p.tables e below (T197.setTop (mkF m 599 A198 [])) _
          refine XS.iconst X197.here hx rfl (hb hby at_599) ?_
          exact k
        · refine ⟨T197, _, X197, N197, e197, fun t k => ?_⟩
          rw [show v203 = (1 : Int32) from hv203.trans (if_pos ⟨h587_200, h592_202⟩)] at k
          refine G201 _ ?_
          show Steps p.tables e below (T197.setTop (mkF m 592 A198 [(.int v196)])) _
          refine XS.ifNo X197.here hx rfl (hb hby at_592) rfl ((if0 _ _).trans (teq (hv196.trans (if_neg h592_202))).2) ?_
          show Steps p.tables e below (T197.setTop (mkF m 595 A198 [])) _
          refine XS.iconst X197.here hx rfl (hb hby at_595) ?_
          show Steps p.tables e below (T197.setTop (mkF m 596 A198 [(.int (1 : Int32))])) _
          refine XS.goto X197.here hx rfl (pc0 := 596) (pc' := 600) rfl (hb hby at_596) (by decide) (by decide) ?_
          exact k
      · refine ⟨T197, _, X197, N197, e197, fun t k => ?_⟩
        rw [show v203 = (0 : Int32) from hv203.trans (if_neg (fun q => h587_200 q.1))] at k
        show Steps p.tables e below (T197.setTop (mkF m 587 A198 [(.int v73), (.int p0_1)])) _
        refine XS.icmpYes X197.here hx rfl (pc0 := 587) (pc' := 599) rfl (hb hby at_587) rfl (flt h587_200).2.1 (by decide) (by decide) ?_
        show Steps p.tables e below (T197.setTop (mkF m 599 A198 [])) _
        refine XS.iconst X197.here hx rfl (hb hby at_599) ?_
        exact k)
    let A205 : Array Slot := #[.val (.int p0_0), .val (.int p0_1), .val (.int p0_2), .val (.int p0_3), .val (.long q0_4), .second, .val (.long q0_5), .second, .val (.long x2), .second, .val (.long (q0_5 &&& (65535 : Int64))), .second, .val (.long x5), .second, .val (.long x7), .second, .val (.long x9), .second, .val (.int x11), .val (.int v15), .val (.long (x2 + x5)), .second, .val (.long ((x2 + x5) + x7)), .second, .val (.long (((x2 + x5) + x7) + x9)), .second, .val (.int ((p0_2 + x11) - (1 : Int32))), .val (.ref b22), .val (.int x31), .val (.int x42), .val (.int y34), .val (.int y36), .val (.long x49), .second, .val (.long y38), .second, .val (.int x54), .val (.long ((q0_5 &&& (65535 : Int64)) + x7)), .second, .val (.int v61), .val (.int v68), .val (.int v73), .val (.int v78), .val (.long v83), .second, .val (.long v90), .second, .val (.int v97), .val (.int v106), .val (.int v121), .val (.int v184), .val (.int v189), .val (.int v196), .val (.int v203), .unset, .unset]
    obtain ⟨cq206, kq206, q206a, q206b, q206c⟩ := isOf hZ e204 P33_1
    obtain ⟨_, _, ⟨T206, L206, k206, n206⟩, -, X206, ⟨Lc206, hQ206, l206, y206, z206⟩, st206⟩ := X204.virtualBack hx (y := (⟨"com/example/halozat/halozat/node/Leader", "hear", "(IIJJ)Z"⟩ : MethodName)) (z := (⟨"com/example/halozat/halozat/node/Leader", "hear", "(IIJJ)Z"⟩ : MethodName)) hown (mvT hZ (ow23 hw)) (mvT hZ (ow24 hw)) (notFace_of_selects (args := #[]) (mvT hZ (ow26 hw))) (mvT hZ (ow26 hw)) (mvT hZ (ow25 hw)) (by decide) (backOf (W := 0) (rm3 l Z a0 hw [] b22 p0_1 ((p0_2 + x11) - (1 : Int32)) (0 : Int64) ((x2 + x5) + x7) y35 y37 y34 y36 y39 y38 y40 y41 T33.heap n0 Z33 P33_2 P33_4 P33_0 P33_3 P33_1 g_b22 P33_6 P33_5 P33_7 P33_8) hZ (ow27 hw) (ow5 hw) (by decide) (by decide)) q206a q206c (g := (mkF m 610 A205 [(.long ((x2 + x5) + x7)), (.long (0 : Int64)), (.int ((p0_2 + x11) - (1 : Int32))), (.int p0_1), (.ref b22)])) rfl (by rw [hml]; rfl) (Steps.refl _) (argsL := [(.int p0_1), (.int ((p0_2 + x11) - (1 : Int32))), (.long (0 : Int64)), (.long ((x2 + x5) + x7))]) (rest := []) (lenOf pd__IIJJ_Z rfl) rfl (by show 2 * 0 + _ ≤ _; exact Nat.le_of_eq rfl) (hb hby at_610) (fun _ _ => ⟨rfl, e204, (by decide : 1 + 0 ≤ _), (by decide : 8 + 0 ≤ _)⟩)
    dsimp only [Pt.U, Pt.locs, Pt.cells, Pt.slots] at X206 l206 y206 z206 st206 hQ206
    subst l206 y206 z206
    obtain ⟨rfl, Nq206, Kc206, P206_0, P206_1, P206_2, P206_3, P206_4, P206_5, P206_6, P206_7, P206_8⟩ := hQ206
    have K206 : Keep h0 T206.heap [] := Keep.trans K33 Kc206 (allS (P := fun x => x ∈ ([] : List Addr) ∨ h0.size ≤ x) (Or.inr sz_b22) all0)
    have Z206 : n0 ≤ T206.heap.size := Nat.le_trans Z0 K206.1
    obtain ⟨y207, hy207⟩ : ∃ z : Int32, z = (if ((0 : Int64) < (5000 : Int64) ∧ (p0_1 < y34 ∧ ¬ ((p0_1 = y35 ∧ ¬ (y37 < ((p0_2 + x11) - (1 : Int32))))))) then p0_1 else (if (p0_1 = y34 ∧ y36 < ((p0_2 + x11) - (1 : Int32))) then p0_1 else y34)) := ⟨_, rfl⟩
    rw [← hy207] at P206_1
    obtain ⟨y208, hy208⟩ : ∃ z : Int32, z = (if ((0 : Int64) < (5000 : Int64) ∧ (p0_1 < y34 ∧ ¬ ((p0_1 = y35 ∧ ¬ (y37 < ((p0_2 + x11) - (1 : Int32))))))) then ((p0_2 + x11) - (1 : Int32)) else (if (p0_1 = y34 ∧ y36 < ((p0_2 + x11) - (1 : Int32))) then ((p0_2 + x11) - (1 : Int32)) else y36)) := ⟨_, rfl⟩
    rw [← hy208] at P206_3
    obtain ⟨y209, hy209⟩ : ∃ z : Int64, z = (if ((0 : Int64) < (5000 : Int64) ∧ (p0_1 < y34 ∧ ¬ ((p0_1 = y35 ∧ ¬ (y37 < ((p0_2 + x11) - (1 : Int32))))))) then (((x2 + x5) + x7) - (0 : Int64)) else (if (p0_1 = y34 ∧ y36 < ((p0_2 + x11) - (1 : Int32))) then (((x2 + x5) + x7) - (0 : Int64)) else y39)) := ⟨_, rfl⟩
    rw [← hy209] at P206_4
    obtain ⟨y210, hy210⟩ : ∃ z : Int64, z = (if ((0 : Int64) < (5000 : Int64) ∧ (p0_1 < y34 ∧ ¬ ((p0_1 = y35 ∧ ¬ (y37 < ((p0_2 + x11) - (1 : Int32))))))) then ((x2 + x5) + x7) else y38) := ⟨_, rfl⟩
    rw [← hy210] at P206_5
    obtain ⟨y211, hy211⟩ : ∃ z : Int64, z = (if ((0 : Int64) < (5000 : Int64) ∧ (p0_1 < y34 ∧ ¬ ((p0_1 = y35 ∧ ¬ (y37 < ((p0_2 + x11) - (1 : Int32))))))) then (((x2 + x5) + x7) + (1000 : Int64)) else y40) := ⟨_, rfl⟩
    rw [← hy211] at P206_6
    have N206 := Fr.app N204 Nq206
    obtain ⟨x212, hx212⟩ : ∃ z : Int32, z = (if ((0 : Int64) < (5000 : Int64) ∧ (p0_1 < y34 ∧ ¬ ((p0_1 = y35 ∧ ¬ (y37 < ((p0_2 + x11) - (1 : Int32))))))) then (1 : Int32) else (0 : Int32)) := ⟨_, rfl⟩
    let A213 : Array Slot := #[.val (.int p0_0), .val (.int p0_1), .val (.int p0_2), .val (.int p0_3), .val (.long q0_4), .second, .val (.long q0_5), .second, .val (.long x2), .second, .val (.long (q0_5 &&& (65535 : Int64))), .second, .val (.long x5), .second, .val (.long x7), .second, .val (.long x9), .second, .val (.int x11), .val (.int v15), .val (.long (x2 + x5)), .second, .val (.long ((x2 + x5) + x7)), .second, .val (.long (((x2 + x5) + x7) + x9)), .second, .val (.int ((p0_2 + x11) - (1 : Int32))), .val (.ref b22), .val (.int x31), .val (.int x42), .val (.int y34), .val (.int y36), .val (.long x49), .second, .val (.long y38), .second, .val (.int x54), .val (.long ((q0_5 &&& (65535 : Int64)) + x7)), .second, .val (.int v61), .val (.int v68), .val (.int v73), .val (.int v78), .val (.long v83), .second, .val (.long v90), .second, .val (.int v97), .val (.int v106), .val (.int v121), .val (.int v184), .val (.int v189), .val (.int v196), .val (.int v203), .val (.int x212), .unset]
    have G214 : ∀ t, Steps p.tables e below (T206.setTop (mkF m 617 A213 [(.int v121)])) t → Steps p.tables e below (T204.setTop (mkF m 600 A198 [(.int v203)])) t := by
      intro t k
      show Steps p.tables e below (T204.setTop (mkF m 600 A198 [(.int v203)])) _
      refine XS.istore X204.here hx rfl (hb hby at_600) rfl (l' := A205) rfl ?_
      show Steps p.tables e below (T204.setTop (mkF m 602 A205 [])) _
      refine XS.aload X204.here hx rfl (hb hby at_602) rfl rfl ?_
      show Steps p.tables e below (T204.setTop (mkF m 604 A205 [(.ref b22)])) _
      refine XS.iloadN X204.here hx rfl (hb hby at_604) rfl ?_
      show Steps p.tables e below (T204.setTop (mkF m 605 A205 [(.int p0_1), (.ref b22)])) _
      refine XS.iload X204.here hx rfl (hb hby at_605) rfl ?_
      show Steps p.tables e below (T204.setTop (mkF m 607 A205 [(.int ((p0_2 + x11) - (1 : Int32))), (.int p0_1), (.ref b22)])) _
      refine XS.lconst X204.here hx rfl (hb hby at_607) ?_
      show Steps p.tables e below (T204.setTop (mkF m 608 A205 [(.long (0 : Int64)), (.int ((p0_2 + x11) - (1 : Int32))), (.int p0_1), (.ref b22)])) _
      refine XS.lload X204.here hx rfl (hb hby at_608) rfl ?_
      show Steps p.tables e below (T204.setTop (mkF m 610 A205 [(.long ((x2 + x5) + x7)), (.long (0 : Int64)), (.int ((p0_2 + x11) - (1 : Int32))), (.int p0_1), (.ref b22)])) _
      refine st206.trans ?_
      show Steps p.tables e below (T206.setTop (mkF m 613 A205 [(.int (if ((0 : Int64) < (5000 : Int64) ∧ (p0_1 < y34 ∧ ¬ ((p0_1 = y35 ∧ ¬ (y37 < ((p0_2 + x11) - (1 : Int32))))))) then (1 : Int32) else (0 : Int32)))])) _
      rw [← hx212]
      show Steps p.tables e below (T206.setTop (mkF m 613 A205 [(.int x212)])) _
      refine XS.istore X206.here hx rfl (hb hby at_613) rfl (l' := A213) rfl ?_
      show Steps p.tables e below (T206.setTop (mkF m 615 A213 [])) _
      refine XS.iload X206.here hx rfl (hb hby at_615) rfl ?_
      exact k
    obtain ⟨v218, hv218⟩ : ∃ z : Int32, z = (if ((x42 = v61 ∧ (y34 = v73 ∧ (y36 = v78 ∧ (x49 = v83 ∧ (y38 = v90 ∧ x54 = v106))))) ∧ x212 = v203) then (1 : Int32) else (0 : Int32)) := ⟨_, rfl⟩
    obtain ⟨T219, Lo219, X219, N219, e219, G219⟩ := own_join X206 N206 (h := T206.heap) (mkF m 617 A213 [(.int v121)]) (mkF m 632 A213 [(.int v218)]) (by
      by_cases h617_215 : (x42 = v61 ∧ (y34 = v73 ∧ (y36 = v78 ∧ (x49 = v83 ∧ (y38 = v90 ∧ x54 = v106)))))
      · have G216 : ∀ t, Steps p.tables e below (T206.setTop (mkF m 624 A213 [(.int v203), (.int x212)])) t → Steps p.tables e below (T206.setTop (mkF m 617 A213 [(.int v121)])) t := by
          intro t k
          show Steps p.tables e below (T206.setTop (mkF m 617 A213 [(.int v121)])) _
          refine XS.ifNo X206.here hx rfl (hb hby at_617) rfl ((if0 _ _).trans (feq (own_b1 (hv121.trans (if_pos h617_215)))).1) ?_
          show Steps p.tables e below (T206.setTop (mkF m 620 A213 [])) _
          refine XS.iload X206.here hx rfl (hb hby at_620) rfl ?_
          show Steps p.tables e below (T206.setTop (mkF m 622 A213 [(.int x212)])) _
          refine XS.iload X206.here hx rfl (hb hby at_622) rfl ?_
          exact k
        by_cases h624_217 : x212 = v203
        · refine ⟨T206, _, X206, N206, rfl, fun t k => ?_⟩
          rw [show v218 = (1 : Int32) from hv218.trans (if_pos ⟨h617_215, h624_217⟩)] at k
          refine G216 _ ?_
          show Steps p.tables e below (T206.setTop (mkF m 624 A213 [(.int v203), (.int x212)])) _
          refine XS.icmpNo X206.here hx rfl (hb hby at_624) rfl (teq h624_217).2 ?_
          show Steps p.tables e below (T206.setTop (mkF m 627 A213 [])) _
          refine XS.iconst X206.here hx rfl (hb hby at_627) ?_
          show Steps p.tables e below (T206.setTop (mkF m 628 A213 [(.int (1 : Int32))])) _
          refine XS.goto X206.here hx rfl (pc0 := 628) (pc' := 632) rfl (hb hby at_628) (by decide) (by decide) ?_
          exact k
        · refine ⟨T206, _, X206, N206, rfl, fun t k => ?_⟩
          rw [show v218 = (0 : Int32) from hv218.trans (if_neg (fun q => h624_217 q.2))] at k
          refine G216 _ ?_
          show Steps p.tables e below (T206.setTop (mkF m 624 A213 [(.int v203), (.int x212)])) _
          refine XS.icmpYes X206.here hx rfl (pc0 := 624) (pc' := 631) rfl (hb hby at_624) rfl (feq h624_217).2 (by decide) (by decide) ?_
          show Steps p.tables e below (T206.setTop (mkF m 631 A213 [])) _
          refine XS.iconst X206.here hx rfl (hb hby at_631) ?_
          exact k
      · refine ⟨T206, _, X206, N206, rfl, fun t k => ?_⟩
        rw [show v218 = (0 : Int32) from hv218.trans (if_neg (fun q => h617_215 q.1))] at k
        show Steps p.tables e below (T206.setTop (mkF m 617 A213 [(.int v121)])) _
        refine XS.ifYes X206.here hx rfl (pc0 := 617) (pc' := 631) rfl (hb hby at_617) rfl ((if0 _ _).trans (teq (hv121.trans (if_neg h617_215))).1) (by decide) (by decide) ?_
        show Steps p.tables e below (T206.setTop (mkF m 631 A213 [])) _
        refine XS.iconst X206.here hx rfl (hb hby at_631) ?_
        exact k)
    have fin : v218 = (1 : Int32) := by
      exact own_fin2 p0_0 p0_1 p0_2 p0_3 q0_4 q0_5 x2 hx2 x5 hx5 x7 hx7 x9 hx9 x11 hx11 v15 hv15 y26 hy26 y27 hy27 y28 hy28 y29 hy29 y30 hy30 x31 hx31 y34 hy34 y35 hy35 y36 hy36 y37 hy37 y38 hy38 y39 hy39 y40 hy40 y41 hy41 x42 hx42 x49 hx49 x54 hx54 v61 hv61 v68 hv68 v73 hv73 v78 hv78 v83 hv83 v90 hv90 v97 hv97 v106 hv106 v121 hv121 v184 hv184 v189 hv189 v196 hv196 v203 hv203 y207 hy207 y208 hy208 y209 hy209 y210 hy210 y211 hy211 x212 hx212 v218 hv218 h386_125
    obtain ⟨fs, hr, hrun, hended, hW, hsame⟩ := X219.leave (v := some (.int (1 : Int32))) (fun h => by rw [Bd.returns] at h; cases h)
    refine ⟨_, _, pre0 _ ?_, hrun, hended, _, _, rfl, ?_, ⟨_, rfl⟩, hW, hsame.mono (by decide) (by decide)⟩
    · refine G13 _ ?_
      refine G16 _ ?_
      refine G57 _ ?_
      refine G62 _ ?_
      refine G64 _ ?_
      refine G69 _ ?_
      refine G71 _ ?_
      refine G74 _ ?_
      refine G76 _ ?_
      refine G79 _ ?_
      refine G81 _ ?_
      refine G84 _ ?_
      refine G86 _ ?_
      refine G91 _ ?_
      refine G93 _ ?_
      refine G98 _ ?_
      refine G100 _ ?_
      refine G107 _ ?_
      refine G109 _ ?_
      refine G122 _ ?_
      refine G124 _ ?_
      refine G182 _ ?_
      refine G185 _ ?_
      refine G187 _ ?_
      refine G190 _ ?_
      refine G192 _ ?_
      refine G197 _ ?_
      refine G199 _ ?_
      refine G204 _ ?_
      refine G214 _ ?_
      refine G219 _ ?_
      show Steps p.tables e below (T219.setTop (mkF m 632 A213 [(.int v218)])) _
      rw [fin]
      exact retN X219 hx (t := .boolean) Bd.returns (by simp) (hb hby at_632) hr
    · exact ⟨rfl, N219⟩
set_option maxRecDepth 65536 in
set_option maxHeartbeats 40000000 in
theorem comes_1 {Post : Tables → Env → Array Value → State → Outcome → State → Prop} (hpost : ∀ tb e args s v u, (limb_1_1.after args s (.returned v) u = true ∧ limb_1_2.after args s (.returned v) u = true ∧ True) → FrameEnd s (.returned v) u (Jvm.fieldLocs frame_1_writes args s ++ Jvm.arrayLocs frame_1_arrays args s ++ Jvm.staticLocs frame_1_statics s) 16 128 → Post tb e args s (.returned v) u) :
    ArmFor flags0 classFile x code maxLocals ret World_1 tables_1 room_1 Calls_1 rest_1 Pre_1 Post := by
  intro l hfl _ _ p e ha hc hk s m args below hf hA hF happ hP
  obtain ⟨hcalls, hrest, hpre⟩ := hP
  obtain ⟨-, -, -, hnamed, -, -, -, hat⟩ := (Spec.applies_iff hf).mp happ
  obtain ⟨hg, hn⟩ := and_e (Cond.before_iff.mp (show (Jvm.Cond.and given_1 narrow_1).before args s = true from hpre))
  obtain ⟨g1, g2⟩ := and_e hg
  obtain ⟨g3, g4⟩ := and_e g2
  obtain ⟨g5, g6⟩ := and_e g4
  obtain ⟨g7, g8⟩ := and_e g6
  obtain ⟨g9, g10⟩ := and_e g8
  obtain ⟨g11, g12⟩ := and_e g10
  obtain ⟨w0, w1, w2, w3, w4, w5, rfl⟩ : ∃ w0 w1 w2 w3 w4 w5 : Value, args = #[w0, w1, w2, w3, w4, w5] := by
    have hs : args.size = 6 := by simpa [Cond.value, given_1] using g1
    obtain ⟨L⟩ := args
    match L, hs with
    | [w0, w1, w2, w3, w4, w5], _ => exact ⟨w0, w1, w2, w3, w4, w5, rfl⟩
  have hw := fun d (hd : d ∈ tables_1) => atoms_spec (ws := Jvm.Cond.code x code maxLocals ret :: tables_1) hat d (List.mem_cons_of_mem _ hd)
  have hfit : Fit s := fun {y c} hc i hi => by
    obtain ⟨ha, rfl⟩ := Array.getElem?_eq_some_iff.mp hc
    have q := List.all_eq_true.mp ((Array.all_eq_true_iff_forall_mem.mp hF) _ (Array.getElem_mem ha)) i (List.mem_range.mpr hi)
    simpa [Array.getElem?_eq_getElem hi] using q
  obtain ⟨i0, ei0⟩ := is_v g3
  obtain rfl : w0 = (.int i0) := Option.some.inj ei0
  obtain ⟨i1, ei1⟩ := is_v g5
  obtain rfl : w1 = (.int i1) := Option.some.inj ei1
  obtain ⟨i2, ei2⟩ := is_v g7
  obtain rfl : w2 = (.int i2) := Option.some.inj ei2
  obtain ⟨i3, ei3⟩ := is_v g9
  obtain rfl : w3 = (.int i3) := Option.some.inj ei3
  obtain ⟨i4, ei4⟩ := isL_v g11
  obtain rfl : w4 = (.long i4) := Option.some.inj ei4
  obtain ⟨i5, ei5⟩ := isL_v g12
  obtain rfl : w5 = (.long i5) := Option.some.inj ei5
  obtain ⟨n, o, h1, h2, h3, _, L, rfl, ⟨rfl, N⟩, hq⟩ := rm0 l s _ hw tables_1 i0 i1 i2 i3 i4 i5 s.heap s.heap.size (Nat.le_refl _) p e ha hc hk s m _ below hf ((Spec.applies_iff_loose hf).mp happ).1 ⟨rfl, State.Warmed39.refl s, rfl⟩ trivial
  refine ⟨n, _, h1, h2, h3, hpost _ _ _ _ _ _ ⟨Cond.after_iff.mpr rfl, Cond.after_iff.mpr (eq_i res_at (Term.int_eval (1)) rfl), trivial⟩ ⟨hq.1, hq.2.1, (hq.2.2.sift fun y hy => Or.inr (N y hy)).mono (by decide) (by decide)⟩⟩
theorem main_1_1 : Claimed_1_1 := comes_1 fun _ _ _ _ _ _ h hF => ⟨h.1, hF⟩
theorem main_1_2 : Claimed_1_2 := comes_1 fun _ _ _ _ _ _ h hF => ⟨h.2.1, hF⟩
end Jvm.Pilot.@@N@@
namespace Jvm.Pilot.@@N@@
open Jvm Jvm.ClassFile Sem Op Lib Jvm.Free Jvm.Stand Jvm.Pilot.@@N@@.Jvm.D
/-! MADE BY PROGRAM (witnessworld.py) out of the Statement's table words and the real class files: 9 classes; the members and pool entries that the words name. The judged class is class 1, her method 1. -/
namespace start1
open Jvm.ClassFile
def u (s : String) : CpInfo := .utf8 (stringToUtf16 s)
/-- a pool by its gaps: so many unusable entries, then the entry; so many at the end -/
def gap : Nat → List CpInfo → List CpInfo
  | 0, r => r
  | n + 1, r => .unusable :: gap n r
def poolList (es : List (Nat × CpInfo)) (last : Nat) : List CpInfo := es.foldr (fun e r => gap e.1 (e.2 :: r)) (gap last [])
def pool (es : List (Nat × CpInfo)) (last : Nat) : Array CpInfo := ⟨poolList es last⟩
def fileOf (pool : Array CpInfo) (this : Nat) (attrs : Array Attribute := #[]) (ms : Array MethodInfo := #[]) (fl : Nat := 33) (sup : Nat := 0) (ifs : Array Nat := #[]) (fds : Array FieldInfo := #[]) : ClassFile where
  minorVersion := 0
  majorVersion := 65
  constantPool := pool
  accessFlags := fl
  thisClass := this
  superClass := sup
  interfaces := ifs
  fields := fds
  methods := ms
  attributes := attrs
def plain (name : String) (sup : Option ClassId) : Class where
  name := name
  kind := .ordinary
  loader := none
  accessFlags := 33
  super := sup
  interfaces := #[]
  cf := none
  fields := #[]
  methods := #[]
  instanceTypes := #[]
  staticTypes := #[]
  resolved := #[]
  callSites := []
  init := .initialized
  statics := none
  mirror := none

def pool0 : Array CpInfo := pool [(5, u "<init>"), (0, u "()V"), (1, .class_ 10), (1, u "java/lang/Object")] 113

def k0c0 : Code := { maxStack := 0, maxLocals := 1, code := object_method_1_code, exceptionTable := #[], attributes := #[] }
def k0m0 : Method := { name := "<init>", desc := "()V", sig := { parameters := [], returnType := none }, accessFlags := 1, code := some k0c0 }
/-- java/lang/Object -/
def k0 : Class := { plain "java/lang/Object" none with
  accessFlags := 33
  interfaces := #[]
  cf := some (fileOf pool0 8 #[] #[{ accessFlags := 1, nameIndex := 5, descriptorIndex := 6, attributes := #[] }] 33 0 #[] #[])
  fields := #[]
  methods := #[k0m0]
  instanceTypes := #[]
  staticTypes := #[]
  resolved := Array.replicate 124 none
  statics := none }

def pool1 : Array CpInfo := pool [(2, .class_ 4), (1, u "java/lang/Object"), (0, u "<init>"), (0, u "()V"), (0, .long 65535), (1, .long 4095), (1, .long 3), (1, .class_ 14), (0, u "com/example/halozat/halozat/node/Leader"), (0, .methodref 13 16), (0, .nameAndType 5 17), (0, u "(IJ)V"), (0, .methodref 13 19), (0, .nameAndType 20 21), (0, u "hear"), (0, u "(IIJJ)Z"), (0, .methodref 13 23), (0, .nameAndType 24 25), (0, u "heartbeat"), (0, u "(IIJ)Z"), (0, .methodref 13 27), (0, .nameAndType 28 29), (0, u "node"), (0, u "()I"), (0, .methodref 13 31), (0, .nameAndType 32 29), (0, u "beat"), (0, .methodref 13 34), (0, .nameAndType 35 36), (0, u "age"), (0, u "(J)J"), (0, .methodref 13 38), (0, .nameAndType 39 40), (0, u "since"), (0, u "()J"), (0, .methodref 13 42), (0, .nameAndType 43 44), (0, u "far"), (0, u "()Z"), (0, .long 5000), (1, .long 1000), (1, .long 2500), (1, .class_ 52), (0, u "com/example/halozat/halozat/node/LeaderHeartbeatPinLaw"), (2, u "law"), (0, u "(IIIIJJ)Z")] 3

def k1m0 : Method := { name := "<init>", desc := "()V", sig := { parameters := [], returnType := none }, accessFlags := 1, code := none }
def k1c1 : Code := { maxStack := 7, maxLocals := 56, code := code, exceptionTable := #[], attributes := #[] }
def k1m1 : Method := { name := "law", desc := "(IIIIJJ)Z", sig := { parameters := [.int, .int, .int, .int, .long, .long], returnType := some .boolean }, accessFlags := 9, code := some k1c1 }
/-- com/example/halozat/halozat/node/LeaderHeartbeatPinLaw -/
def k1 : Class := { plain "com/example/halozat/halozat/node/LeaderHeartbeatPinLaw" (some 0) with
  accessFlags := 49
  interfaces := #[]
  cf := some (fileOf pool1 51 #[] #[{ accessFlags := 1, nameIndex := 5, descriptorIndex := 6, attributes := #[] }, { accessFlags := 9, nameIndex := 55, descriptorIndex := 56, attributes := #[] }] 49 2 #[] #[])
  fields := #[]
  methods := #[k1m0, k1m1]
  instanceTypes := #[]
  staticTypes := #[]
  resolved := Array.replicate 60 none
  statics := none }

def pool2 : Array CpInfo := pool [(1, .class_ 2), (0, u "com/example/halozat/halozat/node/Leader"), (0, .methodref 4 5), (0, .class_ 6), (0, .nameAndType 7 8), (0, u "java/lang/Object"), (0, u "<init>"), (0, u "()V"), (0, .fieldref 1 10), (0, .nameAndType 11 12), (0, u "dropped"), (0, u "I"), (2, .long 9223372036854775807), (1, .fieldref 1 18), (0, .nameAndType 19 20), (0, u "checkAt"), (0, u "J"), (0, .fieldref 1 22), (0, .nameAndType 23 12), (0, u "node"), (0, .fieldref 1 25), (0, .nameAndType 26 20), (0, u "raisedAt"), (0, .fieldref 1 28), (0, .nameAndType 29 20), (0, u "since"), (0, .fieldref 1 31), (0, .nameAndType 32 12), (0, u "beat"), (0, .fieldref 1 34), (0, .nameAndType 35 36), (0, u "far"), (0, u "Z"), (0, .long 1000), (1, .fieldref 1 40), (0, .nameAndType 41 12), (0, u "droppedBeat"), (0, .long 5000), (1, .long 2500), (1, u "LIVE_MS"), (1, u "FAR_MS"), (0, u "CHECK_MS"), (0, u "(IJ)V"), (2, u "()I"), (0, u "age"), (0, u "(J)J"), (0, u "()J"), (0, u "()Z"), (2, u "hear"), (0, u "(IIJJ)Z"), (1, u "heartbeat"), (0, u "(IIJ)Z")] 2

def k2c0 : Code := { maxStack := 3, maxLocals := 4, code := prog_81_method_1_code, exceptionTable := #[], attributes := #[] }
def k2m0 : Method := { name := "<init>", desc := "(IJ)V", sig := { parameters := [.int, .long], returnType := none }, accessFlags := 0, code := some k2c0 }
def k2c1 : Code := { maxStack := 1, maxLocals := 1, code := prog_81_method_2_code, exceptionTable := #[], attributes := #[] }
def k2m1 : Method := { name := "node", desc := "()I", sig := { parameters := [], returnType := some .int }, accessFlags := 0, code := some k2c1 }
def k2c2 : Code := { maxStack := 1, maxLocals := 1, code := prog_81_method_3_code, exceptionTable := #[], attributes := #[] }
def k2m2 : Method := { name := "beat", desc := "()I", sig := { parameters := [], returnType := some .int }, accessFlags := 0, code := some k2c2 }
def k2c3 : Code := { maxStack := 4, maxLocals := 3, code := prog_81_method_4_code, exceptionTable := #[], attributes := #[] }
def k2m3 : Method := { name := "age", desc := "(J)J", sig := { parameters := [.long], returnType := some .long }, accessFlags := 0, code := some k2c3 }
def k2c4 : Code := { maxStack := 2, maxLocals := 1, code := prog_81_method_5_code, exceptionTable := #[], attributes := #[] }
def k2m4 : Method := { name := "since", desc := "()J", sig := { parameters := [], returnType := some .long }, accessFlags := 0, code := some k2c4 }
def k2c5 : Code := { maxStack := 1, maxLocals := 1, code := prog_81_method_6_code, exceptionTable := #[], attributes := #[] }
def k2m5 : Method := { name := "far", desc := "()Z", sig := { parameters := [], returnType := some .boolean }, accessFlags := 0, code := some k2c5 }
def k2c6 : Code := { maxStack := 5, maxLocals := 10, code := prog_81_method_8_code, exceptionTable := #[], attributes := #[] }
def k2m6 : Method := { name := "hear", desc := "(IIJJ)Z", sig := { parameters := [.int, .int, .long, .long], returnType := some .boolean }, accessFlags := 0, code := some k2c6 }
def k2c7 : Code := { maxStack := 6, maxLocals := 6, code := prog_81_method_9_code, exceptionTable := #[], attributes := #[] }
def k2m7 : Method := { name := "heartbeat", desc := "(IIJ)Z", sig := { parameters := [.int, .int, .long], returnType := some .boolean }, accessFlags := 0, code := some k2c7 }
/-- com/example/halozat/halozat/node/Leader -/
def k2 : Class := { plain "com/example/halozat/halozat/node/Leader" (some 0) with
  accessFlags := 48
  interfaces := #[]
  cf := some (fileOf pool2 1 #[] #[{ accessFlags := 0, nameIndex := 7, descriptorIndex := 50, attributes := #[] }, { accessFlags := 0, nameIndex := 23, descriptorIndex := 53, attributes := #[] }, { accessFlags := 0, nameIndex := 32, descriptorIndex := 53, attributes := #[] }, { accessFlags := 0, nameIndex := 54, descriptorIndex := 55, attributes := #[] }, { accessFlags := 0, nameIndex := 29, descriptorIndex := 56, attributes := #[] }, { accessFlags := 0, nameIndex := 35, descriptorIndex := 57, attributes := #[] }, { accessFlags := 0, nameIndex := 60, descriptorIndex := 61, attributes := #[] }, { accessFlags := 0, nameIndex := 63, descriptorIndex := 64, attributes := #[] }] 48 4 #[] #[{ accessFlags := 24, nameIndex := 46, descriptorIndex := 20, attributes := #[] }, { accessFlags := 24, nameIndex := 48, descriptorIndex := 20, attributes := #[] }, { accessFlags := 24, nameIndex := 49, descriptorIndex := 20, attributes := #[] }, { accessFlags := 2, nameIndex := 23, descriptorIndex := 12, attributes := #[] }, { accessFlags := 2, nameIndex := 32, descriptorIndex := 12, attributes := #[] }, { accessFlags := 2, nameIndex := 26, descriptorIndex := 20, attributes := #[] }, { accessFlags := 2, nameIndex := 29, descriptorIndex := 20, attributes := #[] }, { accessFlags := 2, nameIndex := 11, descriptorIndex := 12, attributes := #[] }, { accessFlags := 2, nameIndex := 41, descriptorIndex := 12, attributes := #[] }, { accessFlags := 2, nameIndex := 19, descriptorIndex := 20, attributes := #[] }, { accessFlags := 2, nameIndex := 35, descriptorIndex := 36, attributes := #[] }])
  fields := #[{ name := "LIVE_MS", type := .long, accessFlags := 24, slot := 0, constantValue := 0 }, { name := "FAR_MS", type := .long, accessFlags := 24, slot := 1, constantValue := 0 }, { name := "CHECK_MS", type := .long, accessFlags := 24, slot := 2, constantValue := 0 }, { name := "node", type := .int, accessFlags := 2, slot := 0, constantValue := 0 }, { name := "beat", type := .int, accessFlags := 2, slot := 1, constantValue := 0 }, { name := "raisedAt", type := .long, accessFlags := 2, slot := 2, constantValue := 0 }, { name := "since", type := .long, accessFlags := 2, slot := 3, constantValue := 0 }, { name := "dropped", type := .int, accessFlags := 2, slot := 4, constantValue := 0 }, { name := "droppedBeat", type := .int, accessFlags := 2, slot := 5, constantValue := 0 }, { name := "checkAt", type := .long, accessFlags := 2, slot := 6, constantValue := 0 }, { name := "far", type := .boolean, accessFlags := 2, slot := 7, constantValue := 0 }]
  methods := #[k2m0, k2m1, k2m2, k2m3, k2m4, k2m5, k2m6, k2m7]
  instanceTypes := #[.int, .int, .long, .long, .int, .int, .long, .boolean]
  staticTypes := #[.long, .long, .long]
  resolved := Array.replicate 67 none
  statics := none }

def pool3 : Array CpInfo := pool [(1, u "java/lang/Cloneable"), (0, .class_ 1), (0, u "java/lang/Object"), (0, .class_ 3)] 3

/-- java/lang/Cloneable -/
def k3 : Class := { plain "java/lang/Cloneable" (some 0) with
  accessFlags := 1537
  interfaces := #[]
  cf := some (fileOf pool3 2 #[] #[] 1537 4 #[] #[])
  fields := #[]
  methods := #[]
  instanceTypes := #[]
  staticTypes := #[]
  resolved := Array.replicate 8 none
  statics := none }

def pool4 : Array CpInfo := pool [(1, u "java/io/Serializable"), (0, .class_ 1), (0, u "java/lang/Object"), (0, .class_ 3)] 3

/-- java/io/Serializable -/
def k4 : Class := { plain "java/io/Serializable" (some 0) with
  accessFlags := 1537
  interfaces := #[]
  cf := some (fileOf pool4 2 #[] #[] 1537 4 #[] #[])
  fields := #[]
  methods := #[]
  instanceTypes := #[]
  staticTypes := #[]
  resolved := Array.replicate 8 none
  statics := none }

/-- the primitive byte -/
def k5 : Class := { plain "byte" none with kind := .primitive 'B', accessFlags := 0x411 }
/-- [B -/
def k6 : Class := { plain "[B" (some 0) with kind := .array 5 .byte, interfaces := #[3, 4], accessFlags := 1041 }

/-- the primitive int -/
def k7 : Class := { plain "int" none with kind := .primitive 'I', accessFlags := 0x411 }
/-- [I -/
def k8 : Class := { plain "[I" (some 0) with kind := .array 7 .int, interfaces := #[3, 4], accessFlags := 1041 }

def heap : Heap := #[]
def classes : Array Class := #[k0, k1, k2, k3, k4, k5, k6, k7, k8]
def interned : List (Array UInt16 × Addr) := []
def slotsUsed : Nat := 0
def theMethod : MethodId := ⟨1, 1⟩
def args0 : Array Value := #[.int 5, .int 5, .int 5, .int 5, .long 5, .long 5]
def aboutOver (below : List Frame) : State where
  vm := { classes := classes, interned := interned.toArray }
  heap := heap
  slotsUsed := slotsUsed
  threads := #[{ frames := .invoking theMethod args0 :: below }]
def below0 : List Frame := [.native { method := ⟨0, 0⟩, args := #[] }]
def about1 : State := aboutOver below0
def p0 : Program := .bare "" "" ""
def e0 : Env := launch0.env 0 0 0
theorem w_frames : about1.frames = Frame.invoking theMethod args0 :: below0 := rfl
set_option maxRecDepth 65536 in
theorem w_args : argsFit about1.vm theMethod args0 = true := by decide +kernel
set_option maxRecDepth 65536 in
theorem w_heap : heapFits about1 = true := by decide +kernel
set_option maxRecDepth 65536 in
theorem w_runnable : about1.curStatus? = some .runnable := by decide +kernel
set_option maxRecDepth 65536 in
theorem w_alone : about1.alone = true := by decide +kernel
set_option maxRecDepth 65536 in
theorem w_named : about1.methodNamed? x = some theMethod := by decide +kernel
set_option maxRecDepth 65536 in
theorem w_hears : about1.hears theMethod below0 = true := by decide +kernel
set_option maxRecDepth 65536 in
theorem w_ripe : about1.ripe theMethod args0 below0 = true := by decide +kernel
theorem w_running : about1.status = .running := rfl
set_option maxRecDepth 65536 in
theorem w_room : about1.hasRoom e0.platform room_1 = true :=
  launch0.hasRoom_least _ room_1 (by decide +kernel) (by decide +kernel) (by decide +kernel) (by decide +kernel) (by decide +kernel) (by decide +kernel)
theorem allAtoms_all (ts : List Jvm.Cond) (a : Array Jvm.Value) (st : Jvm.State) : (allAtoms ts).before a st = ts.all (fun c => c.before a st) := by
  induction ts with
  | nil => rfl
  | cons c t ih =>
    show (Jvm.Cond.and c (allAtoms t)).before a st = _
    rw [Jvm.Cond.before_and, ih, List.all_cons]
def words1 : List Jvm.Cond := Jvm.Cond.code x code maxLocals ret :: tables_1
/-- a 'code' word, met by the world's own term for the bytes: nothing is compared byte by byte -/
theorem code_word {y : MethodName} {bytes : ByteArray} {mx : Nat} {rt : Option FieldType} {a : Array Value} {s : State} {m : MethodId} {meth : Method} {c : Code} (h1 : s.methodNamed? y = some m) (h2 : s.vm.method? m = some meth) (h3 : meth.code = some c) (h4 : c.code = bytes)
    (h5 : (c.maxLocals == mx && c.exceptionTable.isEmpty && decide (c.maxStack ≤ mostOperands) && decide (meth.sig.returnType = rt) && !meth.locks && decide (parseMethodDescriptor y.desc = some meth.sig)) = true) : (Jvm.Cond.code y bytes mx rt).before a s = true := by
  simp only [Bool.and_eq_true, beq_iff_eq, Bool.not_eq_true', decide_eq_true_eq] at h5
  obtain ⟨⟨⟨⟨⟨g1, g2⟩, g3⟩, g4⟩, g5⟩, g6⟩ := h5
  simp [Cond.before, Cond.holds, Cond.value, h1, h2, h3, h4, g1, g2, g3, g4, g5, g6]
def isCode : Jvm.Cond → Bool
  | .code _ _ _ _ => true
  | _ => false
theorem all_split {L : List Jvm.Cond} {P : Jvm.Cond → Bool} (h1 : L.all (fun c => isCode c || P c) = true) (h2 : ∀ c ∈ L.filter isCode, P c = true) : L.all P = true := by
  refine List.all_eq_true.mpr fun c hc => ?_
  have h := List.all_eq_true.mp h1 c hc
  rcases Bool.eq_false_or_eq_true (isCode c) with hi | hi
  · exact h2 c (List.mem_filter.mpr ⟨hc, hi⟩)
  · simpa [hi] using h
set_option maxRecDepth 65536 in
theorem w_c0 : (Jvm.Cond.code x code maxLocals ret).before args0 about1 = true := code_word (m := ⟨1, 1⟩) (meth := k1m1) (c := k1c1) (by decide +kernel) rfl rfl rfl (by decide +kernel)
set_option maxRecDepth 65536 in
theorem w_c1 : (Jvm.Cond.code ({ cls := "com/example/halozat/halozat/node/Leader", name := "<init>", desc := "(IJ)V" } : Jvm.MethodName) prog_81_method_1_code (4 : Nat) (Option.none : Option Jvm.ClassFile.FieldType)).before args0 about1 = true := code_word (m := ⟨2, 0⟩) (meth := k2m0) (c := k2c0) (by decide +kernel) rfl rfl rfl (by decide +kernel)
set_option maxRecDepth 65536 in
theorem w_c2 : (Jvm.Cond.code ({ cls := "java/lang/Object", name := "<init>", desc := "()V" } : Jvm.MethodName) object_method_1_code (1 : Nat) (Option.none : Option Jvm.ClassFile.FieldType)).before args0 about1 = true := code_word (m := ⟨0, 0⟩) (meth := k0m0) (c := k0c0) (by decide +kernel) rfl rfl rfl (by decide +kernel)
set_option maxRecDepth 65536 in
theorem w_c3 : (Jvm.Cond.code ({ cls := "com/example/halozat/halozat/node/Leader", name := "hear", desc := "(IIJJ)Z" } : Jvm.MethodName) prog_81_method_8_code (10 : Nat) (Option.some Jvm.ClassFile.FieldType.boolean)).before args0 about1 = true := code_word (m := ⟨2, 6⟩) (meth := k2m6) (c := k2c6) (by decide +kernel) rfl rfl rfl (by decide +kernel)
set_option maxRecDepth 65536 in
theorem w_c4 : (Jvm.Cond.code ({ cls := "com/example/halozat/halozat/node/Leader", name := "heartbeat", desc := "(IIJ)Z" } : Jvm.MethodName) prog_81_method_9_code (6 : Nat) (Option.some Jvm.ClassFile.FieldType.boolean)).before args0 about1 = true := code_word (m := ⟨2, 7⟩) (meth := k2m7) (c := k2c7) (by decide +kernel) rfl rfl rfl (by decide +kernel)
set_option maxRecDepth 65536 in
theorem w_c5 : (Jvm.Cond.code ({ cls := "com/example/halozat/halozat/node/Leader", name := "node", desc := "()I" } : Jvm.MethodName) prog_81_method_2_code (1 : Nat) (Option.some Jvm.ClassFile.FieldType.int)).before args0 about1 = true := code_word (m := ⟨2, 1⟩) (meth := k2m1) (c := k2c1) (by decide +kernel) rfl rfl rfl (by decide +kernel)
set_option maxRecDepth 65536 in
theorem w_c6 : (Jvm.Cond.code ({ cls := "com/example/halozat/halozat/node/Leader", name := "beat", desc := "()I" } : Jvm.MethodName) prog_81_method_3_code (1 : Nat) (Option.some Jvm.ClassFile.FieldType.int)).before args0 about1 = true := code_word (m := ⟨2, 2⟩) (meth := k2m2) (c := k2c2) (by decide +kernel) rfl rfl rfl (by decide +kernel)
set_option maxRecDepth 65536 in
theorem w_c7 : (Jvm.Cond.code ({ cls := "com/example/halozat/halozat/node/Leader", name := "age", desc := "(J)J" } : Jvm.MethodName) prog_81_method_4_code (3 : Nat) (Option.some Jvm.ClassFile.FieldType.long)).before args0 about1 = true := code_word (m := ⟨2, 3⟩) (meth := k2m3) (c := k2c3) (by decide +kernel) rfl rfl rfl (by decide +kernel)
set_option maxRecDepth 65536 in
theorem w_c8 : (Jvm.Cond.code ({ cls := "com/example/halozat/halozat/node/Leader", name := "since", desc := "()J" } : Jvm.MethodName) prog_81_method_5_code (1 : Nat) (Option.some Jvm.ClassFile.FieldType.long)).before args0 about1 = true := code_word (m := ⟨2, 4⟩) (meth := k2m4) (c := k2c4) (by decide +kernel) rfl rfl rfl (by decide +kernel)
set_option maxRecDepth 65536 in
theorem w_c9 : (Jvm.Cond.code ({ cls := "com/example/halozat/halozat/node/Leader", name := "far", desc := "()Z" } : Jvm.MethodName) prog_81_method_6_code (1 : Nat) (Option.some Jvm.ClassFile.FieldType.boolean)).before args0 about1 = true := code_word (m := ⟨2, 5⟩) (meth := k2m5) (c := k2c5) (by decide +kernel) rfl rfl rfl (by decide +kernel)
def codes1 : List Jvm.Cond := [Jvm.Cond.code x code maxLocals ret, Jvm.Cond.code ({ cls := "com/example/halozat/halozat/node/Leader", name := "<init>", desc := "(IJ)V" } : Jvm.MethodName) prog_81_method_1_code (4 : Nat) (Option.none : Option Jvm.ClassFile.FieldType), Jvm.Cond.code ({ cls := "java/lang/Object", name := "<init>", desc := "()V" } : Jvm.MethodName) object_method_1_code (1 : Nat) (Option.none : Option Jvm.ClassFile.FieldType), Jvm.Cond.code ({ cls := "com/example/halozat/halozat/node/Leader", name := "hear", desc := "(IIJJ)Z" } : Jvm.MethodName) prog_81_method_8_code (10 : Nat) (Option.some Jvm.ClassFile.FieldType.boolean), Jvm.Cond.code ({ cls := "com/example/halozat/halozat/node/Leader", name := "heartbeat", desc := "(IIJ)Z" } : Jvm.MethodName) prog_81_method_9_code (6 : Nat) (Option.some Jvm.ClassFile.FieldType.boolean), Jvm.Cond.code ({ cls := "com/example/halozat/halozat/node/Leader", name := "node", desc := "()I" } : Jvm.MethodName) prog_81_method_2_code (1 : Nat) (Option.some Jvm.ClassFile.FieldType.int), Jvm.Cond.code ({ cls := "com/example/halozat/halozat/node/Leader", name := "beat", desc := "()I" } : Jvm.MethodName) prog_81_method_3_code (1 : Nat) (Option.some Jvm.ClassFile.FieldType.int), Jvm.Cond.code ({ cls := "com/example/halozat/halozat/node/Leader", name := "age", desc := "(J)J" } : Jvm.MethodName) prog_81_method_4_code (3 : Nat) (Option.some Jvm.ClassFile.FieldType.long), Jvm.Cond.code ({ cls := "com/example/halozat/halozat/node/Leader", name := "since", desc := "()J" } : Jvm.MethodName) prog_81_method_5_code (1 : Nat) (Option.some Jvm.ClassFile.FieldType.long), Jvm.Cond.code ({ cls := "com/example/halozat/halozat/node/Leader", name := "far", desc := "()Z" } : Jvm.MethodName) prog_81_method_6_code (1 : Nat) (Option.some Jvm.ClassFile.FieldType.boolean)]
set_option maxRecDepth 65536 in
theorem codes_eq : words1.filter isCode = codes1 := rfl
theorem w_codes : ∀ c ∈ words1.filter isCode, c.before args0 about1 = true := by
  rw [codes_eq]
  intro c hc
  simp only [codes1, List.mem_cons, List.not_mem_nil, or_false] at hc
  rcases hc with rfl | rfl | rfl | rfl | rfl | rfl | rfl | rfl | rfl | rfl
  · exact w_c0
  · exact w_c1
  · exact w_c2
  · exact w_c3
  · exact w_c4
  · exact w_c5
  · exact w_c6
  · exact w_c7
  · exact w_c8
  · exact w_c9
set_option maxRecDepth 65536 in
theorem w_t1 : (words1.take 24).all (fun c => isCode c || c.before args0 about1) = true := by decide +kernel
set_option maxRecDepth 65536 in
theorem w_t2 : ((words1.drop 24).take 24).all (fun c => isCode c || c.before args0 about1) = true := by decide +kernel
set_option maxRecDepth 65536 in
theorem w_t3 : ((words1.drop 24).drop 24).all (fun c => isCode c || c.before args0 about1) = true := by decide +kernel
theorem w_tables : (allAtoms (Jvm.Cond.code x code maxLocals ret :: tables_1)).before args0 about1 = true := by
  rw [allAtoms_all]
  show words1.all (fun c => c.before args0 about1) = true
  refine all_split ?_ w_codes
  rw [← List.take_append_drop 24 words1, List.all_append, w_t1, ← List.take_append_drop 24 (words1.drop 24), List.all_append, w_t2, w_t3]
  rfl
set_option maxRecDepth 65536 in
theorem w_case : (Jvm.Cond.and given_1 narrow_1).before args0 about1 = true := by decide +kernel
theorem w_applies : (headSpec (Jvm.Cond.code x code maxLocals ret :: tables_1) room_1).applies x e0.platform about1 = true :=
  (Spec.applies_iff w_frames).mpr ⟨w_running, w_runnable, w_alone, w_named, w_hears, w_ripe, w_room, w_tables⟩
theorem atStart : AtStart classFile x code maxLocals ret World_1 tables_1 room_1 Calls_1 rest_1 Pre_1 launch0 p0 e0 about1 theMethod args0 below0 :=
  ⟨lists_1, trivial, launch0.admits_env _ _ _, launch0.least_env, fairChoices_fair.cas, fairChoices_fair.clock, w_frames, w_args, w_heap, w_applies, trivial, trivial, w_case⟩
end start1
theorem witness_1 : WitnessClaimed_1 := ⟨start1.p0, start1.e0, start1.about1, start1.theMethod, start1.args0, start1.below0, start1.atStart⟩
end Jvm.Pilot.@@N@@
