import JvmDerived
import JvmDerived.Pilot.@@N@@Statement
import JvmDerived.Pilot.@@N@@Code
set_option linter.unusedVariables false
set_option linter.unusedSimpArgs false
namespace Jvm.RoadKit
open Sem ClassFile Op Lib Jvm.Stand Jvm.Free Jvm.LawKit
section New
variable {p : Program} {l : Launch} {e : Env} {R : Room} {s : State} {m : MethodId} {args : Array Value} {below : List Frame} {meth : Method} {c : Code} {T : State} {locs : List Loc} {cells slots : Nat}
theorem retI (X : Stand p l e R s m args below meth c T locs cells slots) (hx : p.tables.exec = Jvm.exec) {pc : Nat} {Ls : Array Slot} {z : Int32} {rest : List Value} (hret : meth.sig.returnType = some .int) (hd : decode c.code pc = .ok (.ireturn, 1)) {fs : List Frame}
    (hl : ∀ (f : JFrame) (acts : List Action), f.method = m → f.locked = none → f.entered = [] → (doReturn e (T.setTop f) acts (some (.int z))).1 = T.setFrames fs) : Steps p.tables e below (T.setTop (mkF m pc Ls (.int z :: rest))) (T.setFrames fs) := by
  have hm' : T.vm.method? m = some meth := X.method'
  have hn : narrow .int (.int z) = .int z := rfl
  show Steps p.tables e below (T.setTop { method := m, pc := pc, locals := Ls, stack := _ :: rest, locked := none }) _
  jvm_step X.here [X.here.top, hx, hd, hm', hret, hn]
  first | (intro acts; rw [hl _ acts rfl rfl rfl]) | rw [hl _ _ rfl rfl rfl]
  exact Steps.refl _
theorem own_retJ (X : Stand p l e R s m args below meth c T locs cells slots) (hx : p.tables.exec = Jvm.exec) {pc : Nat} {Ls : Array Slot} {z : Int64} {rest : List Value} (hret : meth.sig.returnType = some .long) (hd : decode c.code pc = .ok (.lreturn, 1)) {fs : List Frame}
    (hl : ∀ (f : JFrame) (acts : List Action), f.method = m → f.locked = none → f.entered = [] → (doReturn e (T.setTop f) acts (some (.long z))).1 = T.setFrames fs) : Steps p.tables e below (T.setTop (mkF m pc Ls (.long z :: rest))) (T.setFrames fs) := by
  have hm' : T.vm.method? m = some meth := X.method'
  show Steps p.tables e below (T.setTop { method := m, pc := pc, locals := Ls, stack := _ :: rest, locked := none }) _
  jvm_step X.here [X.here.top, hx, hd, hm', hret, narrow]
  first | (intro acts; rw [hl _ acts rfl rfl rfl]) | rw [hl _ _ rfl rfl rfl]
  exact Steps.refl _
theorem own_join {n0 : Nat} (X : Stand p l e R s m args below meth c T locs cells slots) (N : Fr n0 locs) {h : Heap} (g g' : JFrame)
    (H : ∃ (T' : State) (locs' : List Loc), Stand p l e R s m args below meth c T' locs' cells slots ∧ Fr n0 locs' ∧ T'.heap = h ∧ ∀ t, Steps p.tables e below (T'.setTop g') t → Steps p.tables e below (T.setTop g) t) :
    ∃ (T' : State) (locs' : List Loc), Stand p l e R s m args below meth c T' locs' cells slots ∧ Fr n0 locs' ∧ T'.heap = h ∧ ∀ t, Steps p.tables e below (T'.setTop g') t → Steps p.tables e below (T.setTop g) t := H
theorem own_mono (X : Stand p l e R s m args below meth c T locs cells slots) {c' s' : Nat} (h1 : cells ≤ c') (h2 : slots ≤ s') : Stand p l e R s m args below meth c T locs c' s' :=
  ⟨X.admits, X.cas, X.clock, X.frames, X.room, X.hears, X.method, X.code, X.here, X.tail, X.warmed, X.limits, X.bytes, X.same.mono h1 h2⟩
theorem own_lrem {g : JFrame} {target : State} (X : Stand p l e R s m args below meth c T locs cells slots) (hx : p.tables.exec = Jvm.exec) (hg : g.method = m) {x y : Int64} {rest : List Value} (hd : decode c.code g.pc = .ok (.lrem, 1)) (hs : g.stack = .long y :: .long x :: rest) (hy : y ≠ 0)
    (hr : Steps p.tables e below (T.setTop { g with pc := g.pc + 1, stack := .long (x % y) :: rest }) target) : Steps p.tables e below (T.setTop g) target :=
  Jvm.Free.XS.lrem X.here hx hg hd hs hy (by rw [lrem_mod x y]; exact hr)
def Bya (Z : State) (h : Heap) (a : Addr) (z : Int32) (f : Int32 → Int32) : Prop := ∃ c : Cell, Arr Z h a c .byte ∧ c.slots.size = z.toNatClampNeg ∧ ∀ j : Int32, ¬ j < 0 → j < z → c.slots[j.toNatClampNeg]? = some (.int (f j))
theorem Bya.lt {Z : State} {h : Heap} {a : Addr} {z : Int32} {f : Int32 → Int32} (F : Bya Z h a z f) : a < h.size := by obtain ⟨c, A, -⟩ := F; exact A.lt
theorem Bya.ext {Z : State} {h h' : Heap} {a : Addr} {z : Int32} {f : Int32 → Int32} (F : Bya Z h a z f) (E : Ext h h') : Bya Z h' a z f := by obtain ⟨c, A, r⟩ := F; exact ⟨c, A.ext E, r⟩
theorem Bya.other {Z : State} {h h' : Heap} {a b : Addr} {z : Int32} {f : Int32 → Int32} {sl : Nat} {v : Value} (F : Bya Z h b z f) (W : Wr h h' a sl v) (q : b ≠ a) : Bya Z h' b z f := by obtain ⟨c, A, r⟩ := F; exact ⟨c, A.other W q, r⟩
theorem Bya.keep {Z : State} {h h' : Heap} {a : Addr} {z : Int32} {f : Int32 → Int32} {ws : List Addr} (F : Bya Z h a z f) (K : Keep h h' ws) (q : a ∉ ws) : Bya Z h' a z f := by obtain ⟨c, A, r⟩ := F; exact ⟨c, ⟨K.2.1 a c A.1 q, A.2⟩, r⟩
theorem Bya.set {Z : State} {h h' : Heap} {a : Addr} {z j v : Int32} {f : Int32 → Int32} {c : Cell} (A : Arr Z h a c .byte) (S : c.slots.size = z.toNatClampNeg) (H : ∀ j : Int32, ¬ j < 0 → j < z → c.slots[j.toNatClampNeg]? = some (.int (f j))) (hj : ¬ j < 0 ∧ j < z) (W : Wr h h' a j.toNatClampNeg (.int v)) : Bya Z h' a z (fun i => if i = j then v else f i) := by
  refine ⟨_, A.same W, by rw [sz_set]; exact S, fun i h1 h2 => ?_⟩
  by_cases q : i = j
  · rw [get_hit (inb_of S hj) q]; simp [q]
  · rw [get_miss hj.1 h1 q, H i h1 h2]; simp [q]
theorem Bya.of_arv {Z : State} {h : Heap} {a : Addr} {k : ClassId} {z : Int32} {vs : List Value} {es : List Int32} (F : Arv Z h a k .byte z vs (.int (0 : Int32))) (e : vs = es.map Value.int) : Bya Z h a z (fun i => es.getD i.toNatClampNeg 0) := by
  obtain ⟨c, A, -, S, -, H, -⟩ := F
  refine ⟨c, A, S, fun j h1 h2 => ?_⟩
  refine H.at (inb_of S ⟨h1, h2⟩) ?_
  subst e
  simp only [List.getD_eq_getElem?_getD, List.getElem?_map]
  cases es[j.toNatClampNeg]? <;> rfl
theorem own_b1 {x : Int32} (h : x = 1) : ¬ x = 0 := by rw [h]; decide
theorem own_cons {α : Type} {a b : α} {l m : List α} (h1 : a = b) (h2 : l = m) : a :: l = b :: m := by rw [h1, h2]
theorem own_arv {Z : State} {h : Heap} {a : Addr} {k : ClassId} {ty : FieldType} {z : Int32} {vs ws : List Value} {d : Value} (A : Arv Z h a k ty z vs d) (q : ws = vs) : Arv Z h a k ty z ws d := q ▸ A
theorem own_fld {Z : State} {h : Heap} {a : Addr} {C n d : String} {v w : Value} (F : Fld Z h a C n d v) (q : w = v) : Fld Z h a C n d w := q ▸ F
end New
end Jvm.RoadKit
namespace Jvm.Pilot.@@N@@
open Jvm Jvm.ClassFile Sem Op Lib Jvm.Free Jvm.Stand Jvm.LawKit Jvm.RoadKit Bundle Jvm.Pilot.@@N@@.Jvm.D
theorem ow0 {Z : State} {a0 : Array Value} (hw : ∀ d ∈ tables_1, d.before a0 Z = true) : (Jvm.Cond.methodLink "com/example/telemetree/telemetree/io/ShortestDecimalIntervalExponentPinLaw" (7 : Nat) ({ cls := "com/example/telemetree/telemetree/io/ShortestDecimal", name := "intervalExponent", desc := "(IZ)I" } : Jvm.MethodName)).before a0 Z = true := hw _ (List.mem_of_getElem? (i := 0) rfl)
theorem ow1 {Z : State} {a0 : Array Value} (hw : ∀ d ∈ tables_1, d.before a0 Z = true) : (Jvm.Cond.static ({ cls := "com/example/telemetree/telemetree/io/ShortestDecimal", name := "intervalExponent", desc := "(IZ)I" } : Jvm.MethodName)).before a0 Z = true := hw _ (List.mem_of_getElem? (i := 1) rfl)
theorem ow2 {Z : State} {a0 : Array Value} (hw : ∀ d ∈ tables_1, d.before a0 Z = true) : (Jvm.Cond.initialized "com/example/telemetree/telemetree/io/ShortestDecimal").before a0 Z = true := hw _ (List.mem_of_getElem? (i := 2) rfl)
theorem ow3 {Z : State} {a0 : Array Value} (hw : ∀ d ∈ tables_1, d.before a0 Z = true) : (Jvm.Cond.code ({ cls := "com/example/telemetree/telemetree/io/ShortestDecimal", name := "intervalExponent", desc := "(IZ)I" } : Jvm.MethodName) prog_7_method_3_code (2 : Nat) (Option.some Jvm.ClassFile.FieldType.int)).before a0 Z = true := hw _ (List.mem_of_getElem? (i := 3) rfl)
theorem ow4 {Z : State} {a0 : Array Value} (hw : ∀ d ∈ tables_1, d.before a0 Z = true) : (Jvm.Cond.constantLong "com/example/telemetree/telemetree/io/ShortestDecimal" (37 : Nat) (661971961084 : Int64)).before a0 Z = true := hw _ (List.mem_of_getElem? (i := 4) rfl)
theorem ow5 {Z : State} {a0 : Array Value} (hw : ∀ d ∈ tables_1, d.before a0 Z = true) : (Jvm.Cond.constantLong "com/example/telemetree/telemetree/io/ShortestDecimal" (39 : Nat) (-274743187321 : Int64)).before a0 Z = true := hw _ (List.mem_of_getElem? (i := 5) rfl)
theorem ow6 {Z : State} {a0 : Array Value} (hw : ∀ d ∈ tables_1, d.before a0 Z = true) : (Jvm.Cond.methodLink "com/example/telemetree/telemetree/io/ShortestDecimalIntervalExponentPinLaw" (13 : Nat) ({ cls := "com/example/telemetree/telemetree/io/ShortestDecimalIntervalExponentPinLaw", name := "floorLog10Pow2", desc := "(I)I" } : Jvm.MethodName)).before a0 Z = true := hw _ (List.mem_of_getElem? (i := 6) rfl)
theorem ow7 {Z : State} {a0 : Array Value} (hw : ∀ d ∈ tables_1, d.before a0 Z = true) : (Jvm.Cond.static ({ cls := "com/example/telemetree/telemetree/io/ShortestDecimalIntervalExponentPinLaw", name := "floorLog10Pow2", desc := "(I)I" } : Jvm.MethodName)).before a0 Z = true := hw _ (List.mem_of_getElem? (i := 7) rfl)
theorem ow8 {Z : State} {a0 : Array Value} (hw : ∀ d ∈ tables_1, d.before a0 Z = true) : (Jvm.Cond.initialized "com/example/telemetree/telemetree/io/ShortestDecimalIntervalExponentPinLaw").before a0 Z = true := hw _ (List.mem_of_getElem? (i := 8) rfl)
theorem ow9 {Z : State} {a0 : Array Value} (hw : ∀ d ∈ tables_1, d.before a0 Z = true) : (Jvm.Cond.code ({ cls := "com/example/telemetree/telemetree/io/ShortestDecimalIntervalExponentPinLaw", name := "floorLog10Pow2", desc := "(I)I" } : Jvm.MethodName) method_3_code (1 : Nat) (Option.some Jvm.ClassFile.FieldType.int)).before a0 Z = true := hw _ (List.mem_of_getElem? (i := 9) rfl)
theorem ow10 {Z : State} {a0 : Array Value} (hw : ∀ d ∈ tables_1, d.before a0 Z = true) : (Jvm.Cond.constantLong "com/example/telemetree/telemetree/io/ShortestDecimalIntervalExponentPinLaw" (23 : Nat) (78913 : Int64)).before a0 Z = true := hw _ (List.mem_of_getElem? (i := 10) rfl)
theorem ow11 {Z : State} {a0 : Array Value} (hw : ∀ d ∈ tables_1, d.before a0 Z = true) : (Jvm.Cond.methodLink "com/example/telemetree/telemetree/io/ShortestDecimalIntervalExponentPinLaw" (19 : Nat) ({ cls := "com/example/telemetree/telemetree/io/ShortestDecimalIntervalExponentPinLaw", name := "exact", desc := "(IZI)Z" } : Jvm.MethodName)).before a0 Z = true := hw _ (List.mem_of_getElem? (i := 11) rfl)
theorem ow12 {Z : State} {a0 : Array Value} (hw : ∀ d ∈ tables_1, d.before a0 Z = true) : (Jvm.Cond.static ({ cls := "com/example/telemetree/telemetree/io/ShortestDecimalIntervalExponentPinLaw", name := "exact", desc := "(IZI)Z" } : Jvm.MethodName)).before a0 Z = true := hw _ (List.mem_of_getElem? (i := 12) rfl)
theorem ow13 {Z : State} {a0 : Array Value} (hw : ∀ d ∈ tables_1, d.before a0 Z = true) : (Jvm.Cond.code ({ cls := "com/example/telemetree/telemetree/io/ShortestDecimalIntervalExponentPinLaw", name := "exact", desc := "(IZI)Z" } : Jvm.MethodName) method_4_code (9 : Nat) (Option.some Jvm.ClassFile.FieldType.boolean)).before a0 Z = true := hw _ (List.mem_of_getElem? (i := 13) rfl)
theorem ow14 {Z : State} {a0 : Array Value} (hw : ∀ d ∈ tables_1, d.before a0 Z = true) : (Jvm.Cond.arrayClass Jvm.ClassFile.FieldType.long).before a0 Z = true := hw _ (List.mem_of_getElem? (i := 14) rfl)
theorem ow15 {Z : State} {a0 : Array Value} (hw : ∀ d ∈ tables_1, d.before a0 Z = true) : (Jvm.Cond.constantLong "com/example/telemetree/telemetree/io/ShortestDecimalIntervalExponentPinLaw" (25 : Nat) (10 : Int64)).before a0 Z = true := hw _ (List.mem_of_getElem? (i := 15) rfl)
theorem ow16 {Z : State} {a0 : Array Value} (hw : ∀ d ∈ tables_1, d.before a0 Z = true) : (Jvm.Cond.constantLong "com/example/telemetree/telemetree/io/ShortestDecimalIntervalExponentPinLaw" (27 : Nat) (100 : Int64)).before a0 Z = true := hw _ (List.mem_of_getElem? (i := 16) rfl)
theorem ow17 {Z : State} {a0 : Array Value} (hw : ∀ d ∈ tables_1, d.before a0 Z = true) : (Jvm.Cond.constantLong "com/example/telemetree/telemetree/io/ShortestDecimalIntervalExponentPinLaw" (29 : Nat) (1000 : Int64)).before a0 Z = true := hw _ (List.mem_of_getElem? (i := 17) rfl)
theorem ow18 {Z : State} {a0 : Array Value} (hw : ∀ d ∈ tables_1, d.before a0 Z = true) : (Jvm.Cond.constantLong "com/example/telemetree/telemetree/io/ShortestDecimalIntervalExponentPinLaw" (31 : Nat) (10000 : Int64)).before a0 Z = true := hw _ (List.mem_of_getElem? (i := 18) rfl)
theorem ow19 {Z : State} {a0 : Array Value} (hw : ∀ d ∈ tables_1, d.before a0 Z = true) : (Jvm.Cond.constantLong "com/example/telemetree/telemetree/io/ShortestDecimalIntervalExponentPinLaw" (33 : Nat) (100000 : Int64)).before a0 Z = true := hw _ (List.mem_of_getElem? (i := 19) rfl)
theorem ow20 {Z : State} {a0 : Array Value} (hw : ∀ d ∈ tables_1, d.before a0 Z = true) : (Jvm.Cond.constantLong "com/example/telemetree/telemetree/io/ShortestDecimalIntervalExponentPinLaw" (35 : Nat) (1000000 : Int64)).before a0 Z = true := hw _ (List.mem_of_getElem? (i := 20) rfl)
theorem ow21 {Z : State} {a0 : Array Value} (hw : ∀ d ∈ tables_1, d.before a0 Z = true) : (Jvm.Cond.constantLong "com/example/telemetree/telemetree/io/ShortestDecimalIntervalExponentPinLaw" (37 : Nat) (10000000 : Int64)).before a0 Z = true := hw _ (List.mem_of_getElem? (i := 21) rfl)
theorem ow22 {Z : State} {a0 : Array Value} (hw : ∀ d ∈ tables_1, d.before a0 Z = true) : (Jvm.Cond.constantLong "com/example/telemetree/telemetree/io/ShortestDecimalIntervalExponentPinLaw" (39 : Nat) (100000000 : Int64)).before a0 Z = true := hw _ (List.mem_of_getElem? (i := 22) rfl)
theorem ow23 {Z : State} {a0 : Array Value} (hw : ∀ d ∈ tables_1, d.before a0 Z = true) : (Jvm.Cond.constantLong "com/example/telemetree/telemetree/io/ShortestDecimalIntervalExponentPinLaw" (41 : Nat) (1000000000 : Int64)).before a0 Z = true := hw _ (List.mem_of_getElem? (i := 23) rfl)
theorem ow24 {Z : State} {a0 : Array Value} (hw : ∀ d ∈ tables_1, d.before a0 Z = true) : (Jvm.Cond.constantLong "com/example/telemetree/telemetree/io/ShortestDecimalIntervalExponentPinLaw" (43 : Nat) (10000000000 : Int64)).before a0 Z = true := hw _ (List.mem_of_getElem? (i := 24) rfl)
theorem ow25 {Z : State} {a0 : Array Value} (hw : ∀ d ∈ tables_1, d.before a0 Z = true) : (Jvm.Cond.constantLong "com/example/telemetree/telemetree/io/ShortestDecimalIntervalExponentPinLaw" (45 : Nat) (100000000000 : Int64)).before a0 Z = true := hw _ (List.mem_of_getElem? (i := 25) rfl)
theorem ow26 {Z : State} {a0 : Array Value} (hw : ∀ d ∈ tables_1, d.before a0 Z = true) : (Jvm.Cond.constantLong "com/example/telemetree/telemetree/io/ShortestDecimalIntervalExponentPinLaw" (47 : Nat) (1000000000000 : Int64)).before a0 Z = true := hw _ (List.mem_of_getElem? (i := 26) rfl)
theorem ow27 {Z : State} {a0 : Array Value} (hw : ∀ d ∈ tables_1, d.before a0 Z = true) : (Jvm.Cond.constantLong "com/example/telemetree/telemetree/io/ShortestDecimalIntervalExponentPinLaw" (49 : Nat) (10000000000000 : Int64)).before a0 Z = true := hw _ (List.mem_of_getElem? (i := 27) rfl)
theorem ow28 {Z : State} {a0 : Array Value} (hw : ∀ d ∈ tables_1, d.before a0 Z = true) : (Jvm.Cond.constantLong "com/example/telemetree/telemetree/io/ShortestDecimalIntervalExponentPinLaw" (51 : Nat) (100000000000000 : Int64)).before a0 Z = true := hw _ (List.mem_of_getElem? (i := 28) rfl)
theorem ow29 {Z : State} {a0 : Array Value} (hw : ∀ d ∈ tables_1, d.before a0 Z = true) : (Jvm.Cond.constantLong "com/example/telemetree/telemetree/io/ShortestDecimalIntervalExponentPinLaw" (53 : Nat) (1000000000000000 : Int64)).before a0 Z = true := hw _ (List.mem_of_getElem? (i := 29) rfl)
theorem ow30 {Z : State} {a0 : Array Value} (hw : ∀ d ∈ tables_1, d.before a0 Z = true) : (Jvm.Cond.constantLong "com/example/telemetree/telemetree/io/ShortestDecimalIntervalExponentPinLaw" (55 : Nat) (10000000000000000 : Int64)).before a0 Z = true := hw _ (List.mem_of_getElem? (i := 30) rfl)
theorem ow31 {Z : State} {a0 : Array Value} (hw : ∀ d ∈ tables_1, d.before a0 Z = true) : (Jvm.Cond.constantLong "com/example/telemetree/telemetree/io/ShortestDecimalIntervalExponentPinLaw" (57 : Nat) (100000000000000000 : Int64)).before a0 Z = true := hw _ (List.mem_of_getElem? (i := 31) rfl)
theorem ow32 {Z : State} {a0 : Array Value} (hw : ∀ d ∈ tables_1, d.before a0 Z = true) : (Jvm.Cond.constantLong "com/example/telemetree/telemetree/io/ShortestDecimalIntervalExponentPinLaw" (59 : Nat) (1000000000000000000 : Int64)).before a0 Z = true := hw _ (List.mem_of_getElem? (i := 32) rfl)
theorem ow33 {Z : State} {a0 : Array Value} (hw : ∀ d ∈ tables_1, d.before a0 Z = true) : (Jvm.Cond.constantLong "com/example/telemetree/telemetree/io/ShortestDecimalIntervalExponentPinLaw" (61 : Nat) (3 : Int64)).before a0 Z = true := hw _ (List.mem_of_getElem? (i := 33) rfl)
theorem ow34 {Z : State} {a0 : Array Value} (hw : ∀ d ∈ tables_1, d.before a0 Z = true) : (Jvm.Cond.constantLong "com/example/telemetree/telemetree/io/ShortestDecimalIntervalExponentPinLaw" (63 : Nat) (4 : Int64)).before a0 Z = true := hw _ (List.mem_of_getElem? (i := 34) rfl)
theorem ow35 {Z : State} {a0 : Array Value} (hw : ∀ d ∈ tables_1, d.before a0 Z = true) : (Jvm.Cond.constantLong "com/example/telemetree/telemetree/io/ShortestDecimalIntervalExponentPinLaw" (65 : Nat) (40 : Int64)).before a0 Z = true := hw _ (List.mem_of_getElem? (i := 35) rfl)
def own_tens : List Int64 := [1, 10, 100, 1000, 10000, 100000, 1000000, 10000000, 100000000, 1000000000, 10000000000, 100000000000, 1000000000000, 10000000000000, 100000000000000, 1000000000000000, 10000000000000000, 100000000000000000, 1000000000000000000]
def own_ten (j : Int32) : Int64 := own_tens.getD j.toNatClampNeg 0
theorem own_ten_at (i : Nat) : ([.long (1 : Int64), .long (10 : Int64), .long (100 : Int64), .long (1000 : Int64), .long (10000 : Int64), .long (100000 : Int64), .long (1000000 : Int64), .long (10000000 : Int64), .long (100000000 : Int64), .long (1000000000 : Int64), .long (10000000000 : Int64), .long (100000000000 : Int64), .long (1000000000000 : Int64), .long (10000000000000 : Int64), .long (100000000000000 : Int64), .long (1000000000000000 : Int64), .long (10000000000000000 : Int64), .long (100000000000000000 : Int64), .long (1000000000000000000 : Int64)] : List Value).getD i (.long (0 : Int64)) = .long (own_tens.getD i 0) := by
  match i with
  | 0 => rfl
  | 1 => rfl
  | 2 => rfl
  | 3 => rfl
  | 4 => rfl
  | 5 => rfl
  | 6 => rfl
  | 7 => rfl
  | 8 => rfl
  | 9 => rfl
  | 10 => rfl
  | 11 => rfl
  | 12 => rfl
  | 13 => rfl
  | 14 => rfl
  | 15 => rfl
  | 16 => rfl
  | 17 => rfl
  | 18 => rfl
  | n + 19 => rfl
theorem own_lt19 {j : Int32} (h : ¬ (18 : Int32) < j) : j < 19 := by
  rw [Int32.lt_iff_toInt_lt, show (18 : Int32).toInt = 18 from by decide] at h
  rw [Int32.lt_iff_toInt_lt, show (19 : Int32).toInt = 19 from by decide]; omega
theorem own_nn1 {j : Int32} (h : ¬ j < (1 : Int32)) : ¬ j < 0 := by
  rw [Int32.lt_iff_toInt_lt, show (1 : Int32).toInt = 1 from by decide] at h
  rw [Int32.lt_iff_toInt_lt, show (0 : Int32).toInt = 0 from by decide]; omega
theorem own_dec {j : Int32} (h1 : ¬ j < (1 : Int32)) (h2 : ¬ (18 : Int32) < j) : ¬ (j - (1 : Int32)) < 0 ∧ (j - (1 : Int32)) < 19 := by
  rw [Int32.lt_iff_toInt_lt, show (1 : Int32).toInt = 1 from by decide] at h1
  rw [Int32.lt_iff_toInt_lt, show (18 : Int32).toInt = 18 from by decide] at h2
  have q := c_isub j (1 : Int32)
  have r := rng32 (j - (1 : Int32))
  rw [show (1 : Int32).toInt = 1 from by decide] at q
  rw [Int32.lt_iff_toInt_lt, Int32.lt_iff_toInt_lt, show (0 : Int32).toInt = 0 from by decide, show (19 : Int32).toInt = 19 from by decide]; omega
theorem d1_0 : decode prog_7_method_3_code 0 = .ok (.iload_n 0, 1) := by decide +kernel
theorem d1_1 : decode prog_7_method_3_code 1 = .ok (.i2l, 1) := by decide +kernel
theorem d1_2 : decode prog_7_method_3_code 2 = .ok (.ldc2_w 37, 3) := by decide +kernel
theorem d1_5 : decode prog_7_method_3_code 5 = .ok (.lmul, 1) := by decide +kernel
theorem d1_6 : decode prog_7_method_3_code 6 = .ok (.iload_n 1, 1) := by decide +kernel
theorem d1_7 : decode prog_7_method_3_code 7 = .ok (.ifCond .eq 9, 3) := by decide +kernel
theorem d1_10 : decode prog_7_method_3_code 10 = .ok (.ldc2_w 39, 3) := by decide +kernel
theorem d1_13 : decode prog_7_method_3_code 13 = .ok (.goto 4, 3) := by decide +kernel
theorem d1_16 : decode prog_7_method_3_code 16 = .ok (.lconst 0, 1) := by decide +kernel
theorem d1_17 : decode prog_7_method_3_code 17 = .ok (.ladd, 1) := by decide +kernel
theorem d1_18 : decode prog_7_method_3_code 18 = .ok (.bipush 41, 2) := by decide +kernel
theorem d1_20 : decode prog_7_method_3_code 20 = .ok (.lshr, 1) := by decide +kernel
theorem d1_21 : decode prog_7_method_3_code 21 = .ok (.l2i, 1) := by decide +kernel
theorem d1_22 : decode prog_7_method_3_code 22 = .ok (.ireturn, 1) := by decide +kernel
theorem pn_1 : plainName "com/example/telemetree/telemetree/io/ShortestDecimal" = true := by first | (simp [plainName, overriddenIn]; done) | decide +kernel
theorem ef_rm1 (m : MethodId) (y0 : Int32) (y1 : Int32) : entryFrame m #[(.int y0), (.int y1)] 2 = mkF m 0 #[.val (.int y0), .val (.int y1)] [] := by first | (simp [entryFrame, mkF, argsToLocals, Value.category]; done) | rfl
def Q_rm1 (Z : State) (p1_0 : Int32) (p1_1 : Int32) (h0 : Heap) (n0 : Nat) (v : Option Value) (h : Heap) (L : List Loc) : Prop := v = some (.int (((((p1_0.toInt64) * (661971961084 : Int64)) + (if p1_1 = (0 : Int32) then (0 : Int64) else (-274743187321 : Int64))) >>> ((41 : Int32) &&& 0x3f).toInt64).toInt32)) ∧ Fr n0 L ∧ h = h0
set_option maxRecDepth 65536 in
set_option maxHeartbeats 40000000 in
theorem rm1 (l : Launch) (Z : State) (a0 : Array Value) (hw : ∀ d ∈ tables_1, d.before a0 Z = true) (ws : List Jvm.Cond) (p1_0 : Int32) (p1_1 : Int32) (h0 : Heap) (n0 : Nat) (Z0 : n0 ≤ h0.size) :
    MetFree l (⟨"com/example/telemetree/telemetree/io/ShortestDecimal", "intervalExponent", "(IZ)I"⟩ : MethodName) (head1 (Jvm.Cond.code (⟨"com/example/telemetree/telemetree/io/ShortestDecimal", "intervalExponent", "(IZ)I"⟩ : MethodName) prog_7_method_3_code 2 (some .int) :: ws) ({ frames := 0, cells := 0, slots := 0, locals := 0 } : Room)) (fun a U => a = #[(.int p1_0), (.int p1_1)] ∧ Z.Warmed39 U.vm ∧ U.heap = h0) (fun _ _ _ _ _ => True) (fun _ U o U' => ∃ v L, o = .returned v ∧ Q_rm1 Z p1_0 p1_1 h0 n0 v U'.heap L ∧ FrameEnd U o U' L ({ frames := 0, cells := 0, slots := 0, locals := 0 } : Room).cells ({ frames := 0, cells := 0, slots := 0, locals := 0 } : Room).slots) := by
  refine MetFree.of_bodySF (plainFor_of_name pn_1) hisR ?_
  intro p e s m args below meth c s₁ Bd hml0 hP hK
  obtain ⟨rfl, hZ, hh⟩ := hP
  have hx := Bd.exec
  have hby := Bd.bytes
  have hml : c.maxLocals = 2 := hml0
  have hown : s.vm.findClass "com/example/telemetree/telemetree/io/ShortestDecimal" = some m.cls := findClass_of_methodNamed Bd.named
  have hnm := (name_of_methodNamed Bd.named Bd.method).1
  have X0 : Stand p l e ({ frames := 0, cells := 0, slots := 0, locals := 0 } : Room) s m #[(.int p1_0), (.int p1_1)] below meth c s₁ [] 0 0 := Stand.of_body Bd
  have e0 : s₁.heap = h0 := by rw [← hh, Bd.state]; rfl
  have N0 := Fr.nil n0
  have pre0 : ∀ t, Steps p.tables e below (s₁.setTop (mkF m 0 #[.val (.int p1_0), .val (.int p1_1)] [])) t → Steps p.tables e below (s₁.setTop (entryFrame m #[(.int p1_0), (.int p1_1)] 2)) t := fun t k => castTop (ef_rm1 m p1_0 p1_1) k
  have G1 : ∀ t, Steps p.tables e below (s₁.setTop (mkF m 7 #[.val (.int p1_0), .val (.int p1_1)] [(.int p1_1), (.long ((p1_0.toInt64) * (661971961084 : Int64)))])) t → Steps p.tables e below (s₁.setTop (mkF m 0 #[.val (.int p1_0), .val (.int p1_1)] [])) t := by
    intro t k
    show Steps p.tables e below (s₁.setTop (mkF m 0 #[.val (.int p1_0), .val (.int p1_1)] [])) _
    refine XS.iloadN X0.here hx rfl (hb hby d1_0) rfl ?_
    show Steps p.tables e below (s₁.setTop (mkF m 1 #[.val (.int p1_0), .val (.int p1_1)] [(.int p1_0)])) _
    refine XS.i2l X0.here hx rfl (hb hby d1_1) rfl ?_
    show Steps p.tables e below (s₁.setTop (mkF m 2 #[.val (.int p1_0), .val (.int p1_1)] [(.long (p1_0.toInt64))])) _
    refine X0.ldc2Long hx hown (mvT hZ (ow4 hw)) (g := (mkF m 2 #[.val (.int p1_0), .val (.int p1_1)] [(.long (p1_0.toInt64))])) rfl (hb hby d1_2) _ ?_
    show Steps p.tables e below (s₁.setTop (mkF m 5 #[.val (.int p1_0), .val (.int p1_1)] [(.long (661971961084 : Int64)), (.long (p1_0.toInt64))])) _
    refine XS.lmul X0.here hx rfl (hb hby d1_5) rfl ?_
    show Steps p.tables e below (s₁.setTop (mkF m 6 #[.val (.int p1_0), .val (.int p1_1)] [(.long ((p1_0.toInt64) * (661971961084 : Int64)))])) _
    refine XS.iloadN X0.here hx rfl (hb hby d1_6) rfl ?_
    exact k
  obtain ⟨v3, hv3⟩ : ∃ z : Int64, z = (if p1_1 = (0 : Int32) then (0 : Int64) else (-274743187321 : Int64)) := ⟨_, rfl⟩
  obtain ⟨T4, Lo4, X4, N4, e4, G4⟩ := own_join X0 N0 (h := h0) (mkF m 7 #[.val (.int p1_0), .val (.int p1_1)] [(.int p1_1), (.long ((p1_0.toInt64) * (661971961084 : Int64)))]) (mkF m 17 #[.val (.int p1_0), .val (.int p1_1)] [(.long v3), (.long ((p1_0.toInt64) * (661971961084 : Int64)))]) (by
    by_cases h7_2 : p1_1 = (0 : Int32)
    · refine ⟨s₁, _, X0, N0, e0, fun t k => ?_⟩
      rw [show v3 = (0 : Int64) from hv3.trans (if_pos h7_2)] at k
      show Steps p.tables e below (s₁.setTop (mkF m 7 #[.val (.int p1_0), .val (.int p1_1)] [(.int p1_1), (.long ((p1_0.toInt64) * (661971961084 : Int64)))])) _
      refine XS.ifYes X0.here hx rfl (pc0 := 7) (pc' := 16) rfl (hb hby d1_7) rfl ((if0 _ _).trans (teq h7_2).1) (by decide) (by decide) ?_
      show Steps p.tables e below (s₁.setTop (mkF m 16 #[.val (.int p1_0), .val (.int p1_1)] [(.long ((p1_0.toInt64) * (661971961084 : Int64)))])) _
      refine XS.lconst X0.here hx rfl (hb hby d1_16) ?_
      exact k
    · refine ⟨s₁, _, X0, N0, e0, fun t k => ?_⟩
      rw [show v3 = (-274743187321 : Int64) from hv3.trans (if_neg h7_2)] at k
      show Steps p.tables e below (s₁.setTop (mkF m 7 #[.val (.int p1_0), .val (.int p1_1)] [(.int p1_1), (.long ((p1_0.toInt64) * (661971961084 : Int64)))])) _
      refine XS.ifNo X0.here hx rfl (hb hby d1_7) rfl ((if0 _ _).trans (feq h7_2).1) ?_
      show Steps p.tables e below (s₁.setTop (mkF m 10 #[.val (.int p1_0), .val (.int p1_1)] [(.long ((p1_0.toInt64) * (661971961084 : Int64)))])) _
      refine X0.ldc2Long hx hown (mvT hZ (ow5 hw)) (g := (mkF m 10 #[.val (.int p1_0), .val (.int p1_1)] [(.long ((p1_0.toInt64) * (661971961084 : Int64)))])) rfl (hb hby d1_10) _ ?_
      show Steps p.tables e below (s₁.setTop (mkF m 13 #[.val (.int p1_0), .val (.int p1_1)] [(.long (-274743187321 : Int64)), (.long ((p1_0.toInt64) * (661971961084 : Int64)))])) _
      refine XS.goto X0.here hx rfl (pc0 := 13) (pc' := 17) rfl (hb hby d1_13) (by decide) (by decide) ?_
      exact k)
  obtain ⟨fs, hr, hrun, hended, hW, hsame⟩ := X4.leave (v := some (.int (((((p1_0.toInt64) * (661971961084 : Int64)) + v3) >>> ((41 : Int32) &&& 0x3f).toInt64).toInt32))) (fun h => by rw [Bd.returns] at h; cases h)
  refine ⟨_, _, pre0 _ ?_, hrun, hended, _, _, rfl, ?_, ⟨_, rfl⟩, hW, hsame.mono (by decide) (by decide)⟩
  · refine G1 _ ?_
    refine G4 _ ?_
    show Steps p.tables e below (T4.setTop (mkF m 17 #[.val (.int p1_0), .val (.int p1_1)] [(.long v3), (.long ((p1_0.toInt64) * (661971961084 : Int64)))])) _
    refine XS.ladd X4.here hx rfl (hb hby d1_17) rfl ?_
    show Steps p.tables e below (T4.setTop (mkF m 18 #[.val (.int p1_0), .val (.int p1_1)] [(.long (((p1_0.toInt64) * (661971961084 : Int64)) + v3))])) _
    refine XS.bipush X4.here hx rfl (hb hby d1_18) ?_
    show Steps p.tables e below (T4.setTop (mkF m 20 #[.val (.int p1_0), .val (.int p1_1)] [(.int (41 : Int32)), (.long (((p1_0.toInt64) * (661971961084 : Int64)) + v3))])) _
    refine XS.lshr X4.here hx rfl (hb hby d1_20) rfl ?_
    show Steps p.tables e below (T4.setTop (mkF m 21 #[.val (.int p1_0), .val (.int p1_1)] [(.long ((((p1_0.toInt64) * (661971961084 : Int64)) + v3) >>> ((41 : Int32) &&& 0x3f).toInt64))])) _
    refine XS.l2i X4.here hx rfl (hb hby d1_21) rfl ?_
    show Steps p.tables e below (T4.setTop (mkF m 22 #[.val (.int p1_0), .val (.int p1_1)] [(.int (((((p1_0.toInt64) * (661971961084 : Int64)) + v3) >>> ((41 : Int32) &&& 0x3f).toInt64).toInt32))])) _
    exact retI X4 hx Bd.returns (hb hby d1_22) hr
  · show Q_rm1 Z p1_0 p1_1 h0 n0 _ T4.heap _
    rw [e4]
    subst hv3
    exact ⟨rfl, N4, rfl⟩
theorem d2_0 : decode method_3_code 0 = .ok (.iload_n 0, 1) := by decide +kernel
theorem d2_1 : decode method_3_code 1 = .ok (.ifCond .lt 14, 3) := by decide +kernel
theorem d2_4 : decode method_3_code 4 = .ok (.iload_n 0, 1) := by decide +kernel
theorem d2_5 : decode method_3_code 5 = .ok (.i2l, 1) := by decide +kernel
theorem d2_6 : decode method_3_code 6 = .ok (.ldc2_w 23, 3) := by decide +kernel
theorem d2_9 : decode method_3_code 9 = .ok (.lmul, 1) := by decide +kernel
theorem d2_10 : decode method_3_code 10 = .ok (.bipush 18, 2) := by decide +kernel
theorem d2_12 : decode method_3_code 12 = .ok (.lshr, 1) := by decide +kernel
theorem d2_13 : decode method_3_code 13 = .ok (.l2i, 1) := by decide +kernel
theorem d2_14 : decode method_3_code 14 = .ok (.ireturn, 1) := by decide +kernel
theorem d2_15 : decode method_3_code 15 = .ok (.iload_n 0, 1) := by decide +kernel
theorem d2_16 : decode method_3_code 16 = .ok (.ineg, 1) := by decide +kernel
theorem d2_17 : decode method_3_code 17 = .ok (.i2l, 1) := by decide +kernel
theorem d2_18 : decode method_3_code 18 = .ok (.ldc2_w 23, 3) := by decide +kernel
theorem d2_21 : decode method_3_code 21 = .ok (.lmul, 1) := by decide +kernel
theorem d2_22 : decode method_3_code 22 = .ok (.bipush 18, 2) := by decide +kernel
theorem d2_24 : decode method_3_code 24 = .ok (.lshr, 1) := by decide +kernel
theorem d2_25 : decode method_3_code 25 = .ok (.l2i, 1) := by decide +kernel
theorem d2_26 : decode method_3_code 26 = .ok (.ineg, 1) := by decide +kernel
theorem d2_27 : decode method_3_code 27 = .ok (.iconst 1, 1) := by decide +kernel
theorem d2_28 : decode method_3_code 28 = .ok (.isub, 1) := by decide +kernel
theorem d2_29 : decode method_3_code 29 = .ok (.ireturn, 1) := by decide +kernel
theorem pn_2 : plainName "com/example/telemetree/telemetree/io/ShortestDecimalIntervalExponentPinLaw" = true := by first | (simp [plainName, overriddenIn]; done) | decide +kernel
theorem ef_rm2 (m : MethodId) (y0 : Int32) : entryFrame m #[(.int y0)] 1 = mkF m 0 #[.val (.int y0)] [] := by first | (simp [entryFrame, mkF, argsToLocals, Value.category]; done) | rfl
def Q_rm2 (Z : State) (p2_0 : Int32) (h0 : Heap) (n0 : Nat) (v : Option Value) (h : Heap) (L : List Loc) : Prop := v = some (.int (if p2_0 < (0 : Int32) then ((-(((((-p2_0).toInt64) * (78913 : Int64)) >>> ((18 : Int32) &&& 0x3f).toInt64).toInt32)) - (1 : Int32)) else ((((p2_0.toInt64) * (78913 : Int64)) >>> ((18 : Int32) &&& 0x3f).toInt64).toInt32))) ∧ Fr n0 L ∧ h = h0
set_option maxRecDepth 65536 in
set_option maxHeartbeats 40000000 in
theorem rm2 (l : Launch) (Z : State) (a0 : Array Value) (hw : ∀ d ∈ tables_1, d.before a0 Z = true) (ws : List Jvm.Cond) (p2_0 : Int32) (h0 : Heap) (n0 : Nat) (Z0 : n0 ≤ h0.size) :
    MetFree l (⟨"com/example/telemetree/telemetree/io/ShortestDecimalIntervalExponentPinLaw", "floorLog10Pow2", "(I)I"⟩ : MethodName) (head1 (Jvm.Cond.code (⟨"com/example/telemetree/telemetree/io/ShortestDecimalIntervalExponentPinLaw", "floorLog10Pow2", "(I)I"⟩ : MethodName) method_3_code 1 (some .int) :: ws) ({ frames := 0, cells := 0, slots := 0, locals := 0 } : Room)) (fun a U => a = #[(.int p2_0)] ∧ Z.Warmed39 U.vm ∧ U.heap = h0) (fun _ _ _ _ _ => True) (fun _ U o U' => ∃ v L, o = .returned v ∧ Q_rm2 Z p2_0 h0 n0 v U'.heap L ∧ FrameEnd U o U' L ({ frames := 0, cells := 0, slots := 0, locals := 0 } : Room).cells ({ frames := 0, cells := 0, slots := 0, locals := 0 } : Room).slots) := by
  refine MetFree.of_bodySF (plainFor_of_name pn_2) hisR ?_
  intro p e s m args below meth c s₁ Bd hml0 hP hK
  obtain ⟨rfl, hZ, hh⟩ := hP
  have hx := Bd.exec
  have hby := Bd.bytes
  have hml : c.maxLocals = 1 := hml0
  have hown : s.vm.findClass "com/example/telemetree/telemetree/io/ShortestDecimalIntervalExponentPinLaw" = some m.cls := findClass_of_methodNamed Bd.named
  have hnm := (name_of_methodNamed Bd.named Bd.method).1
  have X0 : Stand p l e ({ frames := 0, cells := 0, slots := 0, locals := 0 } : Room) s m #[(.int p2_0)] below meth c s₁ [] 0 0 := Stand.of_body Bd
  have e0 : s₁.heap = h0 := by rw [← hh, Bd.state]; rfl
  have N0 := Fr.nil n0
  have pre0 : ∀ t, Steps p.tables e below (s₁.setTop (mkF m 0 #[.val (.int p2_0)] [])) t → Steps p.tables e below (s₁.setTop (entryFrame m #[(.int p2_0)] 1)) t := fun t k => castTop (ef_rm2 m p2_0) k
  have G1 : ∀ t, Steps p.tables e below (s₁.setTop (mkF m 1 #[.val (.int p2_0)] [(.int p2_0)])) t → Steps p.tables e below (s₁.setTop (mkF m 0 #[.val (.int p2_0)] [])) t := by
    intro t k
    show Steps p.tables e below (s₁.setTop (mkF m 0 #[.val (.int p2_0)] [])) _
    refine XS.iloadN X0.here hx rfl (hb hby d2_0) rfl ?_
    exact k
  by_cases h1_2 : p2_0 < (0 : Int32)
  · obtain ⟨fs, hr, hrun, hended, hW, hsame⟩ := X0.leave (v := some (.int ((-(((((-p2_0).toInt64) * (78913 : Int64)) >>> ((18 : Int32) &&& 0x3f).toInt64).toInt32)) - (1 : Int32)))) (fun h => by rw [Bd.returns] at h; cases h)
    refine ⟨_, _, pre0 _ ?_, hrun, hended, _, _, rfl, ?_, ⟨_, rfl⟩, hW, hsame.mono (by decide) (by decide)⟩
    · refine G1 _ ?_
      show Steps p.tables e below (s₁.setTop (mkF m 1 #[.val (.int p2_0)] [(.int p2_0)])) _
      refine XS.ifYes X0.here hx rfl (pc0 := 1) (pc' := 15) rfl (hb hby d2_1) rfl ((if0 _ _).trans (tlt h1_2).1) (by decide) (by decide) ?_
      show Steps p.tables e below (s₁.setTop (mkF m 15 #[.val (.int p2_0)] [])) _
      refine XS.iloadN X0.here hx rfl (hb hby d2_15) rfl ?_
      show Steps p.tables e below (s₁.setTop (mkF m 16 #[.val (.int p2_0)] [(.int p2_0)])) _
      refine XS.ineg X0.here hx rfl (hb hby d2_16) rfl ?_
      show Steps p.tables e below (s₁.setTop (mkF m 17 #[.val (.int p2_0)] [(.int (-p2_0))])) _
      refine XS.i2l X0.here hx rfl (hb hby d2_17) rfl ?_
      show Steps p.tables e below (s₁.setTop (mkF m 18 #[.val (.int p2_0)] [(.long ((-p2_0).toInt64))])) _
      refine X0.ldc2Long hx hown (mvT hZ (ow10 hw)) (g := (mkF m 18 #[.val (.int p2_0)] [(.long ((-p2_0).toInt64))])) rfl (hb hby d2_18) _ ?_
      show Steps p.tables e below (s₁.setTop (mkF m 21 #[.val (.int p2_0)] [(.long (78913 : Int64)), (.long ((-p2_0).toInt64))])) _
      refine XS.lmul X0.here hx rfl (hb hby d2_21) rfl ?_
      show Steps p.tables e below (s₁.setTop (mkF m 22 #[.val (.int p2_0)] [(.long (((-p2_0).toInt64) * (78913 : Int64)))])) _
      refine XS.bipush X0.here hx rfl (hb hby d2_22) ?_
      show Steps p.tables e below (s₁.setTop (mkF m 24 #[.val (.int p2_0)] [(.int (18 : Int32)), (.long (((-p2_0).toInt64) * (78913 : Int64)))])) _
      refine XS.lshr X0.here hx rfl (hb hby d2_24) rfl ?_
      show Steps p.tables e below (s₁.setTop (mkF m 25 #[.val (.int p2_0)] [(.long ((((-p2_0).toInt64) * (78913 : Int64)) >>> ((18 : Int32) &&& 0x3f).toInt64))])) _
      refine XS.l2i X0.here hx rfl (hb hby d2_25) rfl ?_
      show Steps p.tables e below (s₁.setTop (mkF m 26 #[.val (.int p2_0)] [(.int (((((-p2_0).toInt64) * (78913 : Int64)) >>> ((18 : Int32) &&& 0x3f).toInt64).toInt32))])) _
      refine XS.ineg X0.here hx rfl (hb hby d2_26) rfl ?_
      show Steps p.tables e below (s₁.setTop (mkF m 27 #[.val (.int p2_0)] [(.int (-(((((-p2_0).toInt64) * (78913 : Int64)) >>> ((18 : Int32) &&& 0x3f).toInt64).toInt32)))])) _
      refine XS.iconst X0.here hx rfl (hb hby d2_27) ?_
      show Steps p.tables e below (s₁.setTop (mkF m 28 #[.val (.int p2_0)] [(.int (1 : Int32)), (.int (-(((((-p2_0).toInt64) * (78913 : Int64)) >>> ((18 : Int32) &&& 0x3f).toInt64).toInt32)))])) _
      refine XS.isub X0.here hx rfl (hb hby d2_28) rfl ?_
      show Steps p.tables e below (s₁.setTop (mkF m 29 #[.val (.int p2_0)] [(.int ((-(((((-p2_0).toInt64) * (78913 : Int64)) >>> ((18 : Int32) &&& 0x3f).toInt64).toInt32)) - (1 : Int32)))])) _
      exact retI X0 hx Bd.returns (hb hby d2_29) hr
    · show Q_rm2 Z p2_0 h0 n0 _ s₁.heap _
      rw [e0]
      exact ⟨(congrArg (fun z => some (Value.int z)) (if_pos h1_2).symm), N0, rfl⟩
  · obtain ⟨fs, hr, hrun, hended, hW, hsame⟩ := X0.leave (v := some (.int ((((p2_0.toInt64) * (78913 : Int64)) >>> ((18 : Int32) &&& 0x3f).toInt64).toInt32))) (fun h => by rw [Bd.returns] at h; cases h)
    refine ⟨_, _, pre0 _ ?_, hrun, hended, _, _, rfl, ?_, ⟨_, rfl⟩, hW, hsame.mono (by decide) (by decide)⟩
    · refine G1 _ ?_
      show Steps p.tables e below (s₁.setTop (mkF m 1 #[.val (.int p2_0)] [(.int p2_0)])) _
      refine XS.ifNo X0.here hx rfl (hb hby d2_1) rfl ((if0 _ _).trans (flt h1_2).1) ?_
      show Steps p.tables e below (s₁.setTop (mkF m 4 #[.val (.int p2_0)] [])) _
      refine XS.iloadN X0.here hx rfl (hb hby d2_4) rfl ?_
      show Steps p.tables e below (s₁.setTop (mkF m 5 #[.val (.int p2_0)] [(.int p2_0)])) _
      refine XS.i2l X0.here hx rfl (hb hby d2_5) rfl ?_
      show Steps p.tables e below (s₁.setTop (mkF m 6 #[.val (.int p2_0)] [(.long (p2_0.toInt64))])) _
      refine X0.ldc2Long hx hown (mvT hZ (ow10 hw)) (g := (mkF m 6 #[.val (.int p2_0)] [(.long (p2_0.toInt64))])) rfl (hb hby d2_6) _ ?_
      show Steps p.tables e below (s₁.setTop (mkF m 9 #[.val (.int p2_0)] [(.long (78913 : Int64)), (.long (p2_0.toInt64))])) _
      refine XS.lmul X0.here hx rfl (hb hby d2_9) rfl ?_
      show Steps p.tables e below (s₁.setTop (mkF m 10 #[.val (.int p2_0)] [(.long ((p2_0.toInt64) * (78913 : Int64)))])) _
      refine XS.bipush X0.here hx rfl (hb hby d2_10) ?_
      show Steps p.tables e below (s₁.setTop (mkF m 12 #[.val (.int p2_0)] [(.int (18 : Int32)), (.long ((p2_0.toInt64) * (78913 : Int64)))])) _
      refine XS.lshr X0.here hx rfl (hb hby d2_12) rfl ?_
      show Steps p.tables e below (s₁.setTop (mkF m 13 #[.val (.int p2_0)] [(.long (((p2_0.toInt64) * (78913 : Int64)) >>> ((18 : Int32) &&& 0x3f).toInt64))])) _
      refine XS.l2i X0.here hx rfl (hb hby d2_13) rfl ?_
      show Steps p.tables e below (s₁.setTop (mkF m 14 #[.val (.int p2_0)] [(.int ((((p2_0.toInt64) * (78913 : Int64)) >>> ((18 : Int32) &&& 0x3f).toInt64).toInt32))])) _
      exact retI X0 hx Bd.returns (hb hby d2_14) hr
    · show Q_rm2 Z p2_0 h0 n0 _ s₁.heap _
      rw [e0]
      exact ⟨(congrArg (fun z => some (Value.int z)) (if_neg h1_2).symm), N0, rfl⟩
theorem d3_0 : decode method_4_code 0 = .ok (.bipush 19, 2) := by decide +kernel
theorem d3_2 : decode method_4_code 2 = .ok (.newarray .long, 2) := by decide +kernel
theorem d3_4 : decode method_4_code 4 = .ok (.dup, 1) := by decide +kernel
theorem d3_5 : decode method_4_code 5 = .ok (.iconst 0, 1) := by decide +kernel
theorem d3_6 : decode method_4_code 6 = .ok (.lconst 1, 1) := by decide +kernel
theorem d3_7 : decode method_4_code 7 = .ok (.lastore, 1) := by decide +kernel
theorem d3_8 : decode method_4_code 8 = .ok (.dup, 1) := by decide +kernel
theorem d3_9 : decode method_4_code 9 = .ok (.iconst 1, 1) := by decide +kernel
theorem d3_10 : decode method_4_code 10 = .ok (.ldc2_w 25, 3) := by decide +kernel
theorem d3_13 : decode method_4_code 13 = .ok (.lastore, 1) := by decide +kernel
theorem d3_14 : decode method_4_code 14 = .ok (.dup, 1) := by decide +kernel
theorem d3_15 : decode method_4_code 15 = .ok (.iconst 2, 1) := by decide +kernel
theorem d3_16 : decode method_4_code 16 = .ok (.ldc2_w 27, 3) := by decide +kernel
theorem d3_19 : decode method_4_code 19 = .ok (.lastore, 1) := by decide +kernel
theorem d3_20 : decode method_4_code 20 = .ok (.dup, 1) := by decide +kernel
theorem d3_21 : decode method_4_code 21 = .ok (.iconst 3, 1) := by decide +kernel
theorem d3_22 : decode method_4_code 22 = .ok (.ldc2_w 29, 3) := by decide +kernel
theorem d3_25 : decode method_4_code 25 = .ok (.lastore, 1) := by decide +kernel
theorem d3_26 : decode method_4_code 26 = .ok (.dup, 1) := by decide +kernel
theorem d3_27 : decode method_4_code 27 = .ok (.iconst 4, 1) := by decide +kernel
theorem d3_28 : decode method_4_code 28 = .ok (.ldc2_w 31, 3) := by decide +kernel
theorem d3_31 : decode method_4_code 31 = .ok (.lastore, 1) := by decide +kernel
theorem d3_32 : decode method_4_code 32 = .ok (.dup, 1) := by decide +kernel
theorem d3_33 : decode method_4_code 33 = .ok (.iconst 5, 1) := by decide +kernel
theorem d3_34 : decode method_4_code 34 = .ok (.ldc2_w 33, 3) := by decide +kernel
theorem d3_37 : decode method_4_code 37 = .ok (.lastore, 1) := by decide +kernel
theorem d3_38 : decode method_4_code 38 = .ok (.dup, 1) := by decide +kernel
theorem d3_39 : decode method_4_code 39 = .ok (.bipush 6, 2) := by decide +kernel
theorem d3_41 : decode method_4_code 41 = .ok (.ldc2_w 35, 3) := by decide +kernel
theorem d3_44 : decode method_4_code 44 = .ok (.lastore, 1) := by decide +kernel
theorem d3_45 : decode method_4_code 45 = .ok (.dup, 1) := by decide +kernel
theorem d3_46 : decode method_4_code 46 = .ok (.bipush 7, 2) := by decide +kernel
theorem d3_48 : decode method_4_code 48 = .ok (.ldc2_w 37, 3) := by decide +kernel
theorem d3_51 : decode method_4_code 51 = .ok (.lastore, 1) := by decide +kernel
theorem d3_52 : decode method_4_code 52 = .ok (.dup, 1) := by decide +kernel
theorem d3_53 : decode method_4_code 53 = .ok (.bipush 8, 2) := by decide +kernel
theorem d3_55 : decode method_4_code 55 = .ok (.ldc2_w 39, 3) := by decide +kernel
theorem d3_58 : decode method_4_code 58 = .ok (.lastore, 1) := by decide +kernel
theorem d3_59 : decode method_4_code 59 = .ok (.dup, 1) := by decide +kernel
theorem d3_60 : decode method_4_code 60 = .ok (.bipush 9, 2) := by decide +kernel
theorem d3_62 : decode method_4_code 62 = .ok (.ldc2_w 41, 3) := by decide +kernel
theorem d3_65 : decode method_4_code 65 = .ok (.lastore, 1) := by decide +kernel
theorem d3_66 : decode method_4_code 66 = .ok (.dup, 1) := by decide +kernel
theorem d3_67 : decode method_4_code 67 = .ok (.bipush 10, 2) := by decide +kernel
theorem d3_69 : decode method_4_code 69 = .ok (.ldc2_w 43, 3) := by decide +kernel
theorem d3_72 : decode method_4_code 72 = .ok (.lastore, 1) := by decide +kernel
theorem d3_73 : decode method_4_code 73 = .ok (.dup, 1) := by decide +kernel
theorem d3_74 : decode method_4_code 74 = .ok (.bipush 11, 2) := by decide +kernel
theorem d3_76 : decode method_4_code 76 = .ok (.ldc2_w 45, 3) := by decide +kernel
theorem d3_79 : decode method_4_code 79 = .ok (.lastore, 1) := by decide +kernel
theorem d3_80 : decode method_4_code 80 = .ok (.dup, 1) := by decide +kernel
theorem d3_81 : decode method_4_code 81 = .ok (.bipush 12, 2) := by decide +kernel
theorem d3_83 : decode method_4_code 83 = .ok (.ldc2_w 47, 3) := by decide +kernel
theorem d3_86 : decode method_4_code 86 = .ok (.lastore, 1) := by decide +kernel
theorem d3_87 : decode method_4_code 87 = .ok (.dup, 1) := by decide +kernel
theorem d3_88 : decode method_4_code 88 = .ok (.bipush 13, 2) := by decide +kernel
theorem d3_90 : decode method_4_code 90 = .ok (.ldc2_w 49, 3) := by decide +kernel
theorem d3_93 : decode method_4_code 93 = .ok (.lastore, 1) := by decide +kernel
theorem d3_94 : decode method_4_code 94 = .ok (.dup, 1) := by decide +kernel
theorem d3_95 : decode method_4_code 95 = .ok (.bipush 14, 2) := by decide +kernel
theorem d3_97 : decode method_4_code 97 = .ok (.ldc2_w 51, 3) := by decide +kernel
theorem d3_100 : decode method_4_code 100 = .ok (.lastore, 1) := by decide +kernel
theorem d3_101 : decode method_4_code 101 = .ok (.dup, 1) := by decide +kernel
theorem d3_102 : decode method_4_code 102 = .ok (.bipush 15, 2) := by decide +kernel
theorem d3_104 : decode method_4_code 104 = .ok (.ldc2_w 53, 3) := by decide +kernel
theorem d3_107 : decode method_4_code 107 = .ok (.lastore, 1) := by decide +kernel
theorem d3_108 : decode method_4_code 108 = .ok (.dup, 1) := by decide +kernel
theorem d3_109 : decode method_4_code 109 = .ok (.bipush 16, 2) := by decide +kernel
theorem d3_111 : decode method_4_code 111 = .ok (.ldc2_w 55, 3) := by decide +kernel
theorem d3_114 : decode method_4_code 114 = .ok (.lastore, 1) := by decide +kernel
theorem d3_115 : decode method_4_code 115 = .ok (.dup, 1) := by decide +kernel
theorem d3_116 : decode method_4_code 116 = .ok (.bipush 17, 2) := by decide +kernel
theorem d3_118 : decode method_4_code 118 = .ok (.ldc2_w 57, 3) := by decide +kernel
theorem d3_121 : decode method_4_code 121 = .ok (.lastore, 1) := by decide +kernel
theorem d3_122 : decode method_4_code 122 = .ok (.dup, 1) := by decide +kernel
theorem d3_123 : decode method_4_code 123 = .ok (.bipush 18, 2) := by decide +kernel
theorem d3_125 : decode method_4_code 125 = .ok (.ldc2_w 59, 3) := by decide +kernel
theorem d3_128 : decode method_4_code 128 = .ok (.lastore, 1) := by decide +kernel
theorem d3_129 : decode method_4_code 129 = .ok (.astore_n 3, 1) := by decide +kernel
theorem d3_130 : decode method_4_code 130 = .ok (.iload_n 1, 1) := by decide +kernel
theorem d3_131 : decode method_4_code 131 = .ok (.ifCond .eq 9, 3) := by decide +kernel
theorem d3_134 : decode method_4_code 134 = .ok (.ldc2_w 61, 3) := by decide +kernel
theorem d3_137 : decode method_4_code 137 = .ok (.goto 6, 3) := by decide +kernel
theorem d3_140 : decode method_4_code 140 = .ok (.ldc2_w 63, 3) := by decide +kernel
theorem d3_143 : decode method_4_code 143 = .ok (.lstore 4, 2) := by decide +kernel
theorem d3_145 : decode method_4_code 145 = .ok (.iload_n 2, 1) := by decide +kernel
theorem d3_146 : decode method_4_code 146 = .ok (.ifCond .lt 53, 3) := by decide +kernel
theorem d3_149 : decode method_4_code 149 = .ok (.iload_n 0, 1) := by decide +kernel
theorem d3_150 : decode method_4_code 150 = .ok (.ifCond .lt 9, 3) := by decide +kernel
theorem d3_153 : decode method_4_code 153 = .ok (.iload_n 2, 1) := by decide +kernel
theorem d3_154 : decode method_4_code 154 = .ok (.bipush 18, 2) := by decide +kernel
theorem d3_156 : decode method_4_code 156 = .ok (.if_icmp .le 5, 3) := by decide +kernel
theorem d3_159 : decode method_4_code 159 = .ok (.iconst 0, 1) := by decide +kernel
theorem d3_160 : decode method_4_code 160 = .ok (.ireturn, 1) := by decide +kernel
theorem d3_161 : decode method_4_code 161 = .ok (.lload 4, 2) := by decide +kernel
theorem d3_163 : decode method_4_code 163 = .ok (.iload_n 0, 1) := by decide +kernel
theorem d3_164 : decode method_4_code 164 = .ok (.lshl, 1) := by decide +kernel
theorem d3_165 : decode method_4_code 165 = .ok (.lstore 6, 2) := by decide +kernel
theorem d3_167 : decode method_4_code 167 = .ok (.ldc2_w 63, 3) := by decide +kernel
theorem d3_170 : decode method_4_code 170 = .ok (.aload_n 3, 1) := by decide +kernel
theorem d3_171 : decode method_4_code 171 = .ok (.iload_n 2, 1) := by decide +kernel
theorem d3_172 : decode method_4_code 172 = .ok (.laload, 1) := by decide +kernel
theorem d3_173 : decode method_4_code 173 = .ok (.lmul, 1) := by decide +kernel
theorem d3_174 : decode method_4_code 174 = .ok (.lload 6, 2) := by decide +kernel
theorem d3_176 : decode method_4_code 176 = .ok (.lcmp, 1) := by decide +kernel
theorem d3_177 : decode method_4_code 177 = .ok (.ifCond .gt 20, 3) := by decide +kernel
theorem d3_180 : decode method_4_code 180 = .ok (.lload 6, 2) := by decide +kernel
theorem d3_182 : decode method_4_code 182 = .ok (.ldc2_w 65, 3) := by decide +kernel
theorem d3_185 : decode method_4_code 185 = .ok (.ldiv, 1) := by decide +kernel
theorem d3_186 : decode method_4_code 186 = .ok (.aload_n 3, 1) := by decide +kernel
theorem d3_187 : decode method_4_code 187 = .ok (.iload_n 2, 1) := by decide +kernel
theorem d3_188 : decode method_4_code 188 = .ok (.laload, 1) := by decide +kernel
theorem d3_189 : decode method_4_code 189 = .ok (.lcmp, 1) := by decide +kernel
theorem d3_190 : decode method_4_code 190 = .ok (.ifCond .ge 7, 3) := by decide +kernel
theorem d3_193 : decode method_4_code 193 = .ok (.iconst 1, 1) := by decide +kernel
theorem d3_194 : decode method_4_code 194 = .ok (.goto 4, 3) := by decide +kernel
theorem d3_197 : decode method_4_code 197 = .ok (.iconst 0, 1) := by decide +kernel
theorem d3_198 : decode method_4_code 198 = .ok (.ireturn, 1) := by decide +kernel
theorem d3_199 : decode method_4_code 199 = .ok (.iload_n 2, 1) := by decide +kernel
theorem d3_200 : decode method_4_code 200 = .ok (.ineg, 1) := by decide +kernel
theorem d3_201 : decode method_4_code 201 = .ok (.istore 6, 2) := by decide +kernel
theorem d3_203 : decode method_4_code 203 = .ok (.iload_n 0, 1) := by decide +kernel
theorem d3_204 : decode method_4_code 204 = .ok (.iconst 2, 1) := by decide +kernel
theorem d3_205 : decode method_4_code 205 = .ok (.if_icmp .gt 16, 3) := by decide +kernel
theorem d3_208 : decode method_4_code 208 = .ok (.iload 6, 2) := by decide +kernel
theorem d3_210 : decode method_4_code 210 = .ok (.iconst 1, 1) := by decide +kernel
theorem d3_211 : decode method_4_code 211 = .ok (.if_icmp .lt 10, 3) := by decide +kernel
theorem d3_214 : decode method_4_code 214 = .ok (.iload 6, 2) := by decide +kernel
theorem d3_216 : decode method_4_code 216 = .ok (.bipush 18, 2) := by decide +kernel
theorem d3_218 : decode method_4_code 218 = .ok (.if_icmp .le 5, 3) := by decide +kernel
theorem d3_221 : decode method_4_code 221 = .ok (.iconst 0, 1) := by decide +kernel
theorem d3_222 : decode method_4_code 222 = .ok (.ireturn, 1) := by decide +kernel
theorem d3_223 : decode method_4_code 223 = .ok (.lconst 1, 1) := by decide +kernel
theorem d3_224 : decode method_4_code 224 = .ok (.iconst 2, 1) := by decide +kernel
theorem d3_225 : decode method_4_code 225 = .ok (.iload_n 0, 1) := by decide +kernel
theorem d3_226 : decode method_4_code 226 = .ok (.isub, 1) := by decide +kernel
theorem d3_227 : decode method_4_code 227 = .ok (.lshl, 1) := by decide +kernel
theorem d3_228 : decode method_4_code 228 = .ok (.lstore 7, 2) := by decide +kernel
theorem d3_230 : decode method_4_code 230 = .ok (.lload 7, 2) := by decide +kernel
theorem d3_232 : decode method_4_code 232 = .ok (.lload 4, 2) := by decide +kernel
theorem d3_234 : decode method_4_code 234 = .ok (.aload_n 3, 1) := by decide +kernel
theorem d3_235 : decode method_4_code 235 = .ok (.iload 6, 2) := by decide +kernel
theorem d3_237 : decode method_4_code 237 = .ok (.laload, 1) := by decide +kernel
theorem d3_238 : decode method_4_code 238 = .ok (.lmul, 1) := by decide +kernel
theorem d3_239 : decode method_4_code 239 = .ok (.lcmp, 1) := by decide +kernel
theorem d3_240 : decode method_4_code 240 = .ok (.ifCond .gt 22, 3) := by decide +kernel
theorem d3_243 : decode method_4_code 243 = .ok (.lload 4, 2) := by decide +kernel
theorem d3_245 : decode method_4_code 245 = .ok (.aload_n 3, 1) := by decide +kernel
theorem d3_246 : decode method_4_code 246 = .ok (.iload 6, 2) := by decide +kernel
theorem d3_248 : decode method_4_code 248 = .ok (.iconst 1, 1) := by decide +kernel
theorem d3_249 : decode method_4_code 249 = .ok (.isub, 1) := by decide +kernel
theorem d3_250 : decode method_4_code 250 = .ok (.laload, 1) := by decide +kernel
theorem d3_251 : decode method_4_code 251 = .ok (.lmul, 1) := by decide +kernel
theorem d3_252 : decode method_4_code 252 = .ok (.lload 7, 2) := by decide +kernel
theorem d3_254 : decode method_4_code 254 = .ok (.lcmp, 1) := by decide +kernel
theorem d3_255 : decode method_4_code 255 = .ok (.ifCond .ge 7, 3) := by decide +kernel
theorem d3_258 : decode method_4_code 258 = .ok (.iconst 1, 1) := by decide +kernel
theorem d3_259 : decode method_4_code 259 = .ok (.goto 4, 3) := by decide +kernel
theorem d3_262 : decode method_4_code 262 = .ok (.iconst 0, 1) := by decide +kernel
theorem d3_263 : decode method_4_code 263 = .ok (.ireturn, 1) := by decide +kernel
theorem pn_3 : plainName "com/example/telemetree/telemetree/io/ShortestDecimalIntervalExponentPinLaw" = true := by first | (simp [plainName, overriddenIn]; done) | decide +kernel
theorem ef_rm3 (m : MethodId) (y0 : Int32) (y1 : Int32) (y2 : Int32) : entryFrame m #[(.int y0), (.int y1), (.int y2)] 9 = mkF m 0 #[.val (.int y0), .val (.int y1), .val (.int y2), .unset, .unset, .unset, .unset, .unset, .unset] [] := by first | (simp [entryFrame, mkF, argsToLocals, Value.category]; done) | rfl
def Q_rm3 (Z : State) (p3_0 : Int32) (p3_1 : Int32) (p3_2 : Int32) (h0 : Heap) (n0 : Nat) (v : Option Value) (h : Heap) (L : List Loc) : Prop := v = some (.int (if p3_2 < (0 : Int32) then (if (2 : Int32) < p3_0 then (0 : Int32) else (if (-p3_2) < (1 : Int32) then (0 : Int32) else (if (18 : Int32) < (-p3_2) then (0 : Int32) else (if ((if p3_1 = (0 : Int32) then (4 : Int64) else (3 : Int64)) * (own_ten (-p3_2))) < ((1 : Int64) <<< (((2 : Int32) - p3_0) &&& 0x3f).toInt64) then (0 : Int32) else (if ((if p3_1 = (0 : Int32) then (4 : Int64) else (3 : Int64)) * (own_ten ((-p3_2) - (1 : Int32)))) < ((1 : Int64) <<< (((2 : Int32) - p3_0) &&& 0x3f).toInt64) then (1 : Int32) else (0 : Int32)))))) else (if p3_0 < (0 : Int32) then (0 : Int32) else (if (18 : Int32) < p3_2 then (0 : Int32) else (if ((if p3_1 = (0 : Int32) then (4 : Int64) else (3 : Int64)) <<< (p3_0 &&& 0x3f).toInt64) < ((4 : Int64) * (own_ten p3_2)) then (0 : Int32) else (if (((if p3_1 = (0 : Int32) then (4 : Int64) else (3 : Int64)) <<< (p3_0 &&& 0x3f).toInt64) / (40 : Int64)) < (own_ten p3_2) then (1 : Int32) else (0 : Int32))))))) ∧ Fr n0 L ∧ Keep h0 h []
set_option maxRecDepth 65536 in
set_option maxHeartbeats 40000000 in
theorem rm3 (l : Launch) (Z : State) (a0 : Array Value) (hw : ∀ d ∈ tables_1, d.before a0 Z = true) (ws : List Jvm.Cond) (p3_0 : Int32) (p3_1 : Int32) (p3_2 : Int32) (h0 : Heap) (n0 : Nat) (Z0 : n0 ≤ h0.size) :
    MetFree l (⟨"com/example/telemetree/telemetree/io/ShortestDecimalIntervalExponentPinLaw", "exact", "(IZI)Z"⟩ : MethodName) (head1 (Jvm.Cond.code (⟨"com/example/telemetree/telemetree/io/ShortestDecimalIntervalExponentPinLaw", "exact", "(IZI)Z"⟩ : MethodName) method_4_code 9 (some .boolean) :: ws) ({ frames := 0, cells := 1, slots := 19, locals := 0 } : Room)) (fun a U => a = #[(.int p3_0), (.int p3_1), (.int p3_2)] ∧ Z.Warmed39 U.vm ∧ U.heap = h0) (fun _ _ _ _ _ => True) (fun _ U o U' => ∃ v L, o = .returned v ∧ Q_rm3 Z p3_0 p3_1 p3_2 h0 n0 v U'.heap L ∧ FrameEnd U o U' L ({ frames := 0, cells := 1, slots := 19, locals := 0 } : Room).cells ({ frames := 0, cells := 1, slots := 19, locals := 0 } : Room).slots) := by
  refine MetFree.of_bodySF (plainFor_of_name pn_3) hisR ?_
  intro p e s m args below meth c s₁ Bd hml0 hP hK
  obtain ⟨rfl, hZ, hh⟩ := hP
  have hx := Bd.exec
  have hby := Bd.bytes
  have hml : c.maxLocals = 9 := hml0
  have hown : s.vm.findClass "com/example/telemetree/telemetree/io/ShortestDecimalIntervalExponentPinLaw" = some m.cls := findClass_of_methodNamed Bd.named
  have hnm := (name_of_methodNamed Bd.named Bd.method).1
  have X0 : Stand p l e ({ frames := 0, cells := 1, slots := 19, locals := 0 } : Room) s m #[(.int p3_0), (.int p3_1), (.int p3_2)] below meth c s₁ [] 0 0 := Stand.of_body Bd
  have e0 : s₁.heap = h0 := by rw [← hh, Bd.state]; rfl
  have N0 := Fr.nil n0
  have pre0 : ∀ t, Steps p.tables e below (s₁.setTop (mkF m 0 #[.val (.int p3_0), .val (.int p3_1), .val (.int p3_2), .unset, .unset, .unset, .unset, .unset, .unset] [])) t → Steps p.tables e below (s₁.setTop (entryFrame m #[(.int p3_0), (.int p3_1), (.int p3_2)] 9)) t := fun t k => castTop (ef_rm3 m p3_0 p3_1 p3_2) k
  obtain ⟨T1, h1, k1, X1, e1, E1, A1, st1⟩ := newP X0 hx hZ (aty := .long) (ow14 hw) e0 (g := (mkF m 2 #[.val (.int p3_0), .val (.int p3_1), .val (.int p3_2), .unset, .unset, .unset, .unset, .unset, .unset] [(.int (19 : Int32))])) rfl (hb hby d3_2) rfl (by decide) (cap := 19) (by decide) (by decide) (by decide) (by decide)
  obtain ⟨b1, g1⟩ : ∃ z, z = h0.size := ⟨_, rfl⟩
  rw [← g1] at A1 st1
  have V_b1 : Arv Z h1 b1 k1 .long (19 : Int32) [(.long (0 : Int64)), (.long (0 : Int64)), (.long (0 : Int64)), (.long (0 : Int64)), (.long (0 : Int64)), (.long (0 : Int64)), (.long (0 : Int64)), (.long (0 : Int64)), (.long (0 : Int64)), (.long (0 : Int64)), (.long (0 : Int64)), (.long (0 : Int64)), (.long (0 : Int64)), (.long (0 : Int64)), (.long (0 : Int64)), (.long (0 : Int64)), (.long (0 : Int64)), (.long (0 : Int64)), (.long (0 : Int64))] (.long (0 : Int64)) := (Arv.new A1 (by decide)).pad (pad_rep [] (.long (0 : Int64)) 19)
  have g_b1 : n0 ≤ b1 := Nat.le_trans Z0 (Nat.le_of_eq g1.symm)
  have sz_b1 : h0.size ≤ b1 := Nat.le_trans (Nat.le_refl _) (Nat.le_of_eq g1.symm)
  have K1 : Keep h0 h1 [] := (Keep.refl h0 []).ext E1
  have Z1 : n0 ≤ h1.size := Nat.le_trans Z0 K1.1
  obtain ⟨cl2, Ar2, qk2, Sz2, Nz2, Hh2, Gf2⟩ := id V_b1
  obtain ⟨T3, h3, X3, e3, W3, st3⟩ := stJ X1 hx hZ e1 Ar2 (j := (0 : Int32)) (inb_of Sz2 ⟨by decide, by decide⟩) (g := (mkF m 7 #[.val (.int p3_0), .val (.int p3_1), .val (.int p3_2), .unset, .unset, .unset, .unset, .unset, .unset] [(.long (1 : Int64)), (.int (0 : Int32)), (.ref b1), (.ref b1)])) rfl rfl (hb hby d3_7)
  have V3 : Arv Z h3 b1 k1 .long (19 : Int32) [(.long (1 : Int64)), (.long (0 : Int64)), (.long (0 : Int64)), (.long (0 : Int64)), (.long (0 : Int64)), (.long (0 : Int64)), (.long (0 : Int64)), (.long (0 : Int64)), (.long (0 : Int64)), (.long (0 : Int64)), (.long (0 : Int64)), (.long (0 : Int64)), (.long (0 : Int64)), (.long (0 : Int64)), (.long (0 : Int64)), (.long (0 : Int64)), (.long (0 : Int64)), (.long (0 : Int64)), (.long (0 : Int64))] (.long (0 : Int64)) := Arv.set Ar2 qk2 Sz2 Nz2 Hh2 Gf2 rfl W3 0 rfl (Nat.le_of_ble_eq_true rfl)
  have K3 : Keep h0 h3 [] := K1.wr W3 (Or.inr sz_b1)
  have Z3 : n0 ≤ h3.size := Nat.le_trans Z0 K3.1
  have N3 := Fr.snoc X3 N0 g_b1
  obtain ⟨cl4, Ar4, qk4, Sz4, Nz4, Hh4, Gf4⟩ := id V3
  obtain ⟨T5, h5, X5, e5, W5, st5⟩ := stJ X3 hx hZ e3 Ar4 (j := (1 : Int32)) (inb_of Sz4 ⟨by decide, by decide⟩) (g := (mkF m 13 #[.val (.int p3_0), .val (.int p3_1), .val (.int p3_2), .unset, .unset, .unset, .unset, .unset, .unset] [(.long (10 : Int64)), (.int (1 : Int32)), (.ref b1), (.ref b1)])) rfl rfl (hb hby d3_13)
  have V5 : Arv Z h5 b1 k1 .long (19 : Int32) [(.long (1 : Int64)), (.long (10 : Int64)), (.long (0 : Int64)), (.long (0 : Int64)), (.long (0 : Int64)), (.long (0 : Int64)), (.long (0 : Int64)), (.long (0 : Int64)), (.long (0 : Int64)), (.long (0 : Int64)), (.long (0 : Int64)), (.long (0 : Int64)), (.long (0 : Int64)), (.long (0 : Int64)), (.long (0 : Int64)), (.long (0 : Int64)), (.long (0 : Int64)), (.long (0 : Int64)), (.long (0 : Int64))] (.long (0 : Int64)) := Arv.set Ar4 qk4 Sz4 Nz4 Hh4 Gf4 rfl W5 1 rfl (Nat.le_of_ble_eq_true rfl)
  have K5 : Keep h0 h5 [] := K3.wr W5 (Or.inr sz_b1)
  have Z5 : n0 ≤ h5.size := Nat.le_trans Z0 K5.1
  have N5 := Fr.snoc X5 N3 g_b1
  obtain ⟨cl6, Ar6, qk6, Sz6, Nz6, Hh6, Gf6⟩ := id V5
  obtain ⟨T7, h7, X7, e7, W7, st7⟩ := stJ X5 hx hZ e5 Ar6 (j := (2 : Int32)) (inb_of Sz6 ⟨by decide, by decide⟩) (g := (mkF m 19 #[.val (.int p3_0), .val (.int p3_1), .val (.int p3_2), .unset, .unset, .unset, .unset, .unset, .unset] [(.long (100 : Int64)), (.int (2 : Int32)), (.ref b1), (.ref b1)])) rfl rfl (hb hby d3_19)
  have V7 : Arv Z h7 b1 k1 .long (19 : Int32) [(.long (1 : Int64)), (.long (10 : Int64)), (.long (100 : Int64)), (.long (0 : Int64)), (.long (0 : Int64)), (.long (0 : Int64)), (.long (0 : Int64)), (.long (0 : Int64)), (.long (0 : Int64)), (.long (0 : Int64)), (.long (0 : Int64)), (.long (0 : Int64)), (.long (0 : Int64)), (.long (0 : Int64)), (.long (0 : Int64)), (.long (0 : Int64)), (.long (0 : Int64)), (.long (0 : Int64)), (.long (0 : Int64))] (.long (0 : Int64)) := Arv.set Ar6 qk6 Sz6 Nz6 Hh6 Gf6 rfl W7 2 rfl (Nat.le_of_ble_eq_true rfl)
  have K7 : Keep h0 h7 [] := K5.wr W7 (Or.inr sz_b1)
  have Z7 : n0 ≤ h7.size := Nat.le_trans Z0 K7.1
  have N7 := Fr.snoc X7 N5 g_b1
  obtain ⟨cl8, Ar8, qk8, Sz8, Nz8, Hh8, Gf8⟩ := id V7
  obtain ⟨T9, h9, X9, e9, W9, st9⟩ := stJ X7 hx hZ e7 Ar8 (j := (3 : Int32)) (inb_of Sz8 ⟨by decide, by decide⟩) (g := (mkF m 25 #[.val (.int p3_0), .val (.int p3_1), .val (.int p3_2), .unset, .unset, .unset, .unset, .unset, .unset] [(.long (1000 : Int64)), (.int (3 : Int32)), (.ref b1), (.ref b1)])) rfl rfl (hb hby d3_25)
  have V9 : Arv Z h9 b1 k1 .long (19 : Int32) [(.long (1 : Int64)), (.long (10 : Int64)), (.long (100 : Int64)), (.long (1000 : Int64)), (.long (0 : Int64)), (.long (0 : Int64)), (.long (0 : Int64)), (.long (0 : Int64)), (.long (0 : Int64)), (.long (0 : Int64)), (.long (0 : Int64)), (.long (0 : Int64)), (.long (0 : Int64)), (.long (0 : Int64)), (.long (0 : Int64)), (.long (0 : Int64)), (.long (0 : Int64)), (.long (0 : Int64)), (.long (0 : Int64))] (.long (0 : Int64)) := Arv.set Ar8 qk8 Sz8 Nz8 Hh8 Gf8 rfl W9 3 rfl (Nat.le_of_ble_eq_true rfl)
  have K9 : Keep h0 h9 [] := K7.wr W9 (Or.inr sz_b1)
  have Z9 : n0 ≤ h9.size := Nat.le_trans Z0 K9.1
  have N9 := Fr.snoc X9 N7 g_b1
  obtain ⟨cl10, Ar10, qk10, Sz10, Nz10, Hh10, Gf10⟩ := id V9
  obtain ⟨T11, h11, X11, e11, W11, st11⟩ := stJ X9 hx hZ e9 Ar10 (j := (4 : Int32)) (inb_of Sz10 ⟨by decide, by decide⟩) (g := (mkF m 31 #[.val (.int p3_0), .val (.int p3_1), .val (.int p3_2), .unset, .unset, .unset, .unset, .unset, .unset] [(.long (10000 : Int64)), (.int (4 : Int32)), (.ref b1), (.ref b1)])) rfl rfl (hb hby d3_31)
  have V11 : Arv Z h11 b1 k1 .long (19 : Int32) [(.long (1 : Int64)), (.long (10 : Int64)), (.long (100 : Int64)), (.long (1000 : Int64)), (.long (10000 : Int64)), (.long (0 : Int64)), (.long (0 : Int64)), (.long (0 : Int64)), (.long (0 : Int64)), (.long (0 : Int64)), (.long (0 : Int64)), (.long (0 : Int64)), (.long (0 : Int64)), (.long (0 : Int64)), (.long (0 : Int64)), (.long (0 : Int64)), (.long (0 : Int64)), (.long (0 : Int64)), (.long (0 : Int64))] (.long (0 : Int64)) := Arv.set Ar10 qk10 Sz10 Nz10 Hh10 Gf10 rfl W11 4 rfl (Nat.le_of_ble_eq_true rfl)
  have K11 : Keep h0 h11 [] := K9.wr W11 (Or.inr sz_b1)
  have Z11 : n0 ≤ h11.size := Nat.le_trans Z0 K11.1
  have N11 := Fr.snoc X11 N9 g_b1
  obtain ⟨cl12, Ar12, qk12, Sz12, Nz12, Hh12, Gf12⟩ := id V11
  obtain ⟨T13, h13, X13, e13, W13, st13⟩ := stJ X11 hx hZ e11 Ar12 (j := (5 : Int32)) (inb_of Sz12 ⟨by decide, by decide⟩) (g := (mkF m 37 #[.val (.int p3_0), .val (.int p3_1), .val (.int p3_2), .unset, .unset, .unset, .unset, .unset, .unset] [(.long (100000 : Int64)), (.int (5 : Int32)), (.ref b1), (.ref b1)])) rfl rfl (hb hby d3_37)
  have V13 : Arv Z h13 b1 k1 .long (19 : Int32) [(.long (1 : Int64)), (.long (10 : Int64)), (.long (100 : Int64)), (.long (1000 : Int64)), (.long (10000 : Int64)), (.long (100000 : Int64)), (.long (0 : Int64)), (.long (0 : Int64)), (.long (0 : Int64)), (.long (0 : Int64)), (.long (0 : Int64)), (.long (0 : Int64)), (.long (0 : Int64)), (.long (0 : Int64)), (.long (0 : Int64)), (.long (0 : Int64)), (.long (0 : Int64)), (.long (0 : Int64)), (.long (0 : Int64))] (.long (0 : Int64)) := Arv.set Ar12 qk12 Sz12 Nz12 Hh12 Gf12 rfl W13 5 rfl (Nat.le_of_ble_eq_true rfl)
  have K13 : Keep h0 h13 [] := K11.wr W13 (Or.inr sz_b1)
  have Z13 : n0 ≤ h13.size := Nat.le_trans Z0 K13.1
  have N13 := Fr.snoc X13 N11 g_b1
  obtain ⟨cl14, Ar14, qk14, Sz14, Nz14, Hh14, Gf14⟩ := id V13
  obtain ⟨T15, h15, X15, e15, W15, st15⟩ := stJ X13 hx hZ e13 Ar14 (j := (6 : Int32)) (inb_of Sz14 ⟨by decide, by decide⟩) (g := (mkF m 44 #[.val (.int p3_0), .val (.int p3_1), .val (.int p3_2), .unset, .unset, .unset, .unset, .unset, .unset] [(.long (1000000 : Int64)), (.int (6 : Int32)), (.ref b1), (.ref b1)])) rfl rfl (hb hby d3_44)
  have V15 : Arv Z h15 b1 k1 .long (19 : Int32) [(.long (1 : Int64)), (.long (10 : Int64)), (.long (100 : Int64)), (.long (1000 : Int64)), (.long (10000 : Int64)), (.long (100000 : Int64)), (.long (1000000 : Int64)), (.long (0 : Int64)), (.long (0 : Int64)), (.long (0 : Int64)), (.long (0 : Int64)), (.long (0 : Int64)), (.long (0 : Int64)), (.long (0 : Int64)), (.long (0 : Int64)), (.long (0 : Int64)), (.long (0 : Int64)), (.long (0 : Int64)), (.long (0 : Int64))] (.long (0 : Int64)) := Arv.set Ar14 qk14 Sz14 Nz14 Hh14 Gf14 rfl W15 6 rfl (Nat.le_of_ble_eq_true rfl)
  have K15 : Keep h0 h15 [] := K13.wr W15 (Or.inr sz_b1)
  have Z15 : n0 ≤ h15.size := Nat.le_trans Z0 K15.1
  have N15 := Fr.snoc X15 N13 g_b1
  obtain ⟨cl16, Ar16, qk16, Sz16, Nz16, Hh16, Gf16⟩ := id V15
  obtain ⟨T17, h17, X17, e17, W17, st17⟩ := stJ X15 hx hZ e15 Ar16 (j := (7 : Int32)) (inb_of Sz16 ⟨by decide, by decide⟩) (g := (mkF m 51 #[.val (.int p3_0), .val (.int p3_1), .val (.int p3_2), .unset, .unset, .unset, .unset, .unset, .unset] [(.long (10000000 : Int64)), (.int (7 : Int32)), (.ref b1), (.ref b1)])) rfl rfl (hb hby d3_51)
  have V17 : Arv Z h17 b1 k1 .long (19 : Int32) [(.long (1 : Int64)), (.long (10 : Int64)), (.long (100 : Int64)), (.long (1000 : Int64)), (.long (10000 : Int64)), (.long (100000 : Int64)), (.long (1000000 : Int64)), (.long (10000000 : Int64)), (.long (0 : Int64)), (.long (0 : Int64)), (.long (0 : Int64)), (.long (0 : Int64)), (.long (0 : Int64)), (.long (0 : Int64)), (.long (0 : Int64)), (.long (0 : Int64)), (.long (0 : Int64)), (.long (0 : Int64)), (.long (0 : Int64))] (.long (0 : Int64)) := Arv.set Ar16 qk16 Sz16 Nz16 Hh16 Gf16 rfl W17 7 rfl (Nat.le_of_ble_eq_true rfl)
  have K17 : Keep h0 h17 [] := K15.wr W17 (Or.inr sz_b1)
  have Z17 : n0 ≤ h17.size := Nat.le_trans Z0 K17.1
  have N17 := Fr.snoc X17 N15 g_b1
  obtain ⟨cl18, Ar18, qk18, Sz18, Nz18, Hh18, Gf18⟩ := id V17
  obtain ⟨T19, h19, X19, e19, W19, st19⟩ := stJ X17 hx hZ e17 Ar18 (j := (8 : Int32)) (inb_of Sz18 ⟨by decide, by decide⟩) (g := (mkF m 58 #[.val (.int p3_0), .val (.int p3_1), .val (.int p3_2), .unset, .unset, .unset, .unset, .unset, .unset] [(.long (100000000 : Int64)), (.int (8 : Int32)), (.ref b1), (.ref b1)])) rfl rfl (hb hby d3_58)
  have V19 : Arv Z h19 b1 k1 .long (19 : Int32) [(.long (1 : Int64)), (.long (10 : Int64)), (.long (100 : Int64)), (.long (1000 : Int64)), (.long (10000 : Int64)), (.long (100000 : Int64)), (.long (1000000 : Int64)), (.long (10000000 : Int64)), (.long (100000000 : Int64)), (.long (0 : Int64)), (.long (0 : Int64)), (.long (0 : Int64)), (.long (0 : Int64)), (.long (0 : Int64)), (.long (0 : Int64)), (.long (0 : Int64)), (.long (0 : Int64)), (.long (0 : Int64)), (.long (0 : Int64))] (.long (0 : Int64)) := Arv.set Ar18 qk18 Sz18 Nz18 Hh18 Gf18 rfl W19 8 rfl (Nat.le_of_ble_eq_true rfl)
  have K19 : Keep h0 h19 [] := K17.wr W19 (Or.inr sz_b1)
  have Z19 : n0 ≤ h19.size := Nat.le_trans Z0 K19.1
  have N19 := Fr.snoc X19 N17 g_b1
  obtain ⟨cl20, Ar20, qk20, Sz20, Nz20, Hh20, Gf20⟩ := id V19
  obtain ⟨T21, h21, X21, e21, W21, st21⟩ := stJ X19 hx hZ e19 Ar20 (j := (9 : Int32)) (inb_of Sz20 ⟨by decide, by decide⟩) (g := (mkF m 65 #[.val (.int p3_0), .val (.int p3_1), .val (.int p3_2), .unset, .unset, .unset, .unset, .unset, .unset] [(.long (1000000000 : Int64)), (.int (9 : Int32)), (.ref b1), (.ref b1)])) rfl rfl (hb hby d3_65)
  have V21 : Arv Z h21 b1 k1 .long (19 : Int32) [(.long (1 : Int64)), (.long (10 : Int64)), (.long (100 : Int64)), (.long (1000 : Int64)), (.long (10000 : Int64)), (.long (100000 : Int64)), (.long (1000000 : Int64)), (.long (10000000 : Int64)), (.long (100000000 : Int64)), (.long (1000000000 : Int64)), (.long (0 : Int64)), (.long (0 : Int64)), (.long (0 : Int64)), (.long (0 : Int64)), (.long (0 : Int64)), (.long (0 : Int64)), (.long (0 : Int64)), (.long (0 : Int64)), (.long (0 : Int64))] (.long (0 : Int64)) := Arv.set Ar20 qk20 Sz20 Nz20 Hh20 Gf20 rfl W21 9 rfl (Nat.le_of_ble_eq_true rfl)
  have K21 : Keep h0 h21 [] := K19.wr W21 (Or.inr sz_b1)
  have Z21 : n0 ≤ h21.size := Nat.le_trans Z0 K21.1
  have N21 := Fr.snoc X21 N19 g_b1
  obtain ⟨cl22, Ar22, qk22, Sz22, Nz22, Hh22, Gf22⟩ := id V21
  obtain ⟨T23, h23, X23, e23, W23, st23⟩ := stJ X21 hx hZ e21 Ar22 (j := (10 : Int32)) (inb_of Sz22 ⟨by decide, by decide⟩) (g := (mkF m 72 #[.val (.int p3_0), .val (.int p3_1), .val (.int p3_2), .unset, .unset, .unset, .unset, .unset, .unset] [(.long (10000000000 : Int64)), (.int (10 : Int32)), (.ref b1), (.ref b1)])) rfl rfl (hb hby d3_72)
  have V23 : Arv Z h23 b1 k1 .long (19 : Int32) [(.long (1 : Int64)), (.long (10 : Int64)), (.long (100 : Int64)), (.long (1000 : Int64)), (.long (10000 : Int64)), (.long (100000 : Int64)), (.long (1000000 : Int64)), (.long (10000000 : Int64)), (.long (100000000 : Int64)), (.long (1000000000 : Int64)), (.long (10000000000 : Int64)), (.long (0 : Int64)), (.long (0 : Int64)), (.long (0 : Int64)), (.long (0 : Int64)), (.long (0 : Int64)), (.long (0 : Int64)), (.long (0 : Int64)), (.long (0 : Int64))] (.long (0 : Int64)) := Arv.set Ar22 qk22 Sz22 Nz22 Hh22 Gf22 rfl W23 10 rfl (Nat.le_of_ble_eq_true rfl)
  have K23 : Keep h0 h23 [] := K21.wr W23 (Or.inr sz_b1)
  have Z23 : n0 ≤ h23.size := Nat.le_trans Z0 K23.1
  have N23 := Fr.snoc X23 N21 g_b1
  obtain ⟨cl24, Ar24, qk24, Sz24, Nz24, Hh24, Gf24⟩ := id V23
  obtain ⟨T25, h25, X25, e25, W25, st25⟩ := stJ X23 hx hZ e23 Ar24 (j := (11 : Int32)) (inb_of Sz24 ⟨by decide, by decide⟩) (g := (mkF m 79 #[.val (.int p3_0), .val (.int p3_1), .val (.int p3_2), .unset, .unset, .unset, .unset, .unset, .unset] [(.long (100000000000 : Int64)), (.int (11 : Int32)), (.ref b1), (.ref b1)])) rfl rfl (hb hby d3_79)
  have V25 : Arv Z h25 b1 k1 .long (19 : Int32) [(.long (1 : Int64)), (.long (10 : Int64)), (.long (100 : Int64)), (.long (1000 : Int64)), (.long (10000 : Int64)), (.long (100000 : Int64)), (.long (1000000 : Int64)), (.long (10000000 : Int64)), (.long (100000000 : Int64)), (.long (1000000000 : Int64)), (.long (10000000000 : Int64)), (.long (100000000000 : Int64)), (.long (0 : Int64)), (.long (0 : Int64)), (.long (0 : Int64)), (.long (0 : Int64)), (.long (0 : Int64)), (.long (0 : Int64)), (.long (0 : Int64))] (.long (0 : Int64)) := Arv.set Ar24 qk24 Sz24 Nz24 Hh24 Gf24 rfl W25 11 rfl (Nat.le_of_ble_eq_true rfl)
  have K25 : Keep h0 h25 [] := K23.wr W25 (Or.inr sz_b1)
  have Z25 : n0 ≤ h25.size := Nat.le_trans Z0 K25.1
  have N25 := Fr.snoc X25 N23 g_b1
  obtain ⟨cl26, Ar26, qk26, Sz26, Nz26, Hh26, Gf26⟩ := id V25
  obtain ⟨T27, h27, X27, e27, W27, st27⟩ := stJ X25 hx hZ e25 Ar26 (j := (12 : Int32)) (inb_of Sz26 ⟨by decide, by decide⟩) (g := (mkF m 86 #[.val (.int p3_0), .val (.int p3_1), .val (.int p3_2), .unset, .unset, .unset, .unset, .unset, .unset] [(.long (1000000000000 : Int64)), (.int (12 : Int32)), (.ref b1), (.ref b1)])) rfl rfl (hb hby d3_86)
  have V27 : Arv Z h27 b1 k1 .long (19 : Int32) [(.long (1 : Int64)), (.long (10 : Int64)), (.long (100 : Int64)), (.long (1000 : Int64)), (.long (10000 : Int64)), (.long (100000 : Int64)), (.long (1000000 : Int64)), (.long (10000000 : Int64)), (.long (100000000 : Int64)), (.long (1000000000 : Int64)), (.long (10000000000 : Int64)), (.long (100000000000 : Int64)), (.long (1000000000000 : Int64)), (.long (0 : Int64)), (.long (0 : Int64)), (.long (0 : Int64)), (.long (0 : Int64)), (.long (0 : Int64)), (.long (0 : Int64))] (.long (0 : Int64)) := Arv.set Ar26 qk26 Sz26 Nz26 Hh26 Gf26 rfl W27 12 rfl (Nat.le_of_ble_eq_true rfl)
  have K27 : Keep h0 h27 [] := K25.wr W27 (Or.inr sz_b1)
  have Z27 : n0 ≤ h27.size := Nat.le_trans Z0 K27.1
  have N27 := Fr.snoc X27 N25 g_b1
  obtain ⟨cl28, Ar28, qk28, Sz28, Nz28, Hh28, Gf28⟩ := id V27
  obtain ⟨T29, h29, X29, e29, W29, st29⟩ := stJ X27 hx hZ e27 Ar28 (j := (13 : Int32)) (inb_of Sz28 ⟨by decide, by decide⟩) (g := (mkF m 93 #[.val (.int p3_0), .val (.int p3_1), .val (.int p3_2), .unset, .unset, .unset, .unset, .unset, .unset] [(.long (10000000000000 : Int64)), (.int (13 : Int32)), (.ref b1), (.ref b1)])) rfl rfl (hb hby d3_93)
  have V29 : Arv Z h29 b1 k1 .long (19 : Int32) [(.long (1 : Int64)), (.long (10 : Int64)), (.long (100 : Int64)), (.long (1000 : Int64)), (.long (10000 : Int64)), (.long (100000 : Int64)), (.long (1000000 : Int64)), (.long (10000000 : Int64)), (.long (100000000 : Int64)), (.long (1000000000 : Int64)), (.long (10000000000 : Int64)), (.long (100000000000 : Int64)), (.long (1000000000000 : Int64)), (.long (10000000000000 : Int64)), (.long (0 : Int64)), (.long (0 : Int64)), (.long (0 : Int64)), (.long (0 : Int64)), (.long (0 : Int64))] (.long (0 : Int64)) := Arv.set Ar28 qk28 Sz28 Nz28 Hh28 Gf28 rfl W29 13 rfl (Nat.le_of_ble_eq_true rfl)
  have K29 : Keep h0 h29 [] := K27.wr W29 (Or.inr sz_b1)
  have Z29 : n0 ≤ h29.size := Nat.le_trans Z0 K29.1
  have N29 := Fr.snoc X29 N27 g_b1
  obtain ⟨cl30, Ar30, qk30, Sz30, Nz30, Hh30, Gf30⟩ := id V29
  obtain ⟨T31, h31, X31, e31, W31, st31⟩ := stJ X29 hx hZ e29 Ar30 (j := (14 : Int32)) (inb_of Sz30 ⟨by decide, by decide⟩) (g := (mkF m 100 #[.val (.int p3_0), .val (.int p3_1), .val (.int p3_2), .unset, .unset, .unset, .unset, .unset, .unset] [(.long (100000000000000 : Int64)), (.int (14 : Int32)), (.ref b1), (.ref b1)])) rfl rfl (hb hby d3_100)
  have V31 : Arv Z h31 b1 k1 .long (19 : Int32) [(.long (1 : Int64)), (.long (10 : Int64)), (.long (100 : Int64)), (.long (1000 : Int64)), (.long (10000 : Int64)), (.long (100000 : Int64)), (.long (1000000 : Int64)), (.long (10000000 : Int64)), (.long (100000000 : Int64)), (.long (1000000000 : Int64)), (.long (10000000000 : Int64)), (.long (100000000000 : Int64)), (.long (1000000000000 : Int64)), (.long (10000000000000 : Int64)), (.long (100000000000000 : Int64)), (.long (0 : Int64)), (.long (0 : Int64)), (.long (0 : Int64)), (.long (0 : Int64))] (.long (0 : Int64)) := Arv.set Ar30 qk30 Sz30 Nz30 Hh30 Gf30 rfl W31 14 rfl (Nat.le_of_ble_eq_true rfl)
  have K31 : Keep h0 h31 [] := K29.wr W31 (Or.inr sz_b1)
  have Z31 : n0 ≤ h31.size := Nat.le_trans Z0 K31.1
  have N31 := Fr.snoc X31 N29 g_b1
  obtain ⟨cl32, Ar32, qk32, Sz32, Nz32, Hh32, Gf32⟩ := id V31
  obtain ⟨T33, h33, X33, e33, W33, st33⟩ := stJ X31 hx hZ e31 Ar32 (j := (15 : Int32)) (inb_of Sz32 ⟨by decide, by decide⟩) (g := (mkF m 107 #[.val (.int p3_0), .val (.int p3_1), .val (.int p3_2), .unset, .unset, .unset, .unset, .unset, .unset] [(.long (1000000000000000 : Int64)), (.int (15 : Int32)), (.ref b1), (.ref b1)])) rfl rfl (hb hby d3_107)
  have V33 : Arv Z h33 b1 k1 .long (19 : Int32) [(.long (1 : Int64)), (.long (10 : Int64)), (.long (100 : Int64)), (.long (1000 : Int64)), (.long (10000 : Int64)), (.long (100000 : Int64)), (.long (1000000 : Int64)), (.long (10000000 : Int64)), (.long (100000000 : Int64)), (.long (1000000000 : Int64)), (.long (10000000000 : Int64)), (.long (100000000000 : Int64)), (.long (1000000000000 : Int64)), (.long (10000000000000 : Int64)), (.long (100000000000000 : Int64)), (.long (1000000000000000 : Int64)), (.long (0 : Int64)), (.long (0 : Int64)), (.long (0 : Int64))] (.long (0 : Int64)) := Arv.set Ar32 qk32 Sz32 Nz32 Hh32 Gf32 rfl W33 15 rfl (Nat.le_of_ble_eq_true rfl)
  have K33 : Keep h0 h33 [] := K31.wr W33 (Or.inr sz_b1)
  have Z33 : n0 ≤ h33.size := Nat.le_trans Z0 K33.1
  have N33 := Fr.snoc X33 N31 g_b1
  obtain ⟨cl34, Ar34, qk34, Sz34, Nz34, Hh34, Gf34⟩ := id V33
  obtain ⟨T35, h35, X35, e35, W35, st35⟩ := stJ X33 hx hZ e33 Ar34 (j := (16 : Int32)) (inb_of Sz34 ⟨by decide, by decide⟩) (g := (mkF m 114 #[.val (.int p3_0), .val (.int p3_1), .val (.int p3_2), .unset, .unset, .unset, .unset, .unset, .unset] [(.long (10000000000000000 : Int64)), (.int (16 : Int32)), (.ref b1), (.ref b1)])) rfl rfl (hb hby d3_114)
  have V35 : Arv Z h35 b1 k1 .long (19 : Int32) [(.long (1 : Int64)), (.long (10 : Int64)), (.long (100 : Int64)), (.long (1000 : Int64)), (.long (10000 : Int64)), (.long (100000 : Int64)), (.long (1000000 : Int64)), (.long (10000000 : Int64)), (.long (100000000 : Int64)), (.long (1000000000 : Int64)), (.long (10000000000 : Int64)), (.long (100000000000 : Int64)), (.long (1000000000000 : Int64)), (.long (10000000000000 : Int64)), (.long (100000000000000 : Int64)), (.long (1000000000000000 : Int64)), (.long (10000000000000000 : Int64)), (.long (0 : Int64)), (.long (0 : Int64))] (.long (0 : Int64)) := Arv.set Ar34 qk34 Sz34 Nz34 Hh34 Gf34 rfl W35 16 rfl (Nat.le_of_ble_eq_true rfl)
  have K35 : Keep h0 h35 [] := K33.wr W35 (Or.inr sz_b1)
  have Z35 : n0 ≤ h35.size := Nat.le_trans Z0 K35.1
  have N35 := Fr.snoc X35 N33 g_b1
  obtain ⟨cl36, Ar36, qk36, Sz36, Nz36, Hh36, Gf36⟩ := id V35
  obtain ⟨T37, h37, X37, e37, W37, st37⟩ := stJ X35 hx hZ e35 Ar36 (j := (17 : Int32)) (inb_of Sz36 ⟨by decide, by decide⟩) (g := (mkF m 121 #[.val (.int p3_0), .val (.int p3_1), .val (.int p3_2), .unset, .unset, .unset, .unset, .unset, .unset] [(.long (100000000000000000 : Int64)), (.int (17 : Int32)), (.ref b1), (.ref b1)])) rfl rfl (hb hby d3_121)
  have V37 : Arv Z h37 b1 k1 .long (19 : Int32) [(.long (1 : Int64)), (.long (10 : Int64)), (.long (100 : Int64)), (.long (1000 : Int64)), (.long (10000 : Int64)), (.long (100000 : Int64)), (.long (1000000 : Int64)), (.long (10000000 : Int64)), (.long (100000000 : Int64)), (.long (1000000000 : Int64)), (.long (10000000000 : Int64)), (.long (100000000000 : Int64)), (.long (1000000000000 : Int64)), (.long (10000000000000 : Int64)), (.long (100000000000000 : Int64)), (.long (1000000000000000 : Int64)), (.long (10000000000000000 : Int64)), (.long (100000000000000000 : Int64)), (.long (0 : Int64))] (.long (0 : Int64)) := Arv.set Ar36 qk36 Sz36 Nz36 Hh36 Gf36 rfl W37 17 rfl (Nat.le_of_ble_eq_true rfl)
  have K37 : Keep h0 h37 [] := K35.wr W37 (Or.inr sz_b1)
  have Z37 : n0 ≤ h37.size := Nat.le_trans Z0 K37.1
  have N37 := Fr.snoc X37 N35 g_b1
  obtain ⟨cl38, Ar38, qk38, Sz38, Nz38, Hh38, Gf38⟩ := id V37
  obtain ⟨T39, h39, X39, e39, W39, st39⟩ := stJ X37 hx hZ e37 Ar38 (j := (18 : Int32)) (inb_of Sz38 ⟨by decide, by decide⟩) (g := (mkF m 128 #[.val (.int p3_0), .val (.int p3_1), .val (.int p3_2), .unset, .unset, .unset, .unset, .unset, .unset] [(.long (1000000000000000000 : Int64)), (.int (18 : Int32)), (.ref b1), (.ref b1)])) rfl rfl (hb hby d3_128)
  have V39 : Arv Z h39 b1 k1 .long (19 : Int32) [(.long (1 : Int64)), (.long (10 : Int64)), (.long (100 : Int64)), (.long (1000 : Int64)), (.long (10000 : Int64)), (.long (100000 : Int64)), (.long (1000000 : Int64)), (.long (10000000 : Int64)), (.long (100000000 : Int64)), (.long (1000000000 : Int64)), (.long (10000000000 : Int64)), (.long (100000000000 : Int64)), (.long (1000000000000 : Int64)), (.long (10000000000000 : Int64)), (.long (100000000000000 : Int64)), (.long (1000000000000000 : Int64)), (.long (10000000000000000 : Int64)), (.long (100000000000000000 : Int64)), (.long (1000000000000000000 : Int64))] (.long (0 : Int64)) := Arv.set Ar38 qk38 Sz38 Nz38 Hh38 Gf38 rfl W39 18 rfl (Nat.le_of_ble_eq_true rfl)
  have K39 : Keep h0 h39 [] := K37.wr W39 (Or.inr sz_b1)
  have Z39 : n0 ≤ h39.size := Nat.le_trans Z0 K39.1
  have N39 := Fr.snoc X39 N37 g_b1
  have G40 : ∀ t, Steps p.tables e below (T39.setTop (mkF m 131 #[.val (.int p3_0), .val (.int p3_1), .val (.int p3_2), .val (.ref b1), .unset, .unset, .unset, .unset, .unset] [(.int p3_1)])) t → Steps p.tables e below (s₁.setTop (mkF m 0 #[.val (.int p3_0), .val (.int p3_1), .val (.int p3_2), .unset, .unset, .unset, .unset, .unset, .unset] [])) t := by
    intro t k
    show Steps p.tables e below (s₁.setTop (mkF m 0 #[.val (.int p3_0), .val (.int p3_1), .val (.int p3_2), .unset, .unset, .unset, .unset, .unset, .unset] [])) _
    refine XS.bipush X0.here hx rfl (hb hby d3_0) ?_
    show Steps p.tables e below (s₁.setTop (mkF m 2 #[.val (.int p3_0), .val (.int p3_1), .val (.int p3_2), .unset, .unset, .unset, .unset, .unset, .unset] [(.int (19 : Int32))])) _
    refine st1 _ ?_
    show Steps p.tables e below (T1.setTop (mkF m 4 #[.val (.int p3_0), .val (.int p3_1), .val (.int p3_2), .unset, .unset, .unset, .unset, .unset, .unset] [(.ref b1)])) _
    refine XS.dup X1.here hx rfl (hb hby d3_4) rfl rfl ?_
    show Steps p.tables e below (T1.setTop (mkF m 5 #[.val (.int p3_0), .val (.int p3_1), .val (.int p3_2), .unset, .unset, .unset, .unset, .unset, .unset] [(.ref b1), (.ref b1)])) _
    refine XS.iconst X1.here hx rfl (hb hby d3_5) ?_
    show Steps p.tables e below (T1.setTop (mkF m 6 #[.val (.int p3_0), .val (.int p3_1), .val (.int p3_2), .unset, .unset, .unset, .unset, .unset, .unset] [(.int (0 : Int32)), (.ref b1), (.ref b1)])) _
    refine XS.lconst X1.here hx rfl (hb hby d3_6) ?_
    show Steps p.tables e below (T1.setTop (mkF m 7 #[.val (.int p3_0), .val (.int p3_1), .val (.int p3_2), .unset, .unset, .unset, .unset, .unset, .unset] [(.long (1 : Int64)), (.int (0 : Int32)), (.ref b1), (.ref b1)])) _
    refine st3 _ ?_
    show Steps p.tables e below (T3.setTop (mkF m 8 #[.val (.int p3_0), .val (.int p3_1), .val (.int p3_2), .unset, .unset, .unset, .unset, .unset, .unset] [(.ref b1)])) _
    refine XS.dup X3.here hx rfl (hb hby d3_8) rfl rfl ?_
    show Steps p.tables e below (T3.setTop (mkF m 9 #[.val (.int p3_0), .val (.int p3_1), .val (.int p3_2), .unset, .unset, .unset, .unset, .unset, .unset] [(.ref b1), (.ref b1)])) _
    refine XS.iconst X3.here hx rfl (hb hby d3_9) ?_
    show Steps p.tables e below (T3.setTop (mkF m 10 #[.val (.int p3_0), .val (.int p3_1), .val (.int p3_2), .unset, .unset, .unset, .unset, .unset, .unset] [(.int (1 : Int32)), (.ref b1), (.ref b1)])) _
    refine X3.ldc2Long hx hown (mvT hZ (ow15 hw)) (g := (mkF m 10 #[.val (.int p3_0), .val (.int p3_1), .val (.int p3_2), .unset, .unset, .unset, .unset, .unset, .unset] [(.int (1 : Int32)), (.ref b1), (.ref b1)])) rfl (hb hby d3_10) _ ?_
    show Steps p.tables e below (T3.setTop (mkF m 13 #[.val (.int p3_0), .val (.int p3_1), .val (.int p3_2), .unset, .unset, .unset, .unset, .unset, .unset] [(.long (10 : Int64)), (.int (1 : Int32)), (.ref b1), (.ref b1)])) _
    refine st5 _ ?_
    show Steps p.tables e below (T5.setTop (mkF m 14 #[.val (.int p3_0), .val (.int p3_1), .val (.int p3_2), .unset, .unset, .unset, .unset, .unset, .unset] [(.ref b1)])) _
    refine XS.dup X5.here hx rfl (hb hby d3_14) rfl rfl ?_
    show Steps p.tables e below (T5.setTop (mkF m 15 #[.val (.int p3_0), .val (.int p3_1), .val (.int p3_2), .unset, .unset, .unset, .unset, .unset, .unset] [(.ref b1), (.ref b1)])) _
    refine XS.iconst X5.here hx rfl (hb hby d3_15) ?_
    show Steps p.tables e below (T5.setTop (mkF m 16 #[.val (.int p3_0), .val (.int p3_1), .val (.int p3_2), .unset, .unset, .unset, .unset, .unset, .unset] [(.int (2 : Int32)), (.ref b1), (.ref b1)])) _
    refine X5.ldc2Long hx hown (mvT hZ (ow16 hw)) (g := (mkF m 16 #[.val (.int p3_0), .val (.int p3_1), .val (.int p3_2), .unset, .unset, .unset, .unset, .unset, .unset] [(.int (2 : Int32)), (.ref b1), (.ref b1)])) rfl (hb hby d3_16) _ ?_
    show Steps p.tables e below (T5.setTop (mkF m 19 #[.val (.int p3_0), .val (.int p3_1), .val (.int p3_2), .unset, .unset, .unset, .unset, .unset, .unset] [(.long (100 : Int64)), (.int (2 : Int32)), (.ref b1), (.ref b1)])) _
    refine st7 _ ?_
    show Steps p.tables e below (T7.setTop (mkF m 20 #[.val (.int p3_0), .val (.int p3_1), .val (.int p3_2), .unset, .unset, .unset, .unset, .unset, .unset] [(.ref b1)])) _
    refine XS.dup X7.here hx rfl (hb hby d3_20) rfl rfl ?_
    show Steps p.tables e below (T7.setTop (mkF m 21 #[.val (.int p3_0), .val (.int p3_1), .val (.int p3_2), .unset, .unset, .unset, .unset, .unset, .unset] [(.ref b1), (.ref b1)])) _
    refine XS.iconst X7.here hx rfl (hb hby d3_21) ?_
    show Steps p.tables e below (T7.setTop (mkF m 22 #[.val (.int p3_0), .val (.int p3_1), .val (.int p3_2), .unset, .unset, .unset, .unset, .unset, .unset] [(.int (3 : Int32)), (.ref b1), (.ref b1)])) _
    refine X7.ldc2Long hx hown (mvT hZ (ow17 hw)) (g := (mkF m 22 #[.val (.int p3_0), .val (.int p3_1), .val (.int p3_2), .unset, .unset, .unset, .unset, .unset, .unset] [(.int (3 : Int32)), (.ref b1), (.ref b1)])) rfl (hb hby d3_22) _ ?_
    show Steps p.tables e below (T7.setTop (mkF m 25 #[.val (.int p3_0), .val (.int p3_1), .val (.int p3_2), .unset, .unset, .unset, .unset, .unset, .unset] [(.long (1000 : Int64)), (.int (3 : Int32)), (.ref b1), (.ref b1)])) _
    refine st9 _ ?_
    show Steps p.tables e below (T9.setTop (mkF m 26 #[.val (.int p3_0), .val (.int p3_1), .val (.int p3_2), .unset, .unset, .unset, .unset, .unset, .unset] [(.ref b1)])) _
    refine XS.dup X9.here hx rfl (hb hby d3_26) rfl rfl ?_
    show Steps p.tables e below (T9.setTop (mkF m 27 #[.val (.int p3_0), .val (.int p3_1), .val (.int p3_2), .unset, .unset, .unset, .unset, .unset, .unset] [(.ref b1), (.ref b1)])) _
    refine XS.iconst X9.here hx rfl (hb hby d3_27) ?_
    show Steps p.tables e below (T9.setTop (mkF m 28 #[.val (.int p3_0), .val (.int p3_1), .val (.int p3_2), .unset, .unset, .unset, .unset, .unset, .unset] [(.int (4 : Int32)), (.ref b1), (.ref b1)])) _
    refine X9.ldc2Long hx hown (mvT hZ (ow18 hw)) (g := (mkF m 28 #[.val (.int p3_0), .val (.int p3_1), .val (.int p3_2), .unset, .unset, .unset, .unset, .unset, .unset] [(.int (4 : Int32)), (.ref b1), (.ref b1)])) rfl (hb hby d3_28) _ ?_
    show Steps p.tables e below (T9.setTop (mkF m 31 #[.val (.int p3_0), .val (.int p3_1), .val (.int p3_2), .unset, .unset, .unset, .unset, .unset, .unset] [(.long (10000 : Int64)), (.int (4 : Int32)), (.ref b1), (.ref b1)])) _
    refine st11 _ ?_
    show Steps p.tables e below (T11.setTop (mkF m 32 #[.val (.int p3_0), .val (.int p3_1), .val (.int p3_2), .unset, .unset, .unset, .unset, .unset, .unset] [(.ref b1)])) _
    refine XS.dup X11.here hx rfl (hb hby d3_32) rfl rfl ?_
    show Steps p.tables e below (T11.setTop (mkF m 33 #[.val (.int p3_0), .val (.int p3_1), .val (.int p3_2), .unset, .unset, .unset, .unset, .unset, .unset] [(.ref b1), (.ref b1)])) _
    refine XS.iconst X11.here hx rfl (hb hby d3_33) ?_
    show Steps p.tables e below (T11.setTop (mkF m 34 #[.val (.int p3_0), .val (.int p3_1), .val (.int p3_2), .unset, .unset, .unset, .unset, .unset, .unset] [(.int (5 : Int32)), (.ref b1), (.ref b1)])) _
    refine X11.ldc2Long hx hown (mvT hZ (ow19 hw)) (g := (mkF m 34 #[.val (.int p3_0), .val (.int p3_1), .val (.int p3_2), .unset, .unset, .unset, .unset, .unset, .unset] [(.int (5 : Int32)), (.ref b1), (.ref b1)])) rfl (hb hby d3_34) _ ?_
    show Steps p.tables e below (T11.setTop (mkF m 37 #[.val (.int p3_0), .val (.int p3_1), .val (.int p3_2), .unset, .unset, .unset, .unset, .unset, .unset] [(.long (100000 : Int64)), (.int (5 : Int32)), (.ref b1), (.ref b1)])) _
    refine st13 _ ?_
    show Steps p.tables e below (T13.setTop (mkF m 38 #[.val (.int p3_0), .val (.int p3_1), .val (.int p3_2), .unset, .unset, .unset, .unset, .unset, .unset] [(.ref b1)])) _
    refine XS.dup X13.here hx rfl (hb hby d3_38) rfl rfl ?_
    show Steps p.tables e below (T13.setTop (mkF m 39 #[.val (.int p3_0), .val (.int p3_1), .val (.int p3_2), .unset, .unset, .unset, .unset, .unset, .unset] [(.ref b1), (.ref b1)])) _
    refine XS.bipush X13.here hx rfl (hb hby d3_39) ?_
    show Steps p.tables e below (T13.setTop (mkF m 41 #[.val (.int p3_0), .val (.int p3_1), .val (.int p3_2), .unset, .unset, .unset, .unset, .unset, .unset] [(.int (6 : Int32)), (.ref b1), (.ref b1)])) _
    refine X13.ldc2Long hx hown (mvT hZ (ow20 hw)) (g := (mkF m 41 #[.val (.int p3_0), .val (.int p3_1), .val (.int p3_2), .unset, .unset, .unset, .unset, .unset, .unset] [(.int (6 : Int32)), (.ref b1), (.ref b1)])) rfl (hb hby d3_41) _ ?_
    show Steps p.tables e below (T13.setTop (mkF m 44 #[.val (.int p3_0), .val (.int p3_1), .val (.int p3_2), .unset, .unset, .unset, .unset, .unset, .unset] [(.long (1000000 : Int64)), (.int (6 : Int32)), (.ref b1), (.ref b1)])) _
    refine st15 _ ?_
    show Steps p.tables e below (T15.setTop (mkF m 45 #[.val (.int p3_0), .val (.int p3_1), .val (.int p3_2), .unset, .unset, .unset, .unset, .unset, .unset] [(.ref b1)])) _
    refine XS.dup X15.here hx rfl (hb hby d3_45) rfl rfl ?_
    show Steps p.tables e below (T15.setTop (mkF m 46 #[.val (.int p3_0), .val (.int p3_1), .val (.int p3_2), .unset, .unset, .unset, .unset, .unset, .unset] [(.ref b1), (.ref b1)])) _
    refine XS.bipush X15.here hx rfl (hb hby d3_46) ?_
    show Steps p.tables e below (T15.setTop (mkF m 48 #[.val (.int p3_0), .val (.int p3_1), .val (.int p3_2), .unset, .unset, .unset, .unset, .unset, .unset] [(.int (7 : Int32)), (.ref b1), (.ref b1)])) _
    refine X15.ldc2Long hx hown (mvT hZ (ow21 hw)) (g := (mkF m 48 #[.val (.int p3_0), .val (.int p3_1), .val (.int p3_2), .unset, .unset, .unset, .unset, .unset, .unset] [(.int (7 : Int32)), (.ref b1), (.ref b1)])) rfl (hb hby d3_48) _ ?_
    show Steps p.tables e below (T15.setTop (mkF m 51 #[.val (.int p3_0), .val (.int p3_1), .val (.int p3_2), .unset, .unset, .unset, .unset, .unset, .unset] [(.long (10000000 : Int64)), (.int (7 : Int32)), (.ref b1), (.ref b1)])) _
    refine st17 _ ?_
    show Steps p.tables e below (T17.setTop (mkF m 52 #[.val (.int p3_0), .val (.int p3_1), .val (.int p3_2), .unset, .unset, .unset, .unset, .unset, .unset] [(.ref b1)])) _
    refine XS.dup X17.here hx rfl (hb hby d3_52) rfl rfl ?_
    show Steps p.tables e below (T17.setTop (mkF m 53 #[.val (.int p3_0), .val (.int p3_1), .val (.int p3_2), .unset, .unset, .unset, .unset, .unset, .unset] [(.ref b1), (.ref b1)])) _
    refine XS.bipush X17.here hx rfl (hb hby d3_53) ?_
    show Steps p.tables e below (T17.setTop (mkF m 55 #[.val (.int p3_0), .val (.int p3_1), .val (.int p3_2), .unset, .unset, .unset, .unset, .unset, .unset] [(.int (8 : Int32)), (.ref b1), (.ref b1)])) _
    refine X17.ldc2Long hx hown (mvT hZ (ow22 hw)) (g := (mkF m 55 #[.val (.int p3_0), .val (.int p3_1), .val (.int p3_2), .unset, .unset, .unset, .unset, .unset, .unset] [(.int (8 : Int32)), (.ref b1), (.ref b1)])) rfl (hb hby d3_55) _ ?_
    show Steps p.tables e below (T17.setTop (mkF m 58 #[.val (.int p3_0), .val (.int p3_1), .val (.int p3_2), .unset, .unset, .unset, .unset, .unset, .unset] [(.long (100000000 : Int64)), (.int (8 : Int32)), (.ref b1), (.ref b1)])) _
    refine st19 _ ?_
    show Steps p.tables e below (T19.setTop (mkF m 59 #[.val (.int p3_0), .val (.int p3_1), .val (.int p3_2), .unset, .unset, .unset, .unset, .unset, .unset] [(.ref b1)])) _
    refine XS.dup X19.here hx rfl (hb hby d3_59) rfl rfl ?_
    show Steps p.tables e below (T19.setTop (mkF m 60 #[.val (.int p3_0), .val (.int p3_1), .val (.int p3_2), .unset, .unset, .unset, .unset, .unset, .unset] [(.ref b1), (.ref b1)])) _
    refine XS.bipush X19.here hx rfl (hb hby d3_60) ?_
    show Steps p.tables e below (T19.setTop (mkF m 62 #[.val (.int p3_0), .val (.int p3_1), .val (.int p3_2), .unset, .unset, .unset, .unset, .unset, .unset] [(.int (9 : Int32)), (.ref b1), (.ref b1)])) _
    refine X19.ldc2Long hx hown (mvT hZ (ow23 hw)) (g := (mkF m 62 #[.val (.int p3_0), .val (.int p3_1), .val (.int p3_2), .unset, .unset, .unset, .unset, .unset, .unset] [(.int (9 : Int32)), (.ref b1), (.ref b1)])) rfl (hb hby d3_62) _ ?_
    show Steps p.tables e below (T19.setTop (mkF m 65 #[.val (.int p3_0), .val (.int p3_1), .val (.int p3_2), .unset, .unset, .unset, .unset, .unset, .unset] [(.long (1000000000 : Int64)), (.int (9 : Int32)), (.ref b1), (.ref b1)])) _
    refine st21 _ ?_
    show Steps p.tables e below (T21.setTop (mkF m 66 #[.val (.int p3_0), .val (.int p3_1), .val (.int p3_2), .unset, .unset, .unset, .unset, .unset, .unset] [(.ref b1)])) _
    refine XS.dup X21.here hx rfl (hb hby d3_66) rfl rfl ?_
    show Steps p.tables e below (T21.setTop (mkF m 67 #[.val (.int p3_0), .val (.int p3_1), .val (.int p3_2), .unset, .unset, .unset, .unset, .unset, .unset] [(.ref b1), (.ref b1)])) _
    refine XS.bipush X21.here hx rfl (hb hby d3_67) ?_
    show Steps p.tables e below (T21.setTop (mkF m 69 #[.val (.int p3_0), .val (.int p3_1), .val (.int p3_2), .unset, .unset, .unset, .unset, .unset, .unset] [(.int (10 : Int32)), (.ref b1), (.ref b1)])) _
    refine X21.ldc2Long hx hown (mvT hZ (ow24 hw)) (g := (mkF m 69 #[.val (.int p3_0), .val (.int p3_1), .val (.int p3_2), .unset, .unset, .unset, .unset, .unset, .unset] [(.int (10 : Int32)), (.ref b1), (.ref b1)])) rfl (hb hby d3_69) _ ?_
    show Steps p.tables e below (T21.setTop (mkF m 72 #[.val (.int p3_0), .val (.int p3_1), .val (.int p3_2), .unset, .unset, .unset, .unset, .unset, .unset] [(.long (10000000000 : Int64)), (.int (10 : Int32)), (.ref b1), (.ref b1)])) _
    refine st23 _ ?_
    show Steps p.tables e below (T23.setTop (mkF m 73 #[.val (.int p3_0), .val (.int p3_1), .val (.int p3_2), .unset, .unset, .unset, .unset, .unset, .unset] [(.ref b1)])) _
    refine XS.dup X23.here hx rfl (hb hby d3_73) rfl rfl ?_
    show Steps p.tables e below (T23.setTop (mkF m 74 #[.val (.int p3_0), .val (.int p3_1), .val (.int p3_2), .unset, .unset, .unset, .unset, .unset, .unset] [(.ref b1), (.ref b1)])) _
    refine XS.bipush X23.here hx rfl (hb hby d3_74) ?_
    show Steps p.tables e below (T23.setTop (mkF m 76 #[.val (.int p3_0), .val (.int p3_1), .val (.int p3_2), .unset, .unset, .unset, .unset, .unset, .unset] [(.int (11 : Int32)), (.ref b1), (.ref b1)])) _
    refine X23.ldc2Long hx hown (mvT hZ (ow25 hw)) (g := (mkF m 76 #[.val (.int p3_0), .val (.int p3_1), .val (.int p3_2), .unset, .unset, .unset, .unset, .unset, .unset] [(.int (11 : Int32)), (.ref b1), (.ref b1)])) rfl (hb hby d3_76) _ ?_
    show Steps p.tables e below (T23.setTop (mkF m 79 #[.val (.int p3_0), .val (.int p3_1), .val (.int p3_2), .unset, .unset, .unset, .unset, .unset, .unset] [(.long (100000000000 : Int64)), (.int (11 : Int32)), (.ref b1), (.ref b1)])) _
    refine st25 _ ?_
    show Steps p.tables e below (T25.setTop (mkF m 80 #[.val (.int p3_0), .val (.int p3_1), .val (.int p3_2), .unset, .unset, .unset, .unset, .unset, .unset] [(.ref b1)])) _
    refine XS.dup X25.here hx rfl (hb hby d3_80) rfl rfl ?_
    show Steps p.tables e below (T25.setTop (mkF m 81 #[.val (.int p3_0), .val (.int p3_1), .val (.int p3_2), .unset, .unset, .unset, .unset, .unset, .unset] [(.ref b1), (.ref b1)])) _
    refine XS.bipush X25.here hx rfl (hb hby d3_81) ?_
    show Steps p.tables e below (T25.setTop (mkF m 83 #[.val (.int p3_0), .val (.int p3_1), .val (.int p3_2), .unset, .unset, .unset, .unset, .unset, .unset] [(.int (12 : Int32)), (.ref b1), (.ref b1)])) _
    refine X25.ldc2Long hx hown (mvT hZ (ow26 hw)) (g := (mkF m 83 #[.val (.int p3_0), .val (.int p3_1), .val (.int p3_2), .unset, .unset, .unset, .unset, .unset, .unset] [(.int (12 : Int32)), (.ref b1), (.ref b1)])) rfl (hb hby d3_83) _ ?_
    show Steps p.tables e below (T25.setTop (mkF m 86 #[.val (.int p3_0), .val (.int p3_1), .val (.int p3_2), .unset, .unset, .unset, .unset, .unset, .unset] [(.long (1000000000000 : Int64)), (.int (12 : Int32)), (.ref b1), (.ref b1)])) _
    refine st27 _ ?_
    show Steps p.tables e below (T27.setTop (mkF m 87 #[.val (.int p3_0), .val (.int p3_1), .val (.int p3_2), .unset, .unset, .unset, .unset, .unset, .unset] [(.ref b1)])) _
    refine XS.dup X27.here hx rfl (hb hby d3_87) rfl rfl ?_
    show Steps p.tables e below (T27.setTop (mkF m 88 #[.val (.int p3_0), .val (.int p3_1), .val (.int p3_2), .unset, .unset, .unset, .unset, .unset, .unset] [(.ref b1), (.ref b1)])) _
    refine XS.bipush X27.here hx rfl (hb hby d3_88) ?_
    show Steps p.tables e below (T27.setTop (mkF m 90 #[.val (.int p3_0), .val (.int p3_1), .val (.int p3_2), .unset, .unset, .unset, .unset, .unset, .unset] [(.int (13 : Int32)), (.ref b1), (.ref b1)])) _
    refine X27.ldc2Long hx hown (mvT hZ (ow27 hw)) (g := (mkF m 90 #[.val (.int p3_0), .val (.int p3_1), .val (.int p3_2), .unset, .unset, .unset, .unset, .unset, .unset] [(.int (13 : Int32)), (.ref b1), (.ref b1)])) rfl (hb hby d3_90) _ ?_
    show Steps p.tables e below (T27.setTop (mkF m 93 #[.val (.int p3_0), .val (.int p3_1), .val (.int p3_2), .unset, .unset, .unset, .unset, .unset, .unset] [(.long (10000000000000 : Int64)), (.int (13 : Int32)), (.ref b1), (.ref b1)])) _
    refine st29 _ ?_
    show Steps p.tables e below (T29.setTop (mkF m 94 #[.val (.int p3_0), .val (.int p3_1), .val (.int p3_2), .unset, .unset, .unset, .unset, .unset, .unset] [(.ref b1)])) _
    refine XS.dup X29.here hx rfl (hb hby d3_94) rfl rfl ?_
    show Steps p.tables e below (T29.setTop (mkF m 95 #[.val (.int p3_0), .val (.int p3_1), .val (.int p3_2), .unset, .unset, .unset, .unset, .unset, .unset] [(.ref b1), (.ref b1)])) _
    refine XS.bipush X29.here hx rfl (hb hby d3_95) ?_
    show Steps p.tables e below (T29.setTop (mkF m 97 #[.val (.int p3_0), .val (.int p3_1), .val (.int p3_2), .unset, .unset, .unset, .unset, .unset, .unset] [(.int (14 : Int32)), (.ref b1), (.ref b1)])) _
    refine X29.ldc2Long hx hown (mvT hZ (ow28 hw)) (g := (mkF m 97 #[.val (.int p3_0), .val (.int p3_1), .val (.int p3_2), .unset, .unset, .unset, .unset, .unset, .unset] [(.int (14 : Int32)), (.ref b1), (.ref b1)])) rfl (hb hby d3_97) _ ?_
    show Steps p.tables e below (T29.setTop (mkF m 100 #[.val (.int p3_0), .val (.int p3_1), .val (.int p3_2), .unset, .unset, .unset, .unset, .unset, .unset] [(.long (100000000000000 : Int64)), (.int (14 : Int32)), (.ref b1), (.ref b1)])) _
    refine st31 _ ?_
    show Steps p.tables e below (T31.setTop (mkF m 101 #[.val (.int p3_0), .val (.int p3_1), .val (.int p3_2), .unset, .unset, .unset, .unset, .unset, .unset] [(.ref b1)])) _
    refine XS.dup X31.here hx rfl (hb hby d3_101) rfl rfl ?_
    show Steps p.tables e below (T31.setTop (mkF m 102 #[.val (.int p3_0), .val (.int p3_1), .val (.int p3_2), .unset, .unset, .unset, .unset, .unset, .unset] [(.ref b1), (.ref b1)])) _
    refine XS.bipush X31.here hx rfl (hb hby d3_102) ?_
    show Steps p.tables e below (T31.setTop (mkF m 104 #[.val (.int p3_0), .val (.int p3_1), .val (.int p3_2), .unset, .unset, .unset, .unset, .unset, .unset] [(.int (15 : Int32)), (.ref b1), (.ref b1)])) _
    refine X31.ldc2Long hx hown (mvT hZ (ow29 hw)) (g := (mkF m 104 #[.val (.int p3_0), .val (.int p3_1), .val (.int p3_2), .unset, .unset, .unset, .unset, .unset, .unset] [(.int (15 : Int32)), (.ref b1), (.ref b1)])) rfl (hb hby d3_104) _ ?_
    show Steps p.tables e below (T31.setTop (mkF m 107 #[.val (.int p3_0), .val (.int p3_1), .val (.int p3_2), .unset, .unset, .unset, .unset, .unset, .unset] [(.long (1000000000000000 : Int64)), (.int (15 : Int32)), (.ref b1), (.ref b1)])) _
    refine st33 _ ?_
    show Steps p.tables e below (T33.setTop (mkF m 108 #[.val (.int p3_0), .val (.int p3_1), .val (.int p3_2), .unset, .unset, .unset, .unset, .unset, .unset] [(.ref b1)])) _
    refine XS.dup X33.here hx rfl (hb hby d3_108) rfl rfl ?_
    show Steps p.tables e below (T33.setTop (mkF m 109 #[.val (.int p3_0), .val (.int p3_1), .val (.int p3_2), .unset, .unset, .unset, .unset, .unset, .unset] [(.ref b1), (.ref b1)])) _
    refine XS.bipush X33.here hx rfl (hb hby d3_109) ?_
    show Steps p.tables e below (T33.setTop (mkF m 111 #[.val (.int p3_0), .val (.int p3_1), .val (.int p3_2), .unset, .unset, .unset, .unset, .unset, .unset] [(.int (16 : Int32)), (.ref b1), (.ref b1)])) _
    refine X33.ldc2Long hx hown (mvT hZ (ow30 hw)) (g := (mkF m 111 #[.val (.int p3_0), .val (.int p3_1), .val (.int p3_2), .unset, .unset, .unset, .unset, .unset, .unset] [(.int (16 : Int32)), (.ref b1), (.ref b1)])) rfl (hb hby d3_111) _ ?_
    show Steps p.tables e below (T33.setTop (mkF m 114 #[.val (.int p3_0), .val (.int p3_1), .val (.int p3_2), .unset, .unset, .unset, .unset, .unset, .unset] [(.long (10000000000000000 : Int64)), (.int (16 : Int32)), (.ref b1), (.ref b1)])) _
    refine st35 _ ?_
    show Steps p.tables e below (T35.setTop (mkF m 115 #[.val (.int p3_0), .val (.int p3_1), .val (.int p3_2), .unset, .unset, .unset, .unset, .unset, .unset] [(.ref b1)])) _
    refine XS.dup X35.here hx rfl (hb hby d3_115) rfl rfl ?_
    show Steps p.tables e below (T35.setTop (mkF m 116 #[.val (.int p3_0), .val (.int p3_1), .val (.int p3_2), .unset, .unset, .unset, .unset, .unset, .unset] [(.ref b1), (.ref b1)])) _
    refine XS.bipush X35.here hx rfl (hb hby d3_116) ?_
    show Steps p.tables e below (T35.setTop (mkF m 118 #[.val (.int p3_0), .val (.int p3_1), .val (.int p3_2), .unset, .unset, .unset, .unset, .unset, .unset] [(.int (17 : Int32)), (.ref b1), (.ref b1)])) _
    refine X35.ldc2Long hx hown (mvT hZ (ow31 hw)) (g := (mkF m 118 #[.val (.int p3_0), .val (.int p3_1), .val (.int p3_2), .unset, .unset, .unset, .unset, .unset, .unset] [(.int (17 : Int32)), (.ref b1), (.ref b1)])) rfl (hb hby d3_118) _ ?_
    show Steps p.tables e below (T35.setTop (mkF m 121 #[.val (.int p3_0), .val (.int p3_1), .val (.int p3_2), .unset, .unset, .unset, .unset, .unset, .unset] [(.long (100000000000000000 : Int64)), (.int (17 : Int32)), (.ref b1), (.ref b1)])) _
    refine st37 _ ?_
    show Steps p.tables e below (T37.setTop (mkF m 122 #[.val (.int p3_0), .val (.int p3_1), .val (.int p3_2), .unset, .unset, .unset, .unset, .unset, .unset] [(.ref b1)])) _
    refine XS.dup X37.here hx rfl (hb hby d3_122) rfl rfl ?_
    show Steps p.tables e below (T37.setTop (mkF m 123 #[.val (.int p3_0), .val (.int p3_1), .val (.int p3_2), .unset, .unset, .unset, .unset, .unset, .unset] [(.ref b1), (.ref b1)])) _
    refine XS.bipush X37.here hx rfl (hb hby d3_123) ?_
    show Steps p.tables e below (T37.setTop (mkF m 125 #[.val (.int p3_0), .val (.int p3_1), .val (.int p3_2), .unset, .unset, .unset, .unset, .unset, .unset] [(.int (18 : Int32)), (.ref b1), (.ref b1)])) _
    refine X37.ldc2Long hx hown (mvT hZ (ow32 hw)) (g := (mkF m 125 #[.val (.int p3_0), .val (.int p3_1), .val (.int p3_2), .unset, .unset, .unset, .unset, .unset, .unset] [(.int (18 : Int32)), (.ref b1), (.ref b1)])) rfl (hb hby d3_125) _ ?_
    show Steps p.tables e below (T37.setTop (mkF m 128 #[.val (.int p3_0), .val (.int p3_1), .val (.int p3_2), .unset, .unset, .unset, .unset, .unset, .unset] [(.long (1000000000000000000 : Int64)), (.int (18 : Int32)), (.ref b1), (.ref b1)])) _
    refine st39 _ ?_
    show Steps p.tables e below (T39.setTop (mkF m 129 #[.val (.int p3_0), .val (.int p3_1), .val (.int p3_2), .unset, .unset, .unset, .unset, .unset, .unset] [(.ref b1)])) _
    refine XS.astoreN X39.here hx rfl (hb hby d3_129) rfl rfl (l' := #[.val (.int p3_0), .val (.int p3_1), .val (.int p3_2), .val (.ref b1), .unset, .unset, .unset, .unset, .unset]) rfl ?_
    show Steps p.tables e below (T39.setTop (mkF m 130 #[.val (.int p3_0), .val (.int p3_1), .val (.int p3_2), .val (.ref b1), .unset, .unset, .unset, .unset, .unset] [])) _
    refine XS.iloadN X39.here hx rfl (hb hby d3_130) rfl ?_
    exact k
  obtain ⟨v42, hv42⟩ : ∃ z : Int64, z = (if p3_1 = (0 : Int32) then (4 : Int64) else (3 : Int64)) := ⟨_, rfl⟩
  obtain ⟨T43, Lo43, X43, N43, e43, G43⟩ := own_join X39 N39 (h := h39) (mkF m 131 #[.val (.int p3_0), .val (.int p3_1), .val (.int p3_2), .val (.ref b1), .unset, .unset, .unset, .unset, .unset] [(.int p3_1)]) (mkF m 143 #[.val (.int p3_0), .val (.int p3_1), .val (.int p3_2), .val (.ref b1), .unset, .unset, .unset, .unset, .unset] [(.long v42)]) (by
    by_cases h131_41 : p3_1 = (0 : Int32)
    · refine ⟨T39, _, X39, N39, e39, fun t k => ?_⟩
      rw [show v42 = (4 : Int64) from hv42.trans (if_pos h131_41)] at k
      show Steps p.tables e below (T39.setTop (mkF m 131 #[.val (.int p3_0), .val (.int p3_1), .val (.int p3_2), .val (.ref b1), .unset, .unset, .unset, .unset, .unset] [(.int p3_1)])) _
      refine XS.ifYes X39.here hx rfl (pc0 := 131) (pc' := 140) rfl (hb hby d3_131) rfl ((if0 _ _).trans (teq h131_41).1) (by decide) (by decide) ?_
      show Steps p.tables e below (T39.setTop (mkF m 140 #[.val (.int p3_0), .val (.int p3_1), .val (.int p3_2), .val (.ref b1), .unset, .unset, .unset, .unset, .unset] [])) _
      refine X39.ldc2Long hx hown (mvT hZ (ow34 hw)) (g := (mkF m 140 #[.val (.int p3_0), .val (.int p3_1), .val (.int p3_2), .val (.ref b1), .unset, .unset, .unset, .unset, .unset] [])) rfl (hb hby d3_140) _ ?_
      exact k
    · refine ⟨T39, _, X39, N39, e39, fun t k => ?_⟩
      rw [show v42 = (3 : Int64) from hv42.trans (if_neg h131_41)] at k
      show Steps p.tables e below (T39.setTop (mkF m 131 #[.val (.int p3_0), .val (.int p3_1), .val (.int p3_2), .val (.ref b1), .unset, .unset, .unset, .unset, .unset] [(.int p3_1)])) _
      refine XS.ifNo X39.here hx rfl (hb hby d3_131) rfl ((if0 _ _).trans (feq h131_41).1) ?_
      show Steps p.tables e below (T39.setTop (mkF m 134 #[.val (.int p3_0), .val (.int p3_1), .val (.int p3_2), .val (.ref b1), .unset, .unset, .unset, .unset, .unset] [])) _
      refine X39.ldc2Long hx hown (mvT hZ (ow33 hw)) (g := (mkF m 134 #[.val (.int p3_0), .val (.int p3_1), .val (.int p3_2), .val (.ref b1), .unset, .unset, .unset, .unset, .unset] [])) rfl (hb hby d3_134) _ ?_
      show Steps p.tables e below (T39.setTop (mkF m 137 #[.val (.int p3_0), .val (.int p3_1), .val (.int p3_2), .val (.ref b1), .unset, .unset, .unset, .unset, .unset] [(.long (3 : Int64))])) _
      refine XS.goto X39.here hx rfl (pc0 := 137) (pc' := 143) rfl (hb hby d3_137) (by decide) (by decide) ?_
      exact k)
  have G44 : ∀ t, Steps p.tables e below (T43.setTop (mkF m 146 #[.val (.int p3_0), .val (.int p3_1), .val (.int p3_2), .val (.ref b1), .val (.long v42), .second, .unset, .unset, .unset] [(.int p3_2)])) t → Steps p.tables e below (T43.setTop (mkF m 143 #[.val (.int p3_0), .val (.int p3_1), .val (.int p3_2), .val (.ref b1), .unset, .unset, .unset, .unset, .unset] [(.long v42)])) t := by
    intro t k
    show Steps p.tables e below (T43.setTop (mkF m 143 #[.val (.int p3_0), .val (.int p3_1), .val (.int p3_2), .val (.ref b1), .unset, .unset, .unset, .unset, .unset] [(.long v42)])) _
    refine XS.lstore X43.here hx rfl (hb hby d3_143) rfl (l' := #[.val (.int p3_0), .val (.int p3_1), .val (.int p3_2), .val (.ref b1), .val (.long v42), .second, .unset, .unset, .unset]) rfl ?_
    show Steps p.tables e below (T43.setTop (mkF m 145 #[.val (.int p3_0), .val (.int p3_1), .val (.int p3_2), .val (.ref b1), .val (.long v42), .second, .unset, .unset, .unset] [])) _
    refine XS.iloadN X43.here hx rfl (hb hby d3_145) rfl ?_
    exact k
  by_cases h146_45 : p3_2 < (0 : Int32)
  · have G46 : ∀ t, Steps p.tables e below (T43.setTop (mkF m 205 #[.val (.int p3_0), .val (.int p3_1), .val (.int p3_2), .val (.ref b1), .val (.long v42), .second, .val (.int (-p3_2)), .unset, .unset] [(.int (2 : Int32)), (.int p3_0)])) t → Steps p.tables e below (T43.setTop (mkF m 146 #[.val (.int p3_0), .val (.int p3_1), .val (.int p3_2), .val (.ref b1), .val (.long v42), .second, .unset, .unset, .unset] [(.int p3_2)])) t := by
      intro t k
      show Steps p.tables e below (T43.setTop (mkF m 146 #[.val (.int p3_0), .val (.int p3_1), .val (.int p3_2), .val (.ref b1), .val (.long v42), .second, .unset, .unset, .unset] [(.int p3_2)])) _
      refine XS.ifYes X43.here hx rfl (pc0 := 146) (pc' := 199) rfl (hb hby d3_146) rfl ((if0 _ _).trans (tlt h146_45).1) (by decide) (by decide) ?_
      show Steps p.tables e below (T43.setTop (mkF m 199 #[.val (.int p3_0), .val (.int p3_1), .val (.int p3_2), .val (.ref b1), .val (.long v42), .second, .unset, .unset, .unset] [])) _
      refine XS.iloadN X43.here hx rfl (hb hby d3_199) rfl ?_
      show Steps p.tables e below (T43.setTop (mkF m 200 #[.val (.int p3_0), .val (.int p3_1), .val (.int p3_2), .val (.ref b1), .val (.long v42), .second, .unset, .unset, .unset] [(.int p3_2)])) _
      refine XS.ineg X43.here hx rfl (hb hby d3_200) rfl ?_
      show Steps p.tables e below (T43.setTop (mkF m 201 #[.val (.int p3_0), .val (.int p3_1), .val (.int p3_2), .val (.ref b1), .val (.long v42), .second, .unset, .unset, .unset] [(.int (-p3_2))])) _
      refine XS.istore X43.here hx rfl (hb hby d3_201) rfl (l' := #[.val (.int p3_0), .val (.int p3_1), .val (.int p3_2), .val (.ref b1), .val (.long v42), .second, .val (.int (-p3_2)), .unset, .unset]) rfl ?_
      show Steps p.tables e below (T43.setTop (mkF m 203 #[.val (.int p3_0), .val (.int p3_1), .val (.int p3_2), .val (.ref b1), .val (.long v42), .second, .val (.int (-p3_2)), .unset, .unset] [])) _
      refine XS.iloadN X43.here hx rfl (hb hby d3_203) rfl ?_
      show Steps p.tables e below (T43.setTop (mkF m 204 #[.val (.int p3_0), .val (.int p3_1), .val (.int p3_2), .val (.ref b1), .val (.long v42), .second, .val (.int (-p3_2)), .unset, .unset] [(.int p3_0)])) _
      refine XS.iconst X43.here hx rfl (hb hby d3_204) ?_
      exact k
    by_cases h205_47 : (2 : Int32) < p3_0
    · obtain ⟨fs, hr, hrun, hended, hW, hsame⟩ := X43.leave (v := some (.int (0 : Int32))) (fun h => by rw [Bd.returns] at h; cases h)
      refine ⟨_, _, pre0 _ ?_, hrun, hended, _, _, rfl, ?_, ⟨_, rfl⟩, hW, hsame.mono (by decide) (by decide)⟩
      · refine G40 _ ?_
        refine G43 _ ?_
        refine G44 _ ?_
        refine G46 _ ?_
        show Steps p.tables e below (T43.setTop (mkF m 205 #[.val (.int p3_0), .val (.int p3_1), .val (.int p3_2), .val (.ref b1), .val (.long v42), .second, .val (.int (-p3_2)), .unset, .unset] [(.int (2 : Int32)), (.int p3_0)])) _
        refine XS.icmpYes X43.here hx rfl (pc0 := 205) (pc' := 221) rfl (hb hby d3_205) rfl (tlt h205_47).2.2.1 (by decide) (by decide) ?_
        show Steps p.tables e below (T43.setTop (mkF m 221 #[.val (.int p3_0), .val (.int p3_1), .val (.int p3_2), .val (.ref b1), .val (.long v42), .second, .val (.int (-p3_2)), .unset, .unset] [])) _
        refine XS.iconst X43.here hx rfl (hb hby d3_221) ?_
        show Steps p.tables e below (T43.setTop (mkF m 222 #[.val (.int p3_0), .val (.int p3_1), .val (.int p3_2), .val (.ref b1), .val (.long v42), .second, .val (.int (-p3_2)), .unset, .unset] [(.int (0 : Int32))])) _
        exact retN X43 hx (t := .boolean) Bd.returns (by simp) (hb hby d3_222) hr
      · show Q_rm3 Z p3_0 p3_1 p3_2 h0 n0 _ T43.heap _
        rw [e43]
        subst hv42
        exact ⟨(congrArg (fun z => some (Value.int z)) ((if_pos h146_45).trans (if_pos h205_47)).symm), N43, K39⟩
    · have G48 : ∀ t, Steps p.tables e below (T43.setTop (mkF m 211 #[.val (.int p3_0), .val (.int p3_1), .val (.int p3_2), .val (.ref b1), .val (.long v42), .second, .val (.int (-p3_2)), .unset, .unset] [(.int (1 : Int32)), (.int (-p3_2))])) t → Steps p.tables e below (T43.setTop (mkF m 205 #[.val (.int p3_0), .val (.int p3_1), .val (.int p3_2), .val (.ref b1), .val (.long v42), .second, .val (.int (-p3_2)), .unset, .unset] [(.int (2 : Int32)), (.int p3_0)])) t := by
        intro t k
        show Steps p.tables e below (T43.setTop (mkF m 205 #[.val (.int p3_0), .val (.int p3_1), .val (.int p3_2), .val (.ref b1), .val (.long v42), .second, .val (.int (-p3_2)), .unset, .unset] [(.int (2 : Int32)), (.int p3_0)])) _
        refine XS.icmpNo X43.here hx rfl (hb hby d3_205) rfl (flt h205_47).2.2.1 ?_
        show Steps p.tables e below (T43.setTop (mkF m 208 #[.val (.int p3_0), .val (.int p3_1), .val (.int p3_2), .val (.ref b1), .val (.long v42), .second, .val (.int (-p3_2)), .unset, .unset] [])) _
        refine XS.iload X43.here hx rfl (hb hby d3_208) rfl ?_
        show Steps p.tables e below (T43.setTop (mkF m 210 #[.val (.int p3_0), .val (.int p3_1), .val (.int p3_2), .val (.ref b1), .val (.long v42), .second, .val (.int (-p3_2)), .unset, .unset] [(.int (-p3_2))])) _
        refine XS.iconst X43.here hx rfl (hb hby d3_210) ?_
        exact k
      by_cases h211_49 : (-p3_2) < (1 : Int32)
      · obtain ⟨fs, hr, hrun, hended, hW, hsame⟩ := X43.leave (v := some (.int (0 : Int32))) (fun h => by rw [Bd.returns] at h; cases h)
        refine ⟨_, _, pre0 _ ?_, hrun, hended, _, _, rfl, ?_, ⟨_, rfl⟩, hW, hsame.mono (by decide) (by decide)⟩
        · refine G40 _ ?_
          refine G43 _ ?_
          refine G44 _ ?_
          refine G46 _ ?_
          refine G48 _ ?_
          show Steps p.tables e below (T43.setTop (mkF m 211 #[.val (.int p3_0), .val (.int p3_1), .val (.int p3_2), .val (.ref b1), .val (.long v42), .second, .val (.int (-p3_2)), .unset, .unset] [(.int (1 : Int32)), (.int (-p3_2))])) _
          refine XS.icmpYes X43.here hx rfl (pc0 := 211) (pc' := 221) rfl (hb hby d3_211) rfl (tlt h211_49).1 (by decide) (by decide) ?_
          show Steps p.tables e below (T43.setTop (mkF m 221 #[.val (.int p3_0), .val (.int p3_1), .val (.int p3_2), .val (.ref b1), .val (.long v42), .second, .val (.int (-p3_2)), .unset, .unset] [])) _
          refine XS.iconst X43.here hx rfl (hb hby d3_221) ?_
          show Steps p.tables e below (T43.setTop (mkF m 222 #[.val (.int p3_0), .val (.int p3_1), .val (.int p3_2), .val (.ref b1), .val (.long v42), .second, .val (.int (-p3_2)), .unset, .unset] [(.int (0 : Int32))])) _
          exact retN X43 hx (t := .boolean) Bd.returns (by simp) (hb hby d3_222) hr
        · show Q_rm3 Z p3_0 p3_1 p3_2 h0 n0 _ T43.heap _
          rw [e43]
          subst hv42
          exact ⟨(congrArg (fun z => some (Value.int z)) ((if_pos h146_45).trans ((if_neg h205_47).trans (if_pos h211_49))).symm), N43, K39⟩
      · have G50 : ∀ t, Steps p.tables e below (T43.setTop (mkF m 218 #[.val (.int p3_0), .val (.int p3_1), .val (.int p3_2), .val (.ref b1), .val (.long v42), .second, .val (.int (-p3_2)), .unset, .unset] [(.int (18 : Int32)), (.int (-p3_2))])) t → Steps p.tables e below (T43.setTop (mkF m 211 #[.val (.int p3_0), .val (.int p3_1), .val (.int p3_2), .val (.ref b1), .val (.long v42), .second, .val (.int (-p3_2)), .unset, .unset] [(.int (1 : Int32)), (.int (-p3_2))])) t := by
          intro t k
          show Steps p.tables e below (T43.setTop (mkF m 211 #[.val (.int p3_0), .val (.int p3_1), .val (.int p3_2), .val (.ref b1), .val (.long v42), .second, .val (.int (-p3_2)), .unset, .unset] [(.int (1 : Int32)), (.int (-p3_2))])) _
          refine XS.icmpNo X43.here hx rfl (hb hby d3_211) rfl (flt h211_49).1 ?_
          show Steps p.tables e below (T43.setTop (mkF m 214 #[.val (.int p3_0), .val (.int p3_1), .val (.int p3_2), .val (.ref b1), .val (.long v42), .second, .val (.int (-p3_2)), .unset, .unset] [])) _
          refine XS.iload X43.here hx rfl (hb hby d3_214) rfl ?_
          show Steps p.tables e below (T43.setTop (mkF m 216 #[.val (.int p3_0), .val (.int p3_1), .val (.int p3_2), .val (.ref b1), .val (.long v42), .second, .val (.int (-p3_2)), .unset, .unset] [(.int (-p3_2))])) _
          refine XS.bipush X43.here hx rfl (hb hby d3_216) ?_
          exact k
        by_cases h218_51 : (18 : Int32) < (-p3_2)
        · obtain ⟨fs, hr, hrun, hended, hW, hsame⟩ := X43.leave (v := some (.int (0 : Int32))) (fun h => by rw [Bd.returns] at h; cases h)
          refine ⟨_, _, pre0 _ ?_, hrun, hended, _, _, rfl, ?_, ⟨_, rfl⟩, hW, hsame.mono (by decide) (by decide)⟩
          · refine G40 _ ?_
            refine G43 _ ?_
            refine G44 _ ?_
            refine G46 _ ?_
            refine G48 _ ?_
            refine G50 _ ?_
            show Steps p.tables e below (T43.setTop (mkF m 218 #[.val (.int p3_0), .val (.int p3_1), .val (.int p3_2), .val (.ref b1), .val (.long v42), .second, .val (.int (-p3_2)), .unset, .unset] [(.int (18 : Int32)), (.int (-p3_2))])) _
            refine XS.icmpNo X43.here hx rfl (hb hby d3_218) rfl (tlt h218_51).2.2.2 ?_
            show Steps p.tables e below (T43.setTop (mkF m 221 #[.val (.int p3_0), .val (.int p3_1), .val (.int p3_2), .val (.ref b1), .val (.long v42), .second, .val (.int (-p3_2)), .unset, .unset] [])) _
            refine XS.iconst X43.here hx rfl (hb hby d3_221) ?_
            show Steps p.tables e below (T43.setTop (mkF m 222 #[.val (.int p3_0), .val (.int p3_1), .val (.int p3_2), .val (.ref b1), .val (.long v42), .second, .val (.int (-p3_2)), .unset, .unset] [(.int (0 : Int32))])) _
            exact retN X43 hx (t := .boolean) Bd.returns (by simp) (hb hby d3_222) hr
          · show Q_rm3 Z p3_0 p3_1 p3_2 h0 n0 _ T43.heap _
            rw [e43]
            subst hv42
            exact ⟨(congrArg (fun z => some (Value.int z)) ((if_pos h146_45).trans ((if_neg h205_47).trans ((if_neg h211_49).trans (if_pos h218_51)))).symm), N43, K39⟩
        · obtain ⟨x52, hx52⟩ : ∃ z : Int64, z = ((1 : Int64) <<< (((2 : Int32) - p3_0) &&& 0x3f).toInt64) := ⟨_, rfl⟩
          obtain ⟨cl53, Ar53, qk53, Sz53, Nz53, Hh53, Gf53⟩ := id V39
          have G54 : ∀ t, Steps p.tables e below (T43.setTop (mkF m 240 #[.val (.int p3_0), .val (.int p3_1), .val (.int p3_2), .val (.ref b1), .val (.long v42), .second, .val (.int (-p3_2)), .val (.long x52), .second] [(.int (lcmpW x52 (v42 * (own_ten (-p3_2)))))])) t → Steps p.tables e below (T43.setTop (mkF m 218 #[.val (.int p3_0), .val (.int p3_1), .val (.int p3_2), .val (.ref b1), .val (.long v42), .second, .val (.int (-p3_2)), .unset, .unset] [(.int (18 : Int32)), (.int (-p3_2))])) t := by
            intro t k
            show Steps p.tables e below (T43.setTop (mkF m 218 #[.val (.int p3_0), .val (.int p3_1), .val (.int p3_2), .val (.ref b1), .val (.long v42), .second, .val (.int (-p3_2)), .unset, .unset] [(.int (18 : Int32)), (.int (-p3_2))])) _
            refine XS.icmpYes X43.here hx rfl (pc0 := 218) (pc' := 223) rfl (hb hby d3_218) rfl (flt h218_51).2.2.2 (by decide) (by decide) ?_
            show Steps p.tables e below (T43.setTop (mkF m 223 #[.val (.int p3_0), .val (.int p3_1), .val (.int p3_2), .val (.ref b1), .val (.long v42), .second, .val (.int (-p3_2)), .unset, .unset] [])) _
            refine XS.lconst X43.here hx rfl (hb hby d3_223) ?_
            show Steps p.tables e below (T43.setTop (mkF m 224 #[.val (.int p3_0), .val (.int p3_1), .val (.int p3_2), .val (.ref b1), .val (.long v42), .second, .val (.int (-p3_2)), .unset, .unset] [(.long (1 : Int64))])) _
            refine XS.iconst X43.here hx rfl (hb hby d3_224) ?_
            show Steps p.tables e below (T43.setTop (mkF m 225 #[.val (.int p3_0), .val (.int p3_1), .val (.int p3_2), .val (.ref b1), .val (.long v42), .second, .val (.int (-p3_2)), .unset, .unset] [(.int (2 : Int32)), (.long (1 : Int64))])) _
            refine XS.iloadN X43.here hx rfl (hb hby d3_225) rfl ?_
            show Steps p.tables e below (T43.setTop (mkF m 226 #[.val (.int p3_0), .val (.int p3_1), .val (.int p3_2), .val (.ref b1), .val (.long v42), .second, .val (.int (-p3_2)), .unset, .unset] [(.int p3_0), (.int (2 : Int32)), (.long (1 : Int64))])) _
            refine XS.isub X43.here hx rfl (hb hby d3_226) rfl ?_
            show Steps p.tables e below (T43.setTop (mkF m 227 #[.val (.int p3_0), .val (.int p3_1), .val (.int p3_2), .val (.ref b1), .val (.long v42), .second, .val (.int (-p3_2)), .unset, .unset] [(.int ((2 : Int32) - p3_0)), (.long (1 : Int64))])) _
            refine XS.lshl X43.here hx rfl (hb hby d3_227) rfl ?_
            show Steps p.tables e below (T43.setTop (mkF m 228 #[.val (.int p3_0), .val (.int p3_1), .val (.int p3_2), .val (.ref b1), .val (.long v42), .second, .val (.int (-p3_2)), .unset, .unset] [(.long ((1 : Int64) <<< (((2 : Int32) - p3_0) &&& 0x3f).toInt64))])) _
            refine XS.lstore X43.here hx rfl (hb hby d3_228) rfl (l' := #[.val (.int p3_0), .val (.int p3_1), .val (.int p3_2), .val (.ref b1), .val (.long v42), .second, .val (.int (-p3_2)), .val (.long ((1 : Int64) <<< (((2 : Int32) - p3_0) &&& 0x3f).toInt64)), .second]) rfl ?_
            show Steps p.tables e below (T43.setTop (mkF m 230 #[.val (.int p3_0), .val (.int p3_1), .val (.int p3_2), .val (.ref b1), .val (.long v42), .second, .val (.int (-p3_2)), .val (.long ((1 : Int64) <<< (((2 : Int32) - p3_0) &&& 0x3f).toInt64)), .second] [])) _
            rw [← hx52]
            show Steps p.tables e below (T43.setTop (mkF m 230 #[.val (.int p3_0), .val (.int p3_1), .val (.int p3_2), .val (.ref b1), .val (.long v42), .second, .val (.int (-p3_2)), .val (.long x52), .second] [])) _
            refine XS.lload X43.here hx rfl (hb hby d3_230) rfl ?_
            show Steps p.tables e below (T43.setTop (mkF m 232 #[.val (.int p3_0), .val (.int p3_1), .val (.int p3_2), .val (.ref b1), .val (.long v42), .second, .val (.int (-p3_2)), .val (.long x52), .second] [(.long x52)])) _
            refine XS.lload X43.here hx rfl (hb hby d3_232) rfl ?_
            show Steps p.tables e below (T43.setTop (mkF m 234 #[.val (.int p3_0), .val (.int p3_1), .val (.int p3_2), .val (.ref b1), .val (.long v42), .second, .val (.int (-p3_2)), .val (.long x52), .second] [(.long v42), (.long x52)])) _
            refine XS.aloadN X43.here hx rfl (hb hby d3_234) rfl rfl ?_
            show Steps p.tables e below (T43.setTop (mkF m 235 #[.val (.int p3_0), .val (.int p3_1), .val (.int p3_2), .val (.ref b1), .val (.long v42), .second, .val (.int (-p3_2)), .val (.long x52), .second] [(.ref b1), (.long v42), (.long x52)])) _
            refine XS.iload X43.here hx rfl (hb hby d3_235) rfl ?_
            show Steps p.tables e below (T43.setTop (mkF m 237 #[.val (.int p3_0), .val (.int p3_1), .val (.int p3_2), .val (.ref b1), .val (.long v42), .second, .val (.int (-p3_2)), .val (.long x52), .second] [(.int (-p3_2)), (.ref b1), (.long v42), (.long x52)])) _
            refine X43.laload hx (j := (-p3_2)) (v := (.long (own_ten (-p3_2)))) (by rw [e43]; exact Ar53.1) (State.isArrayOf_alike hZ.alike Ar53.2.1) Ar53.2.2 (inb_of Sz53 ⟨own_nn1 h211_49, own_lt19 h218_51⟩) (Hh53.at (inb_of Sz53 ⟨own_nn1 h211_49, own_lt19 h218_51⟩) (own_ten_at _)) (g := (mkF m 237 #[.val (.int p3_0), .val (.int p3_1), .val (.int p3_2), .val (.ref b1), .val (.long v42), .second, .val (.int (-p3_2)), .val (.long x52), .second] [(.int (-p3_2)), (.ref b1), (.long v42), (.long x52)])) rfl rfl (hb hby d3_237) _ ?_
            show Steps p.tables e below (T43.setTop (mkF m 238 #[.val (.int p3_0), .val (.int p3_1), .val (.int p3_2), .val (.ref b1), .val (.long v42), .second, .val (.int (-p3_2)), .val (.long x52), .second] [(.long (own_ten (-p3_2))), (.long v42), (.long x52)])) _
            refine XS.lmul X43.here hx rfl (hb hby d3_238) rfl ?_
            show Steps p.tables e below (T43.setTop (mkF m 239 #[.val (.int p3_0), .val (.int p3_1), .val (.int p3_2), .val (.ref b1), .val (.long v42), .second, .val (.int (-p3_2)), .val (.long x52), .second] [(.long (v42 * (own_ten (-p3_2)))), (.long x52)])) _
            refine XS.lcmp X43.here hx rfl (hb hby d3_239) rfl ?_
            exact k
          by_cases h240_55 : (v42 * (own_ten (-p3_2))) < x52
          · obtain ⟨fs, hr, hrun, hended, hW, hsame⟩ := X43.leave (v := some (.int (0 : Int32))) (fun h => by rw [Bd.returns] at h; cases h)
            refine ⟨_, _, pre0 _ ?_, hrun, hended, _, _, rfl, ?_, ⟨_, rfl⟩, hW, hsame.mono (by decide) (by decide)⟩
            · refine G40 _ ?_
              refine G43 _ ?_
              refine G44 _ ?_
              refine G46 _ ?_
              refine G48 _ ?_
              refine G50 _ ?_
              refine G54 _ ?_
              show Steps p.tables e below (T43.setTop (mkF m 240 #[.val (.int p3_0), .val (.int p3_1), .val (.int p3_2), .val (.ref b1), .val (.long v42), .second, .val (.int (-p3_2)), .val (.long x52), .second] [(.int (lcmpW x52 (v42 * (own_ten (-p3_2)))))])) _
              refine XS.ifYes X43.here hx rfl (pc0 := 240) (pc' := 262) rfl (hb hby d3_240) rfl ((if0 _ _).trans (tlt ((lw_gt _ _).mpr h240_55)).2.2.1) (by decide) (by decide) ?_
              show Steps p.tables e below (T43.setTop (mkF m 262 #[.val (.int p3_0), .val (.int p3_1), .val (.int p3_2), .val (.ref b1), .val (.long v42), .second, .val (.int (-p3_2)), .val (.long x52), .second] [])) _
              refine XS.iconst X43.here hx rfl (hb hby d3_262) ?_
              show Steps p.tables e below (T43.setTop (mkF m 263 #[.val (.int p3_0), .val (.int p3_1), .val (.int p3_2), .val (.ref b1), .val (.long v42), .second, .val (.int (-p3_2)), .val (.long x52), .second] [(.int (0 : Int32))])) _
              exact retN X43 hx (t := .boolean) Bd.returns (by simp) (hb hby d3_263) hr
            · show Q_rm3 Z p3_0 p3_1 p3_2 h0 n0 _ T43.heap _
              rw [e43]
              subst hx52
              subst hv42
              exact ⟨(congrArg (fun z => some (Value.int z)) ((if_pos h146_45).trans ((if_neg h205_47).trans ((if_neg h211_49).trans ((if_neg h218_51).trans (if_pos h240_55))))).symm), N43, K39⟩
          · obtain ⟨cl56, Ar56, qk56, Sz56, Nz56, Hh56, Gf56⟩ := id V39
            have G57 : ∀ t, Steps p.tables e below (T43.setTop (mkF m 255 #[.val (.int p3_0), .val (.int p3_1), .val (.int p3_2), .val (.ref b1), .val (.long v42), .second, .val (.int (-p3_2)), .val (.long x52), .second] [(.int (lcmpW (v42 * (own_ten ((-p3_2) - (1 : Int32)))) x52))])) t → Steps p.tables e below (T43.setTop (mkF m 240 #[.val (.int p3_0), .val (.int p3_1), .val (.int p3_2), .val (.ref b1), .val (.long v42), .second, .val (.int (-p3_2)), .val (.long x52), .second] [(.int (lcmpW x52 (v42 * (own_ten (-p3_2)))))])) t := by
              intro t k
              show Steps p.tables e below (T43.setTop (mkF m 240 #[.val (.int p3_0), .val (.int p3_1), .val (.int p3_2), .val (.ref b1), .val (.long v42), .second, .val (.int (-p3_2)), .val (.long x52), .second] [(.int (lcmpW x52 (v42 * (own_ten (-p3_2)))))])) _
              refine XS.ifNo X43.here hx rfl (hb hby d3_240) rfl ((if0 _ _).trans (flt (fun q => h240_55 ((lw_gt _ _).mp q))).2.2.1) ?_
              show Steps p.tables e below (T43.setTop (mkF m 243 #[.val (.int p3_0), .val (.int p3_1), .val (.int p3_2), .val (.ref b1), .val (.long v42), .second, .val (.int (-p3_2)), .val (.long x52), .second] [])) _
              refine XS.lload X43.here hx rfl (hb hby d3_243) rfl ?_
              show Steps p.tables e below (T43.setTop (mkF m 245 #[.val (.int p3_0), .val (.int p3_1), .val (.int p3_2), .val (.ref b1), .val (.long v42), .second, .val (.int (-p3_2)), .val (.long x52), .second] [(.long v42)])) _
              refine XS.aloadN X43.here hx rfl (hb hby d3_245) rfl rfl ?_
              show Steps p.tables e below (T43.setTop (mkF m 246 #[.val (.int p3_0), .val (.int p3_1), .val (.int p3_2), .val (.ref b1), .val (.long v42), .second, .val (.int (-p3_2)), .val (.long x52), .second] [(.ref b1), (.long v42)])) _
              refine XS.iload X43.here hx rfl (hb hby d3_246) rfl ?_
              show Steps p.tables e below (T43.setTop (mkF m 248 #[.val (.int p3_0), .val (.int p3_1), .val (.int p3_2), .val (.ref b1), .val (.long v42), .second, .val (.int (-p3_2)), .val (.long x52), .second] [(.int (-p3_2)), (.ref b1), (.long v42)])) _
              refine XS.iconst X43.here hx rfl (hb hby d3_248) ?_
              show Steps p.tables e below (T43.setTop (mkF m 249 #[.val (.int p3_0), .val (.int p3_1), .val (.int p3_2), .val (.ref b1), .val (.long v42), .second, .val (.int (-p3_2)), .val (.long x52), .second] [(.int (1 : Int32)), (.int (-p3_2)), (.ref b1), (.long v42)])) _
              refine XS.isub X43.here hx rfl (hb hby d3_249) rfl ?_
              show Steps p.tables e below (T43.setTop (mkF m 250 #[.val (.int p3_0), .val (.int p3_1), .val (.int p3_2), .val (.ref b1), .val (.long v42), .second, .val (.int (-p3_2)), .val (.long x52), .second] [(.int ((-p3_2) - (1 : Int32))), (.ref b1), (.long v42)])) _
              refine X43.laload hx (j := ((-p3_2) - (1 : Int32))) (v := (.long (own_ten ((-p3_2) - (1 : Int32))))) (by rw [e43]; exact Ar56.1) (State.isArrayOf_alike hZ.alike Ar56.2.1) Ar56.2.2 (inb_of Sz56 (own_dec h211_49 h218_51)) (Hh56.at (inb_of Sz56 (own_dec h211_49 h218_51)) (own_ten_at _)) (g := (mkF m 250 #[.val (.int p3_0), .val (.int p3_1), .val (.int p3_2), .val (.ref b1), .val (.long v42), .second, .val (.int (-p3_2)), .val (.long x52), .second] [(.int ((-p3_2) - (1 : Int32))), (.ref b1), (.long v42)])) rfl rfl (hb hby d3_250) _ ?_
              show Steps p.tables e below (T43.setTop (mkF m 251 #[.val (.int p3_0), .val (.int p3_1), .val (.int p3_2), .val (.ref b1), .val (.long v42), .second, .val (.int (-p3_2)), .val (.long x52), .second] [(.long (own_ten ((-p3_2) - (1 : Int32)))), (.long v42)])) _
              refine XS.lmul X43.here hx rfl (hb hby d3_251) rfl ?_
              show Steps p.tables e below (T43.setTop (mkF m 252 #[.val (.int p3_0), .val (.int p3_1), .val (.int p3_2), .val (.ref b1), .val (.long v42), .second, .val (.int (-p3_2)), .val (.long x52), .second] [(.long (v42 * (own_ten ((-p3_2) - (1 : Int32)))))])) _
              refine XS.lload X43.here hx rfl (hb hby d3_252) rfl ?_
              show Steps p.tables e below (T43.setTop (mkF m 254 #[.val (.int p3_0), .val (.int p3_1), .val (.int p3_2), .val (.ref b1), .val (.long v42), .second, .val (.int (-p3_2)), .val (.long x52), .second] [(.long x52), (.long (v42 * (own_ten ((-p3_2) - (1 : Int32)))))])) _
              refine XS.lcmp X43.here hx rfl (hb hby d3_254) rfl ?_
              exact k
            by_cases h255_58 : (v42 * (own_ten ((-p3_2) - (1 : Int32)))) < x52
            · obtain ⟨fs, hr, hrun, hended, hW, hsame⟩ := X43.leave (v := some (.int (1 : Int32))) (fun h => by rw [Bd.returns] at h; cases h)
              refine ⟨_, _, pre0 _ ?_, hrun, hended, _, _, rfl, ?_, ⟨_, rfl⟩, hW, hsame.mono (by decide) (by decide)⟩
              · refine G40 _ ?_
                refine G43 _ ?_
                refine G44 _ ?_
                refine G46 _ ?_
                refine G48 _ ?_
                refine G50 _ ?_
                refine G54 _ ?_
                refine G57 _ ?_
                show Steps p.tables e below (T43.setTop (mkF m 255 #[.val (.int p3_0), .val (.int p3_1), .val (.int p3_2), .val (.ref b1), .val (.long v42), .second, .val (.int (-p3_2)), .val (.long x52), .second] [(.int (lcmpW (v42 * (own_ten ((-p3_2) - (1 : Int32)))) x52))])) _
                refine XS.ifNo X43.here hx rfl (hb hby d3_255) rfl ((if0 _ _).trans (tlt ((lw_lt _ _).mpr h255_58)).2.1) ?_
                show Steps p.tables e below (T43.setTop (mkF m 258 #[.val (.int p3_0), .val (.int p3_1), .val (.int p3_2), .val (.ref b1), .val (.long v42), .second, .val (.int (-p3_2)), .val (.long x52), .second] [])) _
                refine XS.iconst X43.here hx rfl (hb hby d3_258) ?_
                show Steps p.tables e below (T43.setTop (mkF m 259 #[.val (.int p3_0), .val (.int p3_1), .val (.int p3_2), .val (.ref b1), .val (.long v42), .second, .val (.int (-p3_2)), .val (.long x52), .second] [(.int (1 : Int32))])) _
                refine XS.goto X43.here hx rfl (pc0 := 259) (pc' := 263) rfl (hb hby d3_259) (by decide) (by decide) ?_
                show Steps p.tables e below (T43.setTop (mkF m 263 #[.val (.int p3_0), .val (.int p3_1), .val (.int p3_2), .val (.ref b1), .val (.long v42), .second, .val (.int (-p3_2)), .val (.long x52), .second] [(.int (1 : Int32))])) _
                exact retN X43 hx (t := .boolean) Bd.returns (by simp) (hb hby d3_263) hr
              · show Q_rm3 Z p3_0 p3_1 p3_2 h0 n0 _ T43.heap _
                rw [e43]
                subst hx52
                subst hv42
                exact ⟨(congrArg (fun z => some (Value.int z)) ((if_pos h146_45).trans ((if_neg h205_47).trans ((if_neg h211_49).trans ((if_neg h218_51).trans ((if_neg h240_55).trans (if_pos h255_58)))))).symm), N43, K39⟩
            · obtain ⟨fs, hr, hrun, hended, hW, hsame⟩ := X43.leave (v := some (.int (0 : Int32))) (fun h => by rw [Bd.returns] at h; cases h)
              refine ⟨_, _, pre0 _ ?_, hrun, hended, _, _, rfl, ?_, ⟨_, rfl⟩, hW, hsame.mono (by decide) (by decide)⟩
              · refine G40 _ ?_
                refine G43 _ ?_
                refine G44 _ ?_
                refine G46 _ ?_
                refine G48 _ ?_
                refine G50 _ ?_
                refine G54 _ ?_
                refine G57 _ ?_
                show Steps p.tables e below (T43.setTop (mkF m 255 #[.val (.int p3_0), .val (.int p3_1), .val (.int p3_2), .val (.ref b1), .val (.long v42), .second, .val (.int (-p3_2)), .val (.long x52), .second] [(.int (lcmpW (v42 * (own_ten ((-p3_2) - (1 : Int32)))) x52))])) _
                refine XS.ifYes X43.here hx rfl (pc0 := 255) (pc' := 262) rfl (hb hby d3_255) rfl ((if0 _ _).trans (flt (fun q => h255_58 ((lw_lt _ _).mp q))).2.1) (by decide) (by decide) ?_
                show Steps p.tables e below (T43.setTop (mkF m 262 #[.val (.int p3_0), .val (.int p3_1), .val (.int p3_2), .val (.ref b1), .val (.long v42), .second, .val (.int (-p3_2)), .val (.long x52), .second] [])) _
                refine XS.iconst X43.here hx rfl (hb hby d3_262) ?_
                show Steps p.tables e below (T43.setTop (mkF m 263 #[.val (.int p3_0), .val (.int p3_1), .val (.int p3_2), .val (.ref b1), .val (.long v42), .second, .val (.int (-p3_2)), .val (.long x52), .second] [(.int (0 : Int32))])) _
                exact retN X43 hx (t := .boolean) Bd.returns (by simp) (hb hby d3_263) hr
              · show Q_rm3 Z p3_0 p3_1 p3_2 h0 n0 _ T43.heap _
                rw [e43]
                subst hx52
                subst hv42
                exact ⟨(congrArg (fun z => some (Value.int z)) ((if_pos h146_45).trans ((if_neg h205_47).trans ((if_neg h211_49).trans ((if_neg h218_51).trans ((if_neg h240_55).trans (if_neg h255_58)))))).symm), N43, K39⟩
  · have G59 : ∀ t, Steps p.tables e below (T43.setTop (mkF m 150 #[.val (.int p3_0), .val (.int p3_1), .val (.int p3_2), .val (.ref b1), .val (.long v42), .second, .unset, .unset, .unset] [(.int p3_0)])) t → Steps p.tables e below (T43.setTop (mkF m 146 #[.val (.int p3_0), .val (.int p3_1), .val (.int p3_2), .val (.ref b1), .val (.long v42), .second, .unset, .unset, .unset] [(.int p3_2)])) t := by
      intro t k
      show Steps p.tables e below (T43.setTop (mkF m 146 #[.val (.int p3_0), .val (.int p3_1), .val (.int p3_2), .val (.ref b1), .val (.long v42), .second, .unset, .unset, .unset] [(.int p3_2)])) _
      refine XS.ifNo X43.here hx rfl (hb hby d3_146) rfl ((if0 _ _).trans (flt h146_45).1) ?_
      show Steps p.tables e below (T43.setTop (mkF m 149 #[.val (.int p3_0), .val (.int p3_1), .val (.int p3_2), .val (.ref b1), .val (.long v42), .second, .unset, .unset, .unset] [])) _
      refine XS.iloadN X43.here hx rfl (hb hby d3_149) rfl ?_
      exact k
    by_cases h150_60 : p3_0 < (0 : Int32)
    · obtain ⟨fs, hr, hrun, hended, hW, hsame⟩ := X43.leave (v := some (.int (0 : Int32))) (fun h => by rw [Bd.returns] at h; cases h)
      refine ⟨_, _, pre0 _ ?_, hrun, hended, _, _, rfl, ?_, ⟨_, rfl⟩, hW, hsame.mono (by decide) (by decide)⟩
      · refine G40 _ ?_
        refine G43 _ ?_
        refine G44 _ ?_
        refine G59 _ ?_
        show Steps p.tables e below (T43.setTop (mkF m 150 #[.val (.int p3_0), .val (.int p3_1), .val (.int p3_2), .val (.ref b1), .val (.long v42), .second, .unset, .unset, .unset] [(.int p3_0)])) _
        refine XS.ifYes X43.here hx rfl (pc0 := 150) (pc' := 159) rfl (hb hby d3_150) rfl ((if0 _ _).trans (tlt h150_60).1) (by decide) (by decide) ?_
        show Steps p.tables e below (T43.setTop (mkF m 159 #[.val (.int p3_0), .val (.int p3_1), .val (.int p3_2), .val (.ref b1), .val (.long v42), .second, .unset, .unset, .unset] [])) _
        refine XS.iconst X43.here hx rfl (hb hby d3_159) ?_
        show Steps p.tables e below (T43.setTop (mkF m 160 #[.val (.int p3_0), .val (.int p3_1), .val (.int p3_2), .val (.ref b1), .val (.long v42), .second, .unset, .unset, .unset] [(.int (0 : Int32))])) _
        exact retN X43 hx (t := .boolean) Bd.returns (by simp) (hb hby d3_160) hr
      · show Q_rm3 Z p3_0 p3_1 p3_2 h0 n0 _ T43.heap _
        rw [e43]
        subst hv42
        exact ⟨(congrArg (fun z => some (Value.int z)) ((if_neg h146_45).trans (if_pos h150_60)).symm), N43, K39⟩
    · have G61 : ∀ t, Steps p.tables e below (T43.setTop (mkF m 156 #[.val (.int p3_0), .val (.int p3_1), .val (.int p3_2), .val (.ref b1), .val (.long v42), .second, .unset, .unset, .unset] [(.int (18 : Int32)), (.int p3_2)])) t → Steps p.tables e below (T43.setTop (mkF m 150 #[.val (.int p3_0), .val (.int p3_1), .val (.int p3_2), .val (.ref b1), .val (.long v42), .second, .unset, .unset, .unset] [(.int p3_0)])) t := by
        intro t k
        show Steps p.tables e below (T43.setTop (mkF m 150 #[.val (.int p3_0), .val (.int p3_1), .val (.int p3_2), .val (.ref b1), .val (.long v42), .second, .unset, .unset, .unset] [(.int p3_0)])) _
        refine XS.ifNo X43.here hx rfl (hb hby d3_150) rfl ((if0 _ _).trans (flt h150_60).1) ?_
        show Steps p.tables e below (T43.setTop (mkF m 153 #[.val (.int p3_0), .val (.int p3_1), .val (.int p3_2), .val (.ref b1), .val (.long v42), .second, .unset, .unset, .unset] [])) _
        refine XS.iloadN X43.here hx rfl (hb hby d3_153) rfl ?_
        show Steps p.tables e below (T43.setTop (mkF m 154 #[.val (.int p3_0), .val (.int p3_1), .val (.int p3_2), .val (.ref b1), .val (.long v42), .second, .unset, .unset, .unset] [(.int p3_2)])) _
        refine XS.bipush X43.here hx rfl (hb hby d3_154) ?_
        exact k
      by_cases h156_62 : (18 : Int32) < p3_2
      · obtain ⟨fs, hr, hrun, hended, hW, hsame⟩ := X43.leave (v := some (.int (0 : Int32))) (fun h => by rw [Bd.returns] at h; cases h)
        refine ⟨_, _, pre0 _ ?_, hrun, hended, _, _, rfl, ?_, ⟨_, rfl⟩, hW, hsame.mono (by decide) (by decide)⟩
        · refine G40 _ ?_
          refine G43 _ ?_
          refine G44 _ ?_
          refine G59 _ ?_
          refine G61 _ ?_
          show Steps p.tables e below (T43.setTop (mkF m 156 #[.val (.int p3_0), .val (.int p3_1), .val (.int p3_2), .val (.ref b1), .val (.long v42), .second, .unset, .unset, .unset] [(.int (18 : Int32)), (.int p3_2)])) _
          refine XS.icmpNo X43.here hx rfl (hb hby d3_156) rfl (tlt h156_62).2.2.2 ?_
          show Steps p.tables e below (T43.setTop (mkF m 159 #[.val (.int p3_0), .val (.int p3_1), .val (.int p3_2), .val (.ref b1), .val (.long v42), .second, .unset, .unset, .unset] [])) _
          refine XS.iconst X43.here hx rfl (hb hby d3_159) ?_
          show Steps p.tables e below (T43.setTop (mkF m 160 #[.val (.int p3_0), .val (.int p3_1), .val (.int p3_2), .val (.ref b1), .val (.long v42), .second, .unset, .unset, .unset] [(.int (0 : Int32))])) _
          exact retN X43 hx (t := .boolean) Bd.returns (by simp) (hb hby d3_160) hr
        · show Q_rm3 Z p3_0 p3_1 p3_2 h0 n0 _ T43.heap _
          rw [e43]
          subst hv42
          exact ⟨(congrArg (fun z => some (Value.int z)) ((if_neg h146_45).trans ((if_neg h150_60).trans (if_pos h156_62))).symm), N43, K39⟩
      · obtain ⟨cl63, Ar63, qk63, Sz63, Nz63, Hh63, Gf63⟩ := id V39
        have G64 : ∀ t, Steps p.tables e below (T43.setTop (mkF m 177 #[.val (.int p3_0), .val (.int p3_1), .val (.int p3_2), .val (.ref b1), .val (.long v42), .second, .val (.long (v42 <<< (p3_0 &&& 0x3f).toInt64)), .second, .unset] [(.int (lcmpW ((4 : Int64) * (own_ten p3_2)) (v42 <<< (p3_0 &&& 0x3f).toInt64)))])) t → Steps p.tables e below (T43.setTop (mkF m 156 #[.val (.int p3_0), .val (.int p3_1), .val (.int p3_2), .val (.ref b1), .val (.long v42), .second, .unset, .unset, .unset] [(.int (18 : Int32)), (.int p3_2)])) t := by
          intro t k
          show Steps p.tables e below (T43.setTop (mkF m 156 #[.val (.int p3_0), .val (.int p3_1), .val (.int p3_2), .val (.ref b1), .val (.long v42), .second, .unset, .unset, .unset] [(.int (18 : Int32)), (.int p3_2)])) _
          refine XS.icmpYes X43.here hx rfl (pc0 := 156) (pc' := 161) rfl (hb hby d3_156) rfl (flt h156_62).2.2.2 (by decide) (by decide) ?_
          show Steps p.tables e below (T43.setTop (mkF m 161 #[.val (.int p3_0), .val (.int p3_1), .val (.int p3_2), .val (.ref b1), .val (.long v42), .second, .unset, .unset, .unset] [])) _
          refine XS.lload X43.here hx rfl (hb hby d3_161) rfl ?_
          show Steps p.tables e below (T43.setTop (mkF m 163 #[.val (.int p3_0), .val (.int p3_1), .val (.int p3_2), .val (.ref b1), .val (.long v42), .second, .unset, .unset, .unset] [(.long v42)])) _
          refine XS.iloadN X43.here hx rfl (hb hby d3_163) rfl ?_
          show Steps p.tables e below (T43.setTop (mkF m 164 #[.val (.int p3_0), .val (.int p3_1), .val (.int p3_2), .val (.ref b1), .val (.long v42), .second, .unset, .unset, .unset] [(.int p3_0), (.long v42)])) _
          refine XS.lshl X43.here hx rfl (hb hby d3_164) rfl ?_
          show Steps p.tables e below (T43.setTop (mkF m 165 #[.val (.int p3_0), .val (.int p3_1), .val (.int p3_2), .val (.ref b1), .val (.long v42), .second, .unset, .unset, .unset] [(.long (v42 <<< (p3_0 &&& 0x3f).toInt64))])) _
          refine XS.lstore X43.here hx rfl (hb hby d3_165) rfl (l' := #[.val (.int p3_0), .val (.int p3_1), .val (.int p3_2), .val (.ref b1), .val (.long v42), .second, .val (.long (v42 <<< (p3_0 &&& 0x3f).toInt64)), .second, .unset]) rfl ?_
          show Steps p.tables e below (T43.setTop (mkF m 167 #[.val (.int p3_0), .val (.int p3_1), .val (.int p3_2), .val (.ref b1), .val (.long v42), .second, .val (.long (v42 <<< (p3_0 &&& 0x3f).toInt64)), .second, .unset] [])) _
          refine X43.ldc2Long hx hown (mvT hZ (ow34 hw)) (g := (mkF m 167 #[.val (.int p3_0), .val (.int p3_1), .val (.int p3_2), .val (.ref b1), .val (.long v42), .second, .val (.long (v42 <<< (p3_0 &&& 0x3f).toInt64)), .second, .unset] [])) rfl (hb hby d3_167) _ ?_
          show Steps p.tables e below (T43.setTop (mkF m 170 #[.val (.int p3_0), .val (.int p3_1), .val (.int p3_2), .val (.ref b1), .val (.long v42), .second, .val (.long (v42 <<< (p3_0 &&& 0x3f).toInt64)), .second, .unset] [(.long (4 : Int64))])) _
          refine XS.aloadN X43.here hx rfl (hb hby d3_170) rfl rfl ?_
          show Steps p.tables e below (T43.setTop (mkF m 171 #[.val (.int p3_0), .val (.int p3_1), .val (.int p3_2), .val (.ref b1), .val (.long v42), .second, .val (.long (v42 <<< (p3_0 &&& 0x3f).toInt64)), .second, .unset] [(.ref b1), (.long (4 : Int64))])) _
          refine XS.iloadN X43.here hx rfl (hb hby d3_171) rfl ?_
          show Steps p.tables e below (T43.setTop (mkF m 172 #[.val (.int p3_0), .val (.int p3_1), .val (.int p3_2), .val (.ref b1), .val (.long v42), .second, .val (.long (v42 <<< (p3_0 &&& 0x3f).toInt64)), .second, .unset] [(.int p3_2), (.ref b1), (.long (4 : Int64))])) _
          refine X43.laload hx (j := p3_2) (v := (.long (own_ten p3_2))) (by rw [e43]; exact Ar63.1) (State.isArrayOf_alike hZ.alike Ar63.2.1) Ar63.2.2 (inb_of Sz63 ⟨h146_45, own_lt19 h156_62⟩) (Hh63.at (inb_of Sz63 ⟨h146_45, own_lt19 h156_62⟩) (own_ten_at _)) (g := (mkF m 172 #[.val (.int p3_0), .val (.int p3_1), .val (.int p3_2), .val (.ref b1), .val (.long v42), .second, .val (.long (v42 <<< (p3_0 &&& 0x3f).toInt64)), .second, .unset] [(.int p3_2), (.ref b1), (.long (4 : Int64))])) rfl rfl (hb hby d3_172) _ ?_
          show Steps p.tables e below (T43.setTop (mkF m 173 #[.val (.int p3_0), .val (.int p3_1), .val (.int p3_2), .val (.ref b1), .val (.long v42), .second, .val (.long (v42 <<< (p3_0 &&& 0x3f).toInt64)), .second, .unset] [(.long (own_ten p3_2)), (.long (4 : Int64))])) _
          refine XS.lmul X43.here hx rfl (hb hby d3_173) rfl ?_
          show Steps p.tables e below (T43.setTop (mkF m 174 #[.val (.int p3_0), .val (.int p3_1), .val (.int p3_2), .val (.ref b1), .val (.long v42), .second, .val (.long (v42 <<< (p3_0 &&& 0x3f).toInt64)), .second, .unset] [(.long ((4 : Int64) * (own_ten p3_2)))])) _
          refine XS.lload X43.here hx rfl (hb hby d3_174) rfl ?_
          show Steps p.tables e below (T43.setTop (mkF m 176 #[.val (.int p3_0), .val (.int p3_1), .val (.int p3_2), .val (.ref b1), .val (.long v42), .second, .val (.long (v42 <<< (p3_0 &&& 0x3f).toInt64)), .second, .unset] [(.long (v42 <<< (p3_0 &&& 0x3f).toInt64)), (.long ((4 : Int64) * (own_ten p3_2)))])) _
          refine XS.lcmp X43.here hx rfl (hb hby d3_176) rfl ?_
          exact k
        by_cases h177_65 : (v42 <<< (p3_0 &&& 0x3f).toInt64) < ((4 : Int64) * (own_ten p3_2))
        · obtain ⟨fs, hr, hrun, hended, hW, hsame⟩ := X43.leave (v := some (.int (0 : Int32))) (fun h => by rw [Bd.returns] at h; cases h)
          refine ⟨_, _, pre0 _ ?_, hrun, hended, _, _, rfl, ?_, ⟨_, rfl⟩, hW, hsame.mono (by decide) (by decide)⟩
          · refine G40 _ ?_
            refine G43 _ ?_
            refine G44 _ ?_
            refine G59 _ ?_
            refine G61 _ ?_
            refine G64 _ ?_
            show Steps p.tables e below (T43.setTop (mkF m 177 #[.val (.int p3_0), .val (.int p3_1), .val (.int p3_2), .val (.ref b1), .val (.long v42), .second, .val (.long (v42 <<< (p3_0 &&& 0x3f).toInt64)), .second, .unset] [(.int (lcmpW ((4 : Int64) * (own_ten p3_2)) (v42 <<< (p3_0 &&& 0x3f).toInt64)))])) _
            refine XS.ifYes X43.here hx rfl (pc0 := 177) (pc' := 197) rfl (hb hby d3_177) rfl ((if0 _ _).trans (tlt ((lw_gt _ _).mpr h177_65)).2.2.1) (by decide) (by decide) ?_
            show Steps p.tables e below (T43.setTop (mkF m 197 #[.val (.int p3_0), .val (.int p3_1), .val (.int p3_2), .val (.ref b1), .val (.long v42), .second, .val (.long (v42 <<< (p3_0 &&& 0x3f).toInt64)), .second, .unset] [])) _
            refine XS.iconst X43.here hx rfl (hb hby d3_197) ?_
            show Steps p.tables e below (T43.setTop (mkF m 198 #[.val (.int p3_0), .val (.int p3_1), .val (.int p3_2), .val (.ref b1), .val (.long v42), .second, .val (.long (v42 <<< (p3_0 &&& 0x3f).toInt64)), .second, .unset] [(.int (0 : Int32))])) _
            exact retN X43 hx (t := .boolean) Bd.returns (by simp) (hb hby d3_198) hr
          · show Q_rm3 Z p3_0 p3_1 p3_2 h0 n0 _ T43.heap _
            rw [e43]
            subst hv42
            exact ⟨(congrArg (fun z => some (Value.int z)) ((if_neg h146_45).trans ((if_neg h150_60).trans ((if_neg h156_62).trans (if_pos h177_65)))).symm), N43, K39⟩
        · obtain ⟨cl66, Ar66, qk66, Sz66, Nz66, Hh66, Gf66⟩ := id V39
          have G67 : ∀ t, Steps p.tables e below (T43.setTop (mkF m 190 #[.val (.int p3_0), .val (.int p3_1), .val (.int p3_2), .val (.ref b1), .val (.long v42), .second, .val (.long (v42 <<< (p3_0 &&& 0x3f).toInt64)), .second, .unset] [(.int (lcmpW ((v42 <<< (p3_0 &&& 0x3f).toInt64) / (40 : Int64)) (own_ten p3_2)))])) t → Steps p.tables e below (T43.setTop (mkF m 177 #[.val (.int p3_0), .val (.int p3_1), .val (.int p3_2), .val (.ref b1), .val (.long v42), .second, .val (.long (v42 <<< (p3_0 &&& 0x3f).toInt64)), .second, .unset] [(.int (lcmpW ((4 : Int64) * (own_ten p3_2)) (v42 <<< (p3_0 &&& 0x3f).toInt64)))])) t := by
            intro t k
            show Steps p.tables e below (T43.setTop (mkF m 177 #[.val (.int p3_0), .val (.int p3_1), .val (.int p3_2), .val (.ref b1), .val (.long v42), .second, .val (.long (v42 <<< (p3_0 &&& 0x3f).toInt64)), .second, .unset] [(.int (lcmpW ((4 : Int64) * (own_ten p3_2)) (v42 <<< (p3_0 &&& 0x3f).toInt64)))])) _
            refine XS.ifNo X43.here hx rfl (hb hby d3_177) rfl ((if0 _ _).trans (flt (fun q => h177_65 ((lw_gt _ _).mp q))).2.2.1) ?_
            show Steps p.tables e below (T43.setTop (mkF m 180 #[.val (.int p3_0), .val (.int p3_1), .val (.int p3_2), .val (.ref b1), .val (.long v42), .second, .val (.long (v42 <<< (p3_0 &&& 0x3f).toInt64)), .second, .unset] [])) _
            refine XS.lload X43.here hx rfl (hb hby d3_180) rfl ?_
            show Steps p.tables e below (T43.setTop (mkF m 182 #[.val (.int p3_0), .val (.int p3_1), .val (.int p3_2), .val (.ref b1), .val (.long v42), .second, .val (.long (v42 <<< (p3_0 &&& 0x3f).toInt64)), .second, .unset] [(.long (v42 <<< (p3_0 &&& 0x3f).toInt64))])) _
            refine X43.ldc2Long hx hown (mvT hZ (ow35 hw)) (g := (mkF m 182 #[.val (.int p3_0), .val (.int p3_1), .val (.int p3_2), .val (.ref b1), .val (.long v42), .second, .val (.long (v42 <<< (p3_0 &&& 0x3f).toInt64)), .second, .unset] [(.long (v42 <<< (p3_0 &&& 0x3f).toInt64))])) rfl (hb hby d3_182) _ ?_
            show Steps p.tables e below (T43.setTop (mkF m 185 #[.val (.int p3_0), .val (.int p3_1), .val (.int p3_2), .val (.ref b1), .val (.long v42), .second, .val (.long (v42 <<< (p3_0 &&& 0x3f).toInt64)), .second, .unset] [(.long (40 : Int64)), (.long (v42 <<< (p3_0 &&& 0x3f).toInt64))])) _
            refine XS.ldiv X43.here hx rfl (hb hby d3_185) rfl (by decide : ¬ ((40 : Int64) = (0 : Int64))) ?_
            show Steps p.tables e below (T43.setTop (mkF m 186 #[.val (.int p3_0), .val (.int p3_1), .val (.int p3_2), .val (.ref b1), .val (.long v42), .second, .val (.long (v42 <<< (p3_0 &&& 0x3f).toInt64)), .second, .unset] [(.long ((v42 <<< (p3_0 &&& 0x3f).toInt64) / (40 : Int64)))])) _
            refine XS.aloadN X43.here hx rfl (hb hby d3_186) rfl rfl ?_
            show Steps p.tables e below (T43.setTop (mkF m 187 #[.val (.int p3_0), .val (.int p3_1), .val (.int p3_2), .val (.ref b1), .val (.long v42), .second, .val (.long (v42 <<< (p3_0 &&& 0x3f).toInt64)), .second, .unset] [(.ref b1), (.long ((v42 <<< (p3_0 &&& 0x3f).toInt64) / (40 : Int64)))])) _
            refine XS.iloadN X43.here hx rfl (hb hby d3_187) rfl ?_
            show Steps p.tables e below (T43.setTop (mkF m 188 #[.val (.int p3_0), .val (.int p3_1), .val (.int p3_2), .val (.ref b1), .val (.long v42), .second, .val (.long (v42 <<< (p3_0 &&& 0x3f).toInt64)), .second, .unset] [(.int p3_2), (.ref b1), (.long ((v42 <<< (p3_0 &&& 0x3f).toInt64) / (40 : Int64)))])) _
            refine X43.laload hx (j := p3_2) (v := (.long (own_ten p3_2))) (by rw [e43]; exact Ar66.1) (State.isArrayOf_alike hZ.alike Ar66.2.1) Ar66.2.2 (inb_of Sz66 ⟨h146_45, own_lt19 h156_62⟩) (Hh66.at (inb_of Sz66 ⟨h146_45, own_lt19 h156_62⟩) (own_ten_at _)) (g := (mkF m 188 #[.val (.int p3_0), .val (.int p3_1), .val (.int p3_2), .val (.ref b1), .val (.long v42), .second, .val (.long (v42 <<< (p3_0 &&& 0x3f).toInt64)), .second, .unset] [(.int p3_2), (.ref b1), (.long ((v42 <<< (p3_0 &&& 0x3f).toInt64) / (40 : Int64)))])) rfl rfl (hb hby d3_188) _ ?_
            show Steps p.tables e below (T43.setTop (mkF m 189 #[.val (.int p3_0), .val (.int p3_1), .val (.int p3_2), .val (.ref b1), .val (.long v42), .second, .val (.long (v42 <<< (p3_0 &&& 0x3f).toInt64)), .second, .unset] [(.long (own_ten p3_2)), (.long ((v42 <<< (p3_0 &&& 0x3f).toInt64) / (40 : Int64)))])) _
            refine XS.lcmp X43.here hx rfl (hb hby d3_189) rfl ?_
            exact k
          by_cases h190_68 : ((v42 <<< (p3_0 &&& 0x3f).toInt64) / (40 : Int64)) < (own_ten p3_2)
          · obtain ⟨fs, hr, hrun, hended, hW, hsame⟩ := X43.leave (v := some (.int (1 : Int32))) (fun h => by rw [Bd.returns] at h; cases h)
            refine ⟨_, _, pre0 _ ?_, hrun, hended, _, _, rfl, ?_, ⟨_, rfl⟩, hW, hsame.mono (by decide) (by decide)⟩
            · refine G40 _ ?_
              refine G43 _ ?_
              refine G44 _ ?_
              refine G59 _ ?_
              refine G61 _ ?_
              refine G64 _ ?_
              refine G67 _ ?_
              show Steps p.tables e below (T43.setTop (mkF m 190 #[.val (.int p3_0), .val (.int p3_1), .val (.int p3_2), .val (.ref b1), .val (.long v42), .second, .val (.long (v42 <<< (p3_0 &&& 0x3f).toInt64)), .second, .unset] [(.int (lcmpW ((v42 <<< (p3_0 &&& 0x3f).toInt64) / (40 : Int64)) (own_ten p3_2)))])) _
              refine XS.ifNo X43.here hx rfl (hb hby d3_190) rfl ((if0 _ _).trans (tlt ((lw_lt _ _).mpr h190_68)).2.1) ?_
              show Steps p.tables e below (T43.setTop (mkF m 193 #[.val (.int p3_0), .val (.int p3_1), .val (.int p3_2), .val (.ref b1), .val (.long v42), .second, .val (.long (v42 <<< (p3_0 &&& 0x3f).toInt64)), .second, .unset] [])) _
              refine XS.iconst X43.here hx rfl (hb hby d3_193) ?_
              show Steps p.tables e below (T43.setTop (mkF m 194 #[.val (.int p3_0), .val (.int p3_1), .val (.int p3_2), .val (.ref b1), .val (.long v42), .second, .val (.long (v42 <<< (p3_0 &&& 0x3f).toInt64)), .second, .unset] [(.int (1 : Int32))])) _
              refine XS.goto X43.here hx rfl (pc0 := 194) (pc' := 198) rfl (hb hby d3_194) (by decide) (by decide) ?_
              show Steps p.tables e below (T43.setTop (mkF m 198 #[.val (.int p3_0), .val (.int p3_1), .val (.int p3_2), .val (.ref b1), .val (.long v42), .second, .val (.long (v42 <<< (p3_0 &&& 0x3f).toInt64)), .second, .unset] [(.int (1 : Int32))])) _
              exact retN X43 hx (t := .boolean) Bd.returns (by simp) (hb hby d3_198) hr
            · show Q_rm3 Z p3_0 p3_1 p3_2 h0 n0 _ T43.heap _
              rw [e43]
              subst hv42
              exact ⟨(congrArg (fun z => some (Value.int z)) ((if_neg h146_45).trans ((if_neg h150_60).trans ((if_neg h156_62).trans ((if_neg h177_65).trans (if_pos h190_68))))).symm), N43, K39⟩
          · obtain ⟨fs, hr, hrun, hended, hW, hsame⟩ := X43.leave (v := some (.int (0 : Int32))) (fun h => by rw [Bd.returns] at h; cases h)
            refine ⟨_, _, pre0 _ ?_, hrun, hended, _, _, rfl, ?_, ⟨_, rfl⟩, hW, hsame.mono (by decide) (by decide)⟩
            · refine G40 _ ?_
              refine G43 _ ?_
              refine G44 _ ?_
              refine G59 _ ?_
              refine G61 _ ?_
              refine G64 _ ?_
              refine G67 _ ?_
              show Steps p.tables e below (T43.setTop (mkF m 190 #[.val (.int p3_0), .val (.int p3_1), .val (.int p3_2), .val (.ref b1), .val (.long v42), .second, .val (.long (v42 <<< (p3_0 &&& 0x3f).toInt64)), .second, .unset] [(.int (lcmpW ((v42 <<< (p3_0 &&& 0x3f).toInt64) / (40 : Int64)) (own_ten p3_2)))])) _
              refine XS.ifYes X43.here hx rfl (pc0 := 190) (pc' := 197) rfl (hb hby d3_190) rfl ((if0 _ _).trans (flt (fun q => h190_68 ((lw_lt _ _).mp q))).2.1) (by decide) (by decide) ?_
              show Steps p.tables e below (T43.setTop (mkF m 197 #[.val (.int p3_0), .val (.int p3_1), .val (.int p3_2), .val (.ref b1), .val (.long v42), .second, .val (.long (v42 <<< (p3_0 &&& 0x3f).toInt64)), .second, .unset] [])) _
              refine XS.iconst X43.here hx rfl (hb hby d3_197) ?_
              show Steps p.tables e below (T43.setTop (mkF m 198 #[.val (.int p3_0), .val (.int p3_1), .val (.int p3_2), .val (.ref b1), .val (.long v42), .second, .val (.long (v42 <<< (p3_0 &&& 0x3f).toInt64)), .second, .unset] [(.int (0 : Int32))])) _
              exact retN X43 hx (t := .boolean) Bd.returns (by simp) (hb hby d3_198) hr
            · show Q_rm3 Z p3_0 p3_1 p3_2 h0 n0 _ T43.heap _
              rw [e43]
              subst hv42
              exact ⟨(congrArg (fun z => some (Value.int z)) ((if_neg h146_45).trans ((if_neg h150_60).trans ((if_neg h156_62).trans ((if_neg h177_65).trans (if_neg h190_68))))).symm), N43, K39⟩
theorem pd__IZ_I : parseMethodDescriptor "(IZ)I" = some ⟨[.int, .boolean], some .int⟩ := by decide +kernel
theorem pd__I_I : parseMethodDescriptor "(I)I" = some ⟨[.int], some .int⟩ := by decide +kernel
theorem own_p41 : ((2 ^ 41 : Nat) : Int) = 2199023255552 := by decide
theorem own_p18 : ((2 ^ 18 : Nat) : Int) = 262144 := by decide
theorem own_kint (q : Int32) (c : Int64) (C : Int) (hc : c.toInt = C) (h1 : -1300 ≤ q.toInt) (h2 : q.toInt ≤ 1300) (h3 : -274743187321 ≤ C) (h4 : C ≤ 0) :
    (((((q.toInt64) * (661971961084 : Int64)) + c) >>> ((41 : Int32) &&& 0x3f).toInt64).toInt32).toInt = (q.toInt * 661971961084 + C) / 2199023255552 := by
  have a1 := c_lmul q.toInt64 (661971961084 : Int64)
  rw [c_i2l, show (661971961084 : Int64).toInt = 661971961084 from by decide] at a1
  have r1 := rng64 (q.toInt64 * (661971961084 : Int64))
  have a2 := c_ladd (q.toInt64 * (661971961084 : Int64)) c
  rw [hc] at a2
  have r2 := rng64 ((q.toInt64 * (661971961084 : Int64)) + c)
  have a3 := c_lshr ((q.toInt64 * (661971961084 : Int64)) + c) (41 : Int32) 41 (by decide)
  rw [own_p41] at a3
  have a4 := c_l2i (((q.toInt64 * (661971961084 : Int64)) + c) >>> ((41 : Int32) &&& 0x3f).toInt64)
  have r4 := rng32 ((((q.toInt64 * (661971961084 : Int64)) + c) >>> ((41 : Int32) &&& 0x3f).toInt64).toInt32)
  have b1 : (q.toInt64 * (661971961084 : Int64)).toInt = q.toInt * 661971961084 := by omega
  rw [b1] at a2
  have b2 : (q.toInt64 * (661971961084 : Int64) + c).toInt = q.toInt * 661971961084 + C := by omega
  rw [b2] at a3
  rw [a3] at a4
  obtain ⟨num, hn⟩ : ∃ z : Int, z = q.toInt * 661971961084 + C := ⟨_, rfl⟩
  rw [← hn] at a4 ⊢
  have n1 : -900000000000000 ≤ num ∧ num ≤ 900000000000000 := by clear a1 a2 a3 a4 r1 r2 r4 b1 b2; omega
  have y1 : -4000 ≤ num / 2199023255552 ∧ num / 2199023255552 ≤ 4000 := by clear a1 a2 a3 a4 r1 r2 r4 b1 b2 hn h1 h2 h3 h4 hc; omega
  generalize num / 2199023255552 = Y at a4 y1 ⊢
  generalize ((((q.toInt64 * (661971961084 : Int64)) + c) >>> ((41 : Int32) &&& 0x3f).toInt64).toInt32).toInt = W at a4 r4 ⊢
  clear a1 a2 a3 r1 r2 b1 b2 hn h1 h2 h3 h4 hc n1
  omega
def own_fl (e : Int) : Int := if e < 0 then -((-e * 78913) / 262144) - 1 else (e * 78913) / 262144
theorem own_fpos (e : Int32) (h1 : 0 ≤ e.toInt) (h2 : e.toInt ≤ 1300) : ((((e.toInt64) * (78913 : Int64)) >>> ((18 : Int32) &&& 0x3f).toInt64).toInt32).toInt = (e.toInt * 78913) / 262144 := by
  have a1 := c_lmul e.toInt64 (78913 : Int64)
  rw [c_i2l, show (78913 : Int64).toInt = 78913 from by decide] at a1
  have r1 := rng64 (e.toInt64 * (78913 : Int64))
  have a3 := c_lshr (e.toInt64 * (78913 : Int64)) (18 : Int32) 18 (by decide)
  rw [own_p18] at a3
  have a4 := c_l2i ((e.toInt64 * (78913 : Int64)) >>> ((18 : Int32) &&& 0x3f).toInt64)
  have r4 := rng32 (((e.toInt64 * (78913 : Int64)) >>> ((18 : Int32) &&& 0x3f).toInt64).toInt32)
  have b1 : (e.toInt64 * (78913 : Int64)).toInt = e.toInt * 78913 := by omega
  rw [b1] at a3
  rw [a3] at a4
  omega
theorem own_flint (e : Int32) (h1 : -1300 ≤ e.toInt) (h2 : e.toInt ≤ 1300) : (if e < (0 : Int32) then ((-(((((-e).toInt64) * (78913 : Int64)) >>> ((18 : Int32) &&& 0x3f).toInt64).toInt32)) - (1 : Int32)) else ((((e.toInt64) * (78913 : Int64)) >>> ((18 : Int32) &&& 0x3f).toInt64).toInt32)).toInt = own_fl e.toInt := by
  by_cases hs : e < (0 : Int32)
  · have hs' := hs
    rw [Int32.lt_iff_toInt_lt, show (0 : Int32).toInt = 0 from by decide] at hs'
    rw [if_pos hs, own_fl, if_pos hs']
    have n1 := c_ineg e
    have n2 := rng32 (-e)
    have n3 : (-e).toInt = -e.toInt := by omega
    have f := own_fpos (-e) (by omega) (by omega)
    rw [n3] at f
    have g1 := c_ineg (((((-e).toInt64) * (78913 : Int64)) >>> ((18 : Int32) &&& 0x3f).toInt64).toInt32)
    have g2 := rng32 (-(((((-e).toInt64) * (78913 : Int64)) >>> ((18 : Int32) &&& 0x3f).toInt64).toInt32))
    have g3 := c_isub (-(((((-e).toInt64) * (78913 : Int64)) >>> ((18 : Int32) &&& 0x3f).toInt64).toInt32)) (1 : Int32)
    have g4 := rng32 ((-(((((-e).toInt64) * (78913 : Int64)) >>> ((18 : Int32) &&& 0x3f).toInt64).toInt32)) - (1 : Int32))
    rw [show (1 : Int32).toInt = 1 from by decide] at g3
    rw [f] at g1
    omega
  · have hs' := hs
    rw [Int32.lt_iff_toInt_lt, show (0 : Int32).toInt = 0 from by decide] at hs'
    rw [if_neg hs, own_fl, if_neg hs']
    exact own_fpos e (by omega) h2
def own_ok (q : Int) : Bool := decide ((q * 661971961084 + 0) / 2199023255552 = own_fl q) && decide (own_fl (q - 1) ≤ (q * 661971961084 + -274743187321) / 2199023255552) && decide ((q * 661971961084 + -274743187321) / 2199023255552 ≤ own_fl q)
theorem own_ok_all : ∀ i j : Fin 49, own_ok ((49 * i.val + j.val : Nat) - 1200) = true := by decide +kernel
theorem own_wide (p0_0 : Int32) (p0_1 : Int32) (p0_2 : Int32) (v4 : Int32) (hv4 : v4 = (if (p0_2 &&& (1 : Int32)) = (0 : Int32) then (0 : Int32) else (1 : Int32))) (v9 : Int32) (hv9 : v9 = (if (p0_2 &&& (2 : Int32)) = (0 : Int32) then (0 : Int32) else (1 : Int32))) (x12 : Int32) (hx12 : x12 = (p0_0 % (1201 : Int32))) (x14 : Int32) (hx14 : x14 = ((((p0_1 % (120 : Int32)) + (120 : Int32)) % (120 : Int32)) - (59 : Int32))) (x17 : Int32) (hx17 : x17 = (((((x12.toInt64) * (661971961084 : Int64)) + (if v4 = (0 : Int32) then (0 : Int64) else (-274743187321 : Int64))) >>> ((41 : Int32) &&& 0x3f).toInt64).toInt32)) (x20 : Int32) (hx20 : x20 = (((((x14.toInt64) * (661971961084 : Int64)) + (if v9 = (0 : Int32) then (0 : Int64) else (-274743187321 : Int64))) >>> ((41 : Int32) &&& 0x3f).toInt64).toInt32)) (v38 : Int32) (hv38 : v38 = (if v4 = (0 : Int32) then (if x17 = (if x12 < (0 : Int32) then ((-(((((-x12).toInt64) * (78913 : Int64)) >>> ((18 : Int32) &&& 0x3f).toInt64).toInt32)) - (1 : Int32)) else ((((x12.toInt64) * (78913 : Int64)) >>> ((18 : Int32) &&& 0x3f).toInt64).toInt32)) then (1 : Int32) else (0 : Int32)) else (if x17 < (if (x12 - (1 : Int32)) < (0 : Int32) then ((-(((((-(x12 - (1 : Int32))).toInt64) * (78913 : Int64)) >>> ((18 : Int32) &&& 0x3f).toInt64).toInt32)) - (1 : Int32)) else (((((x12 - (1 : Int32)).toInt64) * (78913 : Int64)) >>> ((18 : Int32) &&& 0x3f).toInt64).toInt32)) then (0 : Int32) else (if (if x12 < (0 : Int32) then ((-(((((-x12).toInt64) * (78913 : Int64)) >>> ((18 : Int32) &&& 0x3f).toInt64).toInt32)) - (1 : Int32)) else ((((x12.toInt64) * (78913 : Int64)) >>> ((18 : Int32) &&& 0x3f).toInt64).toInt32)) < x17 then (0 : Int32) else (1 : Int32))))) : ¬ (v38 = (0 : Int32)) := by
  have hq := (c_irem p0_0 (1201 : Int32) 1201 (by decide))
  rw [← hx12] at hq
  have rq := rng32 p0_0
  have b1 : -1200 ≤ x12.toInt ∧ x12.toInt ≤ 1200 := by
    by_cases s : 0 ≤ p0_0.toInt
    · have := hq.1 s; omega
    · have := hq.2 (by omega); omega
  have e1 : own_ok x12.toInt = true := by
    have e2 := own_ok_all ⟨(x12.toInt + 1200).toNat / 49, by omega⟩ ⟨(x12.toInt + 1200).toNat % 49, by omega⟩
    have e3 : ((49 * ((x12.toInt + 1200).toNat / 49) + (x12.toInt + 1200).toNat % 49 : Nat) : Int) - 1200 = x12.toInt := by omega
    rw [← e3]; exact e2
  rw [own_ok, Bool.and_eq_true, Bool.and_eq_true, decide_eq_true_eq, decide_eq_true_eq, decide_eq_true_eq] at e1
  have f1 := own_flint x12 (by omega) (by omega)
  have s1 := c_isub x12 (1 : Int32)
  have s2 := rng32 (x12 - (1 : Int32))
  rw [show (1 : Int32).toInt = 1 from by decide] at s1
  have s3 : (x12 - (1 : Int32)).toInt = x12.toInt - 1 := by omega
  have f2 := own_flint (x12 - (1 : Int32)) (by omega) (by omega)
  rw [s3] at f2
  rw [hv38]
  by_cases hb : v4 = (0 : Int32)
  · rw [if_pos hb] at hx17
    have kk := own_kint x12 (0 : Int64) 0 (by decide) (by omega) (by omega) (by omega) (by omega)
    rw [← hx17] at kk
    have hk : x17 = (if x12 < (0 : Int32) then ((-(((((-x12).toInt64) * (78913 : Int64)) >>> ((18 : Int32) &&& 0x3f).toInt64).toInt32)) - (1 : Int32)) else ((((x12.toInt64) * (78913 : Int64)) >>> ((18 : Int32) &&& 0x3f).toInt64).toInt32)) := Int32.toInt_inj.mp (by rw [f1, kk]; exact e1.1.1)
    rw [if_pos hb, if_pos hk]; decide
  · rw [if_neg hb] at hx17
    have kk := own_kint x12 (-274743187321 : Int64) (-274743187321) (by decide) (by omega) (by omega) (by omega) (by omega)
    rw [← hx17] at kk
    have hk1 : ¬ x17 < (if (x12 - (1 : Int32)) < (0 : Int32) then ((-(((((-(x12 - (1 : Int32))).toInt64) * (78913 : Int64)) >>> ((18 : Int32) &&& 0x3f).toInt64).toInt32)) - (1 : Int32)) else (((((x12 - (1 : Int32)).toInt64) * (78913 : Int64)) >>> ((18 : Int32) &&& 0x3f).toInt64).toInt32)) := by rw [Int32.lt_iff_toInt_lt, f2, kk]; exact Int.not_lt.mpr e1.1.2
    have hk2 : ¬ (if x12 < (0 : Int32) then ((-(((((-x12).toInt64) * (78913 : Int64)) >>> ((18 : Int32) &&& 0x3f).toInt64).toInt32)) - (1 : Int32)) else ((((x12.toInt64) * (78913 : Int64)) >>> ((18 : Int32) &&& 0x3f).toInt64).toInt32)) < x17 := by rw [Int32.lt_iff_toInt_lt, f1, kk]; exact Int.not_lt.mpr e1.2
    rw [if_neg hb, if_neg hk1, if_neg hk2]; decide
theorem pd__IZI_Z : parseMethodDescriptor "(IZI)Z" = some ⟨[.int, .boolean, .int], some .boolean⟩ := by decide +kernel
def own_exE (own_q own_b own_k : Int32) : Int32 := (if own_k < (0 : Int32) then (if (2 : Int32) < own_q then (0 : Int32) else (if (-own_k) < (1 : Int32) then (0 : Int32) else (if (18 : Int32) < (-own_k) then (0 : Int32) else (if ((if own_b = (0 : Int32) then (4 : Int64) else (3 : Int64)) * (own_ten (-own_k))) < ((1 : Int64) <<< (((2 : Int32) - own_q) &&& 0x3f).toInt64) then (0 : Int32) else (if ((if own_b = (0 : Int32) then (4 : Int64) else (3 : Int64)) * (own_ten ((-own_k) - (1 : Int32)))) < ((1 : Int64) <<< (((2 : Int32) - own_q) &&& 0x3f).toInt64) then (1 : Int32) else (0 : Int32)))))) else (if own_q < (0 : Int32) then (0 : Int32) else (if (18 : Int32) < own_k then (0 : Int32) else (if ((if own_b = (0 : Int32) then (4 : Int64) else (3 : Int64)) <<< (own_q &&& 0x3f).toInt64) < ((4 : Int64) * (own_ten own_k)) then (0 : Int32) else (if (((if own_b = (0 : Int32) then (4 : Int64) else (3 : Int64)) <<< (own_q &&& 0x3f).toInt64) / (40 : Int64)) < (own_ten own_k) then (1 : Int32) else (0 : Int32))))))
theorem own_ex0 : ∀ (i : Fin 10) (j : Fin 12), ¬ (own_exE (Int32.ofInt (((12 * i.val + j.val : Nat) : Int) - 59)) (0 : Int32) (Int32.ofInt (((((12 * i.val + j.val : Nat) : Int) - 59) * 661971961084 + 0) / 2199023255552)) = (0 : Int32)) := by decide +kernel
theorem own_ex1 : ∀ (i : Fin 10) (j : Fin 12), ¬ (own_exE (Int32.ofInt (((12 * i.val + j.val : Nat) : Int) - 59)) (1 : Int32) (Int32.ofInt (((((12 * i.val + j.val : Nat) : Int) - 59) * 661971961084 + -274743187321) / 2199023255552)) = (0 : Int32)) := by decide +kernel
theorem own_fin (p0_0 : Int32) (p0_1 : Int32) (p0_2 : Int32) (v4 : Int32) (hv4 : v4 = (if (p0_2 &&& (1 : Int32)) = (0 : Int32) then (0 : Int32) else (1 : Int32))) (v9 : Int32) (hv9 : v9 = (if (p0_2 &&& (2 : Int32)) = (0 : Int32) then (0 : Int32) else (1 : Int32))) (x12 : Int32) (hx12 : x12 = (p0_0 % (1201 : Int32))) (x14 : Int32) (hx14 : x14 = ((((p0_1 % (120 : Int32)) + (120 : Int32)) % (120 : Int32)) - (59 : Int32))) (x17 : Int32) (hx17 : x17 = (((((x12.toInt64) * (661971961084 : Int64)) + (if v4 = (0 : Int32) then (0 : Int64) else (-274743187321 : Int64))) >>> ((41 : Int32) &&& 0x3f).toInt64).toInt32)) (x20 : Int32) (hx20 : x20 = (((((x14.toInt64) * (661971961084 : Int64)) + (if v9 = (0 : Int32) then (0 : Int64) else (-274743187321 : Int64))) >>> ((41 : Int32) &&& 0x3f).toInt64).toInt32)) (v38 : Int32) (hv38 : v38 = (if v4 = (0 : Int32) then (if x17 = (if x12 < (0 : Int32) then ((-(((((-x12).toInt64) * (78913 : Int64)) >>> ((18 : Int32) &&& 0x3f).toInt64).toInt32)) - (1 : Int32)) else ((((x12.toInt64) * (78913 : Int64)) >>> ((18 : Int32) &&& 0x3f).toInt64).toInt32)) then (1 : Int32) else (0 : Int32)) else (if x17 < (if (x12 - (1 : Int32)) < (0 : Int32) then ((-(((((-(x12 - (1 : Int32))).toInt64) * (78913 : Int64)) >>> ((18 : Int32) &&& 0x3f).toInt64).toInt32)) - (1 : Int32)) else (((((x12 - (1 : Int32)).toInt64) * (78913 : Int64)) >>> ((18 : Int32) &&& 0x3f).toInt64).toInt32)) then (0 : Int32) else (if (if x12 < (0 : Int32) then ((-(((((-x12).toInt64) * (78913 : Int64)) >>> ((18 : Int32) &&& 0x3f).toInt64).toInt32)) - (1 : Int32)) else ((((x12.toInt64) * (78913 : Int64)) >>> ((18 : Int32) &&& 0x3f).toInt64).toInt32)) < x17 then (0 : Int32) else (1 : Int32))))) (x42 : Int32) (hx42 : x42 = (if x20 < (0 : Int32) then (if (2 : Int32) < x14 then (0 : Int32) else (if (-x20) < (1 : Int32) then (0 : Int32) else (if (18 : Int32) < (-x20) then (0 : Int32) else (if ((if v9 = (0 : Int32) then (4 : Int64) else (3 : Int64)) * (own_ten (-x20))) < ((1 : Int64) <<< (((2 : Int32) - x14) &&& 0x3f).toInt64) then (0 : Int32) else (if ((if v9 = (0 : Int32) then (4 : Int64) else (3 : Int64)) * (own_ten ((-x20) - (1 : Int32)))) < ((1 : Int64) <<< (((2 : Int32) - x14) &&& 0x3f).toInt64) then (1 : Int32) else (0 : Int32)))))) else (if x14 < (0 : Int32) then (0 : Int32) else (if (18 : Int32) < x20 then (0 : Int32) else (if ((if v9 = (0 : Int32) then (4 : Int64) else (3 : Int64)) <<< (x14 &&& 0x3f).toInt64) < ((4 : Int64) * (own_ten x20)) then (0 : Int32) else (if (((if v9 = (0 : Int32) then (4 : Int64) else (3 : Int64)) <<< (x14 &&& 0x3f).toInt64) / (40 : Int64)) < (own_ten x20) then (1 : Int32) else (0 : Int32))))))) (v45 : Int32) (hv45 : v45 = (if x42 = (0 : Int32) then (0 : Int32) else (1 : Int32))) : v45 = (1 : Int32) := by
  have h1 := (c_irem p0_1 (120 : Int32) 120 (by decide))
  have h2 := c_iadd (p0_1 % (120 : Int32)) (120 : Int32)
  have h3 := (c_irem ((p0_1 % (120 : Int32)) + (120 : Int32)) (120 : Int32) 120 (by decide))
  have h4 := c_isub (((p0_1 % (120 : Int32)) + (120 : Int32)) % (120 : Int32)) (59 : Int32)
  rw [← hx14] at h4
  rw [show (120 : Int32).toInt = 120 from by decide] at h2
  rw [show (59 : Int32).toInt = 59 from by decide] at h4
  have r0 := rng32 p0_1
  have r2 := rng32 ((p0_1 % (120 : Int32)) + (120 : Int32))
  have r4 := rng32 x14
  have b1 : -59 ≤ x14.toInt ∧ x14.toInt ≤ 60 := by
    by_cases s : 0 ≤ p0_1.toInt
    · have a1 := h1.1 s
      have a3 := h3.1 (by omega)
      omega
    · have a1 := h1.2 (by omega)
      have a3 := h3.1 (by omega)
      omega
  have e1 : ∃ (i : Fin 10) (j : Fin 12), x14.toInt = ((12 * i.val + j.val : Nat) : Int) - 59 :=
    ⟨⟨(x14.toInt + 59).toNat / 12, by omega⟩, ⟨(x14.toInt + 59).toNat % 12, by omega⟩, by dsimp only; omega⟩
  obtain ⟨i, j, hij⟩ := e1
  have e4 : x14 = Int32.ofInt (((12 * i.val + j.val : Nat) : Int) - 59) := by rw [← hij]; exact (Int32.ofInt_toInt x14).symm
  by_cases hb : v9 = (0 : Int32)
  · rw [if_pos hb] at hx20
    have kk := own_kint x14 (0 : Int64) 0 (by decide) (by omega) (by omega) (by omega) (by omega)
    rw [← hx20, hij] at kk
    have e5 : x20 = Int32.ofInt (((((12 * i.val + j.val : Nat) : Int) - 59) * 661971961084 + 0) / 2199023255552) := by rw [← kk]; exact (Int32.ofInt_toInt x20).symm
    have hw := own_ex0 i j
    rw [← e4, ← e5] at hw
    rw [hv45, hx42, hb]
    exact if_neg hw
  · rw [if_neg hb] at hx20
    have hb1 : v9 = (1 : Int32) := by
      rw [hv9] at hb ⊢
      split
      · rename_i h
        rw [if_pos h] at hb
        exact absurd rfl hb
      · rfl
    have kk := own_kint x14 (-274743187321 : Int64) (-274743187321) (by decide) (by omega) (by omega) (by omega) (by omega)
    rw [← hx20, hij] at kk
    have e5 : x20 = Int32.ofInt (((((12 * i.val + j.val : Nat) : Int) - 59) * 661971961084 + -274743187321) / 2199023255552) := by rw [← kk]; exact (Int32.ofInt_toInt x20).symm
    have hw := own_ex1 i j
    rw [← e4, ← e5] at hw
    rw [hv45, hx42, hb1]
    exact if_neg hw
theorem pn_0 : plainName "com/example/telemetree/telemetree/io/ShortestDecimalIntervalExponentPinLaw" = true := by first | (simp [plainName, overriddenIn]; done) | decide +kernel
theorem ef_rm0 (m : MethodId) (y0 : Int32) (y1 : Int32) (y2 : Int32) : entryFrame m #[(.int y0), (.int y1), (.int y2)] maxLocals = mkF m 0 #[.val (.int y0), .val (.int y1), .val (.int y2), .unset, .unset, .unset, .unset, .unset, .unset, .unset] [] := by first | (simp [entryFrame, mkF, argsToLocals, Value.category, maxLocals]; done) | rfl
def Q_rm0 (Z : State) (p0_0 : Int32) (p0_1 : Int32) (p0_2 : Int32) (h0 : Heap) (n0 : Nat) (v : Option Value) (h : Heap) (L : List Loc) : Prop := v = some (.int (1 : Int32)) ∧ Fr n0 L
set_option maxRecDepth 65536 in
set_option maxHeartbeats 40000000 in
theorem rm0 (l : Launch) (Z : State) (a0 : Array Value) (hw : ∀ d ∈ tables_1, d.before a0 Z = true) (ws : List Jvm.Cond) (p0_0 : Int32) (p0_1 : Int32) (p0_2 : Int32) (h0 : Heap) (n0 : Nat) (Z0 : n0 ≤ h0.size) :
    MetFree l x (head1 (Jvm.Cond.code x code maxLocals ret :: ws) room_1) (fun a U => a = #[(.int p0_0), (.int p0_1), (.int p0_2)] ∧ Z.Warmed39 U.vm ∧ U.heap = h0) (fun _ _ _ _ _ => True) (fun _ U o U' => ∃ v L, o = .returned v ∧ Q_rm0 Z p0_0 p0_1 p0_2 h0 n0 v U'.heap L ∧ FrameEnd U o U' L 16 128) := by
  refine MetFree.of_bodySF (plainFor_of_name pn_0) hisR ?_
  intro p e s m args below meth c s₁ Bd hml0 hP hK
  obtain ⟨rfl, hZ, hh⟩ := hP
  have hx := Bd.exec
  have hby := Bd.bytes
  have hml : c.maxLocals = 10 := hml0
  have hown : s.vm.findClass "com/example/telemetree/telemetree/io/ShortestDecimalIntervalExponentPinLaw" = some m.cls := findClass_of_methodNamed Bd.named
  have hnm := (name_of_methodNamed Bd.named Bd.method).1
  have X0 : Stand p l e room_1 s m #[(.int p0_0), (.int p0_1), (.int p0_2)] below meth c s₁ [] 0 0 := Stand.of_body Bd
  have e0 : s₁.heap = h0 := by rw [← hh, Bd.state]; rfl
  have N0 := Fr.nil n0
  have pre0 : ∀ t, Steps p.tables e below (s₁.setTop (mkF m 0 #[.val (.int p0_0), .val (.int p0_1), .val (.int p0_2), .unset, .unset, .unset, .unset, .unset, .unset, .unset] [])) t → Steps p.tables e below (s₁.setTop (entryFrame m #[(.int p0_0), (.int p0_1), (.int p0_2)] maxLocals)) t := fun t k => castTop (ef_rm0 m p0_0 p0_1 p0_2) k
  let A1 : Array Slot := #[.val (.int p0_0), .val (.int p0_1), .val (.int p0_2), .unset, .unset, .unset, .unset, .unset, .unset, .unset]
  have G2 : ∀ t, Steps p.tables e below (s₁.setTop (mkF m 3 A1 [(.int (p0_2 &&& (1 : Int32)))])) t → Steps p.tables e below (s₁.setTop (mkF m 0 A1 [])) t := by
    intro t k
    show Steps p.tables e below (s₁.setTop (mkF m 0 A1 [])) _
    refine XS.iloadN X0.here hx rfl (hb hby at_0) rfl ?_
    show Steps p.tables e below (s₁.setTop (mkF m 1 A1 [(.int p0_2)])) _
    refine XS.iconst X0.here hx rfl (hb hby at_1) ?_
    show Steps p.tables e below (s₁.setTop (mkF m 2 A1 [(.int (1 : Int32)), (.int p0_2)])) _
    refine XS.iand X0.here hx rfl (hb hby at_2) rfl ?_
    exact k
  obtain ⟨v4, hv4⟩ : ∃ z : Int32, z = (if (p0_2 &&& (1 : Int32)) = (0 : Int32) then (0 : Int32) else (1 : Int32)) := ⟨_, rfl⟩
  obtain ⟨T5, Lo5, X5, N5, e5, G5⟩ := own_join X0 N0 (h := h0) (mkF m 3 A1 [(.int (p0_2 &&& (1 : Int32)))]) (mkF m 11 A1 [(.int v4)]) (by
    by_cases h3_3 : (p0_2 &&& (1 : Int32)) = (0 : Int32)
    · refine ⟨s₁, _, X0, N0, e0, fun t k => ?_⟩
      rw [show v4 = (0 : Int32) from hv4.trans (if_pos h3_3)] at k
      show Steps p.tables e below (s₁.setTop (mkF m 3 A1 [(.int (p0_2 &&& (1 : Int32)))])) _
      refine XS.ifYes X0.here hx rfl (pc0 := 3) (pc' := 10) rfl (hb hby at_3) rfl ((if0 _ _).trans (teq h3_3).1) (by decide) (by decide) ?_
      show Steps p.tables e below (s₁.setTop (mkF m 10 A1 [])) _
      refine XS.iconst X0.here hx rfl (hb hby at_10) ?_
      exact k
    · refine ⟨s₁, _, X0, N0, e0, fun t k => ?_⟩
      rw [show v4 = (1 : Int32) from hv4.trans (if_neg h3_3)] at k
      show Steps p.tables e below (s₁.setTop (mkF m 3 A1 [(.int (p0_2 &&& (1 : Int32)))])) _
      refine XS.ifNo X0.here hx rfl (hb hby at_3) rfl ((if0 _ _).trans (feq h3_3).1) ?_
      show Steps p.tables e below (s₁.setTop (mkF m 6 A1 [])) _
      refine XS.iconst X0.here hx rfl (hb hby at_6) ?_
      show Steps p.tables e below (s₁.setTop (mkF m 7 A1 [(.int (1 : Int32))])) _
      refine XS.goto X0.here hx rfl (pc0 := 7) (pc' := 11) rfl (hb hby at_7) (by decide) (by decide) ?_
      exact k)
  let A6 : Array Slot := #[.val (.int p0_0), .val (.int p0_1), .val (.int p0_2), .val (.int v4), .unset, .unset, .unset, .unset, .unset, .unset]
  have G7 : ∀ t, Steps p.tables e below (T5.setTop (mkF m 15 A6 [(.int (p0_2 &&& (2 : Int32)))])) t → Steps p.tables e below (T5.setTop (mkF m 11 A1 [(.int v4)])) t := by
    intro t k
    show Steps p.tables e below (T5.setTop (mkF m 11 A1 [(.int v4)])) _
    refine XS.istoreN X5.here hx rfl (hb hby at_11) rfl (l' := A6) rfl ?_
    show Steps p.tables e below (T5.setTop (mkF m 12 A6 [])) _
    refine XS.iloadN X5.here hx rfl (hb hby at_12) rfl ?_
    show Steps p.tables e below (T5.setTop (mkF m 13 A6 [(.int p0_2)])) _
    refine XS.iconst X5.here hx rfl (hb hby at_13) ?_
    show Steps p.tables e below (T5.setTop (mkF m 14 A6 [(.int (2 : Int32)), (.int p0_2)])) _
    refine XS.iand X5.here hx rfl (hb hby at_14) rfl ?_
    exact k
  obtain ⟨v9, hv9⟩ : ∃ z : Int32, z = (if (p0_2 &&& (2 : Int32)) = (0 : Int32) then (0 : Int32) else (1 : Int32)) := ⟨_, rfl⟩
  obtain ⟨T10, Lo10, X10, N10, e10, G10⟩ := own_join X5 N5 (h := h0) (mkF m 15 A6 [(.int (p0_2 &&& (2 : Int32)))]) (mkF m 23 A6 [(.int v9)]) (by
    by_cases h15_8 : (p0_2 &&& (2 : Int32)) = (0 : Int32)
    · refine ⟨T5, _, X5, N5, e5, fun t k => ?_⟩
      rw [show v9 = (0 : Int32) from hv9.trans (if_pos h15_8)] at k
      show Steps p.tables e below (T5.setTop (mkF m 15 A6 [(.int (p0_2 &&& (2 : Int32)))])) _
      refine XS.ifYes X5.here hx rfl (pc0 := 15) (pc' := 22) rfl (hb hby at_15) rfl ((if0 _ _).trans (teq h15_8).1) (by decide) (by decide) ?_
      show Steps p.tables e below (T5.setTop (mkF m 22 A6 [])) _
      refine XS.iconst X5.here hx rfl (hb hby at_22) ?_
      exact k
    · refine ⟨T5, _, X5, N5, e5, fun t k => ?_⟩
      rw [show v9 = (1 : Int32) from hv9.trans (if_neg h15_8)] at k
      show Steps p.tables e below (T5.setTop (mkF m 15 A6 [(.int (p0_2 &&& (2 : Int32)))])) _
      refine XS.ifNo X5.here hx rfl (hb hby at_15) rfl ((if0 _ _).trans (feq h15_8).1) ?_
      show Steps p.tables e below (T5.setTop (mkF m 18 A6 [])) _
      refine XS.iconst X5.here hx rfl (hb hby at_18) ?_
      show Steps p.tables e below (T5.setTop (mkF m 19 A6 [(.int (1 : Int32))])) _
      refine XS.goto X5.here hx rfl (pc0 := 19) (pc' := 23) rfl (hb hby at_19) (by decide) (by decide) ?_
      exact k)
  let A11 : Array Slot := #[.val (.int p0_0), .val (.int p0_1), .val (.int p0_2), .val (.int v4), .val (.int v9), .unset, .unset, .unset, .unset, .unset]
  obtain ⟨x12, hx12⟩ : ∃ z : Int32, z = (p0_0 % (1201 : Int32)) := ⟨_, rfl⟩
  let A13 : Array Slot := #[.val (.int p0_0), .val (.int p0_1), .val (.int p0_2), .val (.int v4), .val (.int v9), .val (.int x12), .unset, .unset, .unset, .unset]
  obtain ⟨x14, hx14⟩ : ∃ z : Int32, z = ((((p0_1 % (120 : Int32)) + (120 : Int32)) % (120 : Int32)) - (59 : Int32)) := ⟨_, rfl⟩
  let A15 : Array Slot := #[.val (.int p0_0), .val (.int p0_1), .val (.int p0_2), .val (.int v4), .val (.int v9), .val (.int x12), .val (.int x14), .unset, .unset, .unset]
  obtain ⟨_, _, ⟨T16, L16, k16, n16⟩, -, X16, ⟨Lc16, hQ16, l16, y16, z16⟩, st16⟩ := Jvm.LawKit.callS X10 hx (y := (⟨"com/example/telemetree/telemetree/io/ShortestDecimal", "intervalExponent", "(IZ)I"⟩ : MethodName)) hown (mvT hZ (ow0 hw)) (mvT hZ (ow1 hw)) (mvT hZ (ow2 hw)) (mvT hZ (ow3 hw)) (by decide) (backOf (W := 0) (rm1 l Z a0 hw [] x12 v4 h0 n0 Z0 ) hZ (ow3 hw) (ow2 hw) (by decide) (by decide)) (g := (mkF m 50 A15 [(.int v4), (.int x12)])) rfl (by rw [hml]; rfl) (argsL := [(.int x12), (.int v4)]) (rest := []) (lenOf pd__IZ_I rfl) rfl (by show 2 * 0 + _ ≤ _; exact Nat.le_of_eq rfl) (hb hby at_50) (fun _ _ => ⟨rfl, e10, (by decide : 0 + 0 ≤ _), (by decide : 0 + 0 ≤ _)⟩)
  dsimp only [Pt.U, Pt.locs, Pt.cells, Pt.slots] at X16 l16 y16 z16 st16 hQ16
  subst l16 y16 z16
  obtain ⟨rfl, Nq16, e16⟩ := hQ16
  have N16 := Fr.app N10 Nq16
  obtain ⟨x17, hx17⟩ : ∃ z : Int32, z = (((((x12.toInt64) * (661971961084 : Int64)) + (if v4 = (0 : Int32) then (0 : Int64) else (-274743187321 : Int64))) >>> ((41 : Int32) &&& 0x3f).toInt64).toInt32) := ⟨_, rfl⟩
  let A18 : Array Slot := #[.val (.int p0_0), .val (.int p0_1), .val (.int p0_2), .val (.int v4), .val (.int v9), .val (.int x12), .val (.int x14), .val (.int x17), .unset, .unset]
  obtain ⟨_, _, ⟨T19, L19, k19, n19⟩, -, X19, ⟨Lc19, hQ19, l19, y19, z19⟩, st19⟩ := Jvm.LawKit.callS X16 hx (y := (⟨"com/example/telemetree/telemetree/io/ShortestDecimal", "intervalExponent", "(IZ)I"⟩ : MethodName)) hown (mvT hZ (ow0 hw)) (mvT hZ (ow1 hw)) (mvT hZ (ow2 hw)) (mvT hZ (ow3 hw)) (by decide) (backOf (W := 0) (rm1 l Z a0 hw [] x14 v9 h0 n0 Z0 ) hZ (ow3 hw) (ow2 hw) (by decide) (by decide)) (g := (mkF m 59 A18 [(.int v9), (.int x14)])) rfl (by rw [hml]; rfl) (argsL := [(.int x14), (.int v9)]) (rest := []) (lenOf pd__IZ_I rfl) rfl (by show 2 * 0 + _ ≤ _; exact Nat.le_of_eq rfl) (hb hby at_59) (fun _ _ => ⟨rfl, e16, (by decide : 0 + 0 ≤ _), (by decide : 0 + 0 ≤ _)⟩)
  dsimp only [Pt.U, Pt.locs, Pt.cells, Pt.slots] at X19 l19 y19 z19 st19 hQ19
  subst l19 y19 z19
  obtain ⟨rfl, Nq19, e19⟩ := hQ19
  have N19 := Fr.app N16 Nq19
  obtain ⟨x20, hx20⟩ : ∃ z : Int32, z = (((((x14.toInt64) * (661971961084 : Int64)) + (if v9 = (0 : Int32) then (0 : Int64) else (-274743187321 : Int64))) >>> ((41 : Int32) &&& 0x3f).toInt64).toInt32) := ⟨_, rfl⟩
  let A21 : Array Slot := #[.val (.int p0_0), .val (.int p0_1), .val (.int p0_2), .val (.int v4), .val (.int v9), .val (.int x12), .val (.int x14), .val (.int x17), .val (.int x20), .unset]
  have G22 : ∀ t, Steps p.tables e below (T19.setTop (mkF m 65 A21 [(.int v4)])) t → Steps p.tables e below (T10.setTop (mkF m 23 A6 [(.int v9)])) t := by
    intro t k
    show Steps p.tables e below (T10.setTop (mkF m 23 A6 [(.int v9)])) _
    refine XS.istore X10.here hx rfl (hb hby at_23) rfl (l' := A11) rfl ?_
    show Steps p.tables e below (T10.setTop (mkF m 25 A11 [])) _
    refine XS.iloadN X10.here hx rfl (hb hby at_25) rfl ?_
    show Steps p.tables e below (T10.setTop (mkF m 26 A11 [(.int p0_0)])) _
    refine XS.sipush X10.here hx rfl (hb hby at_26) ?_
    show Steps p.tables e below (T10.setTop (mkF m 29 A11 [(.int (1201 : Int32)), (.int p0_0)])) _
    refine iremM X10 hx rfl (hb hby at_29) rfl (by decide : ¬ ((1201 : Int32) = (0 : Int32))) ?_
    show Steps p.tables e below (T10.setTop (mkF m 30 A11 [(.int (p0_0 % (1201 : Int32)))])) _
    refine XS.istore X10.here hx rfl (hb hby at_30) rfl (l' := #[.val (.int p0_0), .val (.int p0_1), .val (.int p0_2), .val (.int v4), .val (.int v9), .val (.int (p0_0 % (1201 : Int32))), .unset, .unset, .unset, .unset]) rfl ?_
    show Steps p.tables e below (T10.setTop (mkF m 32 #[.val (.int p0_0), .val (.int p0_1), .val (.int p0_2), .val (.int v4), .val (.int v9), .val (.int (p0_0 % (1201 : Int32))), .unset, .unset, .unset, .unset] [])) _
    rw [← hx12]
    show Steps p.tables e below (T10.setTop (mkF m 32 A13 [])) _
    refine XS.iloadN X10.here hx rfl (hb hby at_32) rfl ?_
    show Steps p.tables e below (T10.setTop (mkF m 33 A13 [(.int p0_1)])) _
    refine XS.bipush X10.here hx rfl (hb hby at_33) ?_
    show Steps p.tables e below (T10.setTop (mkF m 35 A13 [(.int (120 : Int32)), (.int p0_1)])) _
    refine iremM X10 hx rfl (hb hby at_35) rfl (by decide : ¬ ((120 : Int32) = (0 : Int32))) ?_
    show Steps p.tables e below (T10.setTop (mkF m 36 A13 [(.int (p0_1 % (120 : Int32)))])) _
    refine XS.bipush X10.here hx rfl (hb hby at_36) ?_
    show Steps p.tables e below (T10.setTop (mkF m 38 A13 [(.int (120 : Int32)), (.int (p0_1 % (120 : Int32)))])) _
    refine XS.iadd X10.here hx rfl (hb hby at_38) rfl ?_
    show Steps p.tables e below (T10.setTop (mkF m 39 A13 [(.int ((p0_1 % (120 : Int32)) + (120 : Int32)))])) _
    refine XS.bipush X10.here hx rfl (hb hby at_39) ?_
    show Steps p.tables e below (T10.setTop (mkF m 41 A13 [(.int (120 : Int32)), (.int ((p0_1 % (120 : Int32)) + (120 : Int32)))])) _
    refine iremM X10 hx rfl (hb hby at_41) rfl (by decide : ¬ ((120 : Int32) = (0 : Int32))) ?_
    show Steps p.tables e below (T10.setTop (mkF m 42 A13 [(.int (((p0_1 % (120 : Int32)) + (120 : Int32)) % (120 : Int32)))])) _
    refine XS.bipush X10.here hx rfl (hb hby at_42) ?_
    show Steps p.tables e below (T10.setTop (mkF m 44 A13 [(.int (59 : Int32)), (.int (((p0_1 % (120 : Int32)) + (120 : Int32)) % (120 : Int32)))])) _
    refine XS.isub X10.here hx rfl (hb hby at_44) rfl ?_
    show Steps p.tables e below (T10.setTop (mkF m 45 A13 [(.int ((((p0_1 % (120 : Int32)) + (120 : Int32)) % (120 : Int32)) - (59 : Int32)))])) _
    refine XS.istore X10.here hx rfl (hb hby at_45) rfl (l' := #[.val (.int p0_0), .val (.int p0_1), .val (.int p0_2), .val (.int v4), .val (.int v9), .val (.int x12), .val (.int ((((p0_1 % (120 : Int32)) + (120 : Int32)) % (120 : Int32)) - (59 : Int32))), .unset, .unset, .unset]) rfl ?_
    show Steps p.tables e below (T10.setTop (mkF m 47 #[.val (.int p0_0), .val (.int p0_1), .val (.int p0_2), .val (.int v4), .val (.int v9), .val (.int x12), .val (.int ((((p0_1 % (120 : Int32)) + (120 : Int32)) % (120 : Int32)) - (59 : Int32))), .unset, .unset, .unset] [])) _
    rw [← hx14]
    show Steps p.tables e below (T10.setTop (mkF m 47 A15 [])) _
    refine XS.iload X10.here hx rfl (hb hby at_47) rfl ?_
    show Steps p.tables e below (T10.setTop (mkF m 49 A15 [(.int x12)])) _
    refine XS.iloadN X10.here hx rfl (hb hby at_49) rfl ?_
    show Steps p.tables e below (T10.setTop (mkF m 50 A15 [(.int v4), (.int x12)])) _
    refine st16 _ ?_
    show Steps p.tables e below (T16.setTop (mkF m 53 #[.val (.int p0_0), .val (.int p0_1), .val (.int p0_2), .val (.int v4), .val (.int v9), .val (.int x12), .val (.int x14), .unset, .unset, .unset] [(.int (((((x12.toInt64) * (661971961084 : Int64)) + (if v4 = (0 : Int32) then (0 : Int64) else (-274743187321 : Int64))) >>> ((41 : Int32) &&& 0x3f).toInt64).toInt32))])) _
    rw [← hx17]
    show Steps p.tables e below (T16.setTop (mkF m 53 A15 [(.int x17)])) _
    refine XS.istore X16.here hx rfl (hb hby at_53) rfl (l' := A18) rfl ?_
    show Steps p.tables e below (T16.setTop (mkF m 55 A18 [])) _
    refine XS.iload X16.here hx rfl (hb hby at_55) rfl ?_
    show Steps p.tables e below (T16.setTop (mkF m 57 A18 [(.int x14)])) _
    refine XS.iload X16.here hx rfl (hb hby at_57) rfl ?_
    show Steps p.tables e below (T16.setTop (mkF m 59 A18 [(.int v9), (.int x14)])) _
    refine st19 _ ?_
    show Steps p.tables e below (T19.setTop (mkF m 62 #[.val (.int p0_0), .val (.int p0_1), .val (.int p0_2), .val (.int v4), .val (.int v9), .val (.int x12), .val (.int x14), .val (.int x17), .unset, .unset] [(.int (((((x14.toInt64) * (661971961084 : Int64)) + (if v9 = (0 : Int32) then (0 : Int64) else (-274743187321 : Int64))) >>> ((41 : Int32) &&& 0x3f).toInt64).toInt32))])) _
    rw [← hx20]
    show Steps p.tables e below (T19.setTop (mkF m 62 A18 [(.int x20)])) _
    refine XS.istore X19.here hx rfl (hb hby at_62) rfl (l' := A21) rfl ?_
    show Steps p.tables e below (T19.setTop (mkF m 64 A21 [])) _
    refine XS.iloadN X19.here hx rfl (hb hby at_64) rfl ?_
    exact k
  obtain ⟨v38, hv38⟩ : ∃ z : Int32, z = (if v4 = (0 : Int32) then (if x17 = (if x12 < (0 : Int32) then ((-(((((-x12).toInt64) * (78913 : Int64)) >>> ((18 : Int32) &&& 0x3f).toInt64).toInt32)) - (1 : Int32)) else ((((x12.toInt64) * (78913 : Int64)) >>> ((18 : Int32) &&& 0x3f).toInt64).toInt32)) then (1 : Int32) else (0 : Int32)) else (if x17 < (if (x12 - (1 : Int32)) < (0 : Int32) then ((-(((((-(x12 - (1 : Int32))).toInt64) * (78913 : Int64)) >>> ((18 : Int32) &&& 0x3f).toInt64).toInt32)) - (1 : Int32)) else (((((x12 - (1 : Int32)).toInt64) * (78913 : Int64)) >>> ((18 : Int32) &&& 0x3f).toInt64).toInt32)) then (0 : Int32) else (if (if x12 < (0 : Int32) then ((-(((((-x12).toInt64) * (78913 : Int64)) >>> ((18 : Int32) &&& 0x3f).toInt64).toInt32)) - (1 : Int32)) else ((((x12.toInt64) * (78913 : Int64)) >>> ((18 : Int32) &&& 0x3f).toInt64).toInt32)) < x17 then (0 : Int32) else (1 : Int32)))) := ⟨_, rfl⟩
  obtain ⟨T39, Lo39, X39, N39, e39, G39⟩ := own_join X19 N19 (h := h0) (mkF m 65 A21 [(.int v4)]) (mkF m 117 #[.val (.int p0_0), .val (.int p0_1), .val (.int p0_2), .val (.int v4), .val (.int v9), .val (.int x12), .val (.int x14), .val (.int x17), .val (.int x20), .val (.int v38)] []) (by
    by_cases h65_23 : v4 = (0 : Int32)
    · obtain ⟨_, _, ⟨T24, L24, k24, n24⟩, -, X24, ⟨Lc24, hQ24, l24, y24, z24⟩, st24⟩ := Jvm.LawKit.callS X19 hx (y := (⟨"com/example/telemetree/telemetree/io/ShortestDecimalIntervalExponentPinLaw", "floorLog10Pow2", "(I)I"⟩ : MethodName)) hown (mvT hZ (ow6 hw)) (mvT hZ (ow7 hw)) (mvT hZ (ow8 hw)) (mvT hZ (ow9 hw)) (by decide) (backOf (W := 1) (rm2 l Z a0 hw [] x12 h0 n0 Z0 ) hZ (ow9 hw) (ow8 hw) (by decide) (by decide)) (g := (mkF m 104 A21 [(.int x12), (.int x17)])) rfl (by rw [hml]; rfl) (argsL := [(.int x12)]) (rest := [(.int x17)]) (lenOf pd__I_I rfl) rfl (by show 2 * 0 + _ ≤ _; exact Nat.le_of_eq rfl) (hb hby at_104) (fun _ _ => ⟨rfl, e19, (by decide : 0 + 0 ≤ _), (by decide : 0 + 0 ≤ _)⟩)
      dsimp only [Pt.U, Pt.locs, Pt.cells, Pt.slots] at X24 l24 y24 z24 st24 hQ24
      subst l24 y24 z24
      obtain ⟨rfl, Nq24, e24⟩ := hQ24
      have N24 := Fr.app N19 Nq24
      have G25 : ∀ t, Steps p.tables e below (T24.setTop (mkF m 107 A21 [(.int (if x12 < (0 : Int32) then ((-(((((-x12).toInt64) * (78913 : Int64)) >>> ((18 : Int32) &&& 0x3f).toInt64).toInt32)) - (1 : Int32)) else ((((x12.toInt64) * (78913 : Int64)) >>> ((18 : Int32) &&& 0x3f).toInt64).toInt32))), (.int x17)])) t → Steps p.tables e below (T19.setTop (mkF m 65 A21 [(.int v4)])) t := by
        intro t k
        show Steps p.tables e below (T19.setTop (mkF m 65 A21 [(.int v4)])) _
        refine XS.ifYes X19.here hx rfl (pc0 := 65) (pc' := 100) rfl (hb hby at_65) rfl ((if0 _ _).trans (teq h65_23).1) (by decide) (by decide) ?_
        show Steps p.tables e below (T19.setTop (mkF m 100 A21 [])) _
        refine XS.iload X19.here hx rfl (hb hby at_100) rfl ?_
        show Steps p.tables e below (T19.setTop (mkF m 102 A21 [(.int x17)])) _
        refine XS.iload X19.here hx rfl (hb hby at_102) rfl ?_
        show Steps p.tables e below (T19.setTop (mkF m 104 A21 [(.int x12), (.int x17)])) _
        refine st24 _ ?_
        exact k
      by_cases h107_26 : x17 = (if x12 < (0 : Int32) then ((-(((((-x12).toInt64) * (78913 : Int64)) >>> ((18 : Int32) &&& 0x3f).toInt64).toInt32)) - (1 : Int32)) else ((((x12.toInt64) * (78913 : Int64)) >>> ((18 : Int32) &&& 0x3f).toInt64).toInt32))
      · let A27 : Array Slot := #[.val (.int p0_0), .val (.int p0_1), .val (.int p0_2), .val (.int v4), .val (.int v9), .val (.int x12), .val (.int x14), .val (.int x17), .val (.int x20), .val (.int (1 : Int32))]
        refine ⟨T24, _, X24, N24, e24, fun t k => ?_⟩
        rw [show v38 = (1 : Int32) from hv38.trans ((if_pos h65_23).trans (if_pos h107_26))] at k
        refine G25 _ ?_
        show Steps p.tables e below (T24.setTop (mkF m 107 A21 [(.int (if x12 < (0 : Int32) then ((-(((((-x12).toInt64) * (78913 : Int64)) >>> ((18 : Int32) &&& 0x3f).toInt64).toInt32)) - (1 : Int32)) else ((((x12.toInt64) * (78913 : Int64)) >>> ((18 : Int32) &&& 0x3f).toInt64).toInt32))), (.int x17)])) _
        refine XS.icmpNo X24.here hx rfl (hb hby at_107) rfl (teq h107_26).2 ?_
        show Steps p.tables e below (T24.setTop (mkF m 110 A21 [])) _
        refine XS.iconst X24.here hx rfl (hb hby at_110) ?_
        show Steps p.tables e below (T24.setTop (mkF m 111 A21 [(.int (1 : Int32))])) _
        refine XS.goto X24.here hx rfl (pc0 := 111) (pc' := 115) rfl (hb hby at_111) (by decide) (by decide) ?_
        show Steps p.tables e below (T24.setTop (mkF m 115 A21 [(.int (1 : Int32))])) _
        refine XS.istore X24.here hx rfl (hb hby at_115) rfl (l' := A27) rfl ?_
        exact k
      · let A28 : Array Slot := #[.val (.int p0_0), .val (.int p0_1), .val (.int p0_2), .val (.int v4), .val (.int v9), .val (.int x12), .val (.int x14), .val (.int x17), .val (.int x20), .val (.int (0 : Int32))]
        refine ⟨T24, _, X24, N24, e24, fun t k => ?_⟩
        rw [show v38 = (0 : Int32) from hv38.trans ((if_pos h65_23).trans (if_neg h107_26))] at k
        refine G25 _ ?_
        show Steps p.tables e below (T24.setTop (mkF m 107 A21 [(.int (if x12 < (0 : Int32) then ((-(((((-x12).toInt64) * (78913 : Int64)) >>> ((18 : Int32) &&& 0x3f).toInt64).toInt32)) - (1 : Int32)) else ((((x12.toInt64) * (78913 : Int64)) >>> ((18 : Int32) &&& 0x3f).toInt64).toInt32))), (.int x17)])) _
        refine XS.icmpYes X24.here hx rfl (pc0 := 107) (pc' := 114) rfl (hb hby at_107) rfl (feq h107_26).2 (by decide) (by decide) ?_
        show Steps p.tables e below (T24.setTop (mkF m 114 A21 [])) _
        refine XS.iconst X24.here hx rfl (hb hby at_114) ?_
        show Steps p.tables e below (T24.setTop (mkF m 115 A21 [(.int (0 : Int32))])) _
        refine XS.istore X24.here hx rfl (hb hby at_115) rfl (l' := A28) rfl ?_
        exact k
    · obtain ⟨_, _, ⟨T29, L29, k29, n29⟩, -, X29, ⟨Lc29, hQ29, l29, y29, z29⟩, st29⟩ := Jvm.LawKit.callS X19 hx (y := (⟨"com/example/telemetree/telemetree/io/ShortestDecimalIntervalExponentPinLaw", "floorLog10Pow2", "(I)I"⟩ : MethodName)) hown (mvT hZ (ow6 hw)) (mvT hZ (ow7 hw)) (mvT hZ (ow8 hw)) (mvT hZ (ow9 hw)) (by decide) (backOf (W := 0) (rm2 l Z a0 hw [] (x12 - (1 : Int32)) h0 n0 Z0 ) hZ (ow9 hw) (ow8 hw) (by decide) (by decide)) (g := (mkF m 72 A21 [(.int (x12 - (1 : Int32)))])) rfl (by rw [hml]; rfl) (argsL := [(.int (x12 - (1 : Int32)))]) (rest := []) (lenOf pd__I_I rfl) rfl (by show 2 * 0 + _ ≤ _; exact Nat.le_of_eq rfl) (hb hby at_72) (fun _ _ => ⟨rfl, e19, (by decide : 0 + 0 ≤ _), (by decide : 0 + 0 ≤ _)⟩)
      dsimp only [Pt.U, Pt.locs, Pt.cells, Pt.slots] at X29 l29 y29 z29 st29 hQ29
      subst l29 y29 z29
      obtain ⟨rfl, Nq29, e29⟩ := hQ29
      have N29 := Fr.app N19 Nq29
      have G30 : ∀ t, Steps p.tables e below (T29.setTop (mkF m 77 A21 [(.int x17), (.int (if (x12 - (1 : Int32)) < (0 : Int32) then ((-(((((-(x12 - (1 : Int32))).toInt64) * (78913 : Int64)) >>> ((18 : Int32) &&& 0x3f).toInt64).toInt32)) - (1 : Int32)) else (((((x12 - (1 : Int32)).toInt64) * (78913 : Int64)) >>> ((18 : Int32) &&& 0x3f).toInt64).toInt32)))])) t → Steps p.tables e below (T19.setTop (mkF m 65 A21 [(.int v4)])) t := by
        intro t k
        show Steps p.tables e below (T19.setTop (mkF m 65 A21 [(.int v4)])) _
        refine XS.ifNo X19.here hx rfl (hb hby at_65) rfl ((if0 _ _).trans (feq h65_23).1) ?_
        show Steps p.tables e below (T19.setTop (mkF m 68 A21 [])) _
        refine XS.iload X19.here hx rfl (hb hby at_68) rfl ?_
        show Steps p.tables e below (T19.setTop (mkF m 70 A21 [(.int x12)])) _
        refine XS.iconst X19.here hx rfl (hb hby at_70) ?_
        show Steps p.tables e below (T19.setTop (mkF m 71 A21 [(.int (1 : Int32)), (.int x12)])) _
        refine XS.isub X19.here hx rfl (hb hby at_71) rfl ?_
        show Steps p.tables e below (T19.setTop (mkF m 72 A21 [(.int (x12 - (1 : Int32)))])) _
        refine st29 _ ?_
        show Steps p.tables e below (T29.setTop (mkF m 75 A21 [(.int (if (x12 - (1 : Int32)) < (0 : Int32) then ((-(((((-(x12 - (1 : Int32))).toInt64) * (78913 : Int64)) >>> ((18 : Int32) &&& 0x3f).toInt64).toInt32)) - (1 : Int32)) else (((((x12 - (1 : Int32)).toInt64) * (78913 : Int64)) >>> ((18 : Int32) &&& 0x3f).toInt64).toInt32)))])) _
        refine XS.iload X29.here hx rfl (hb hby at_75) rfl ?_
        exact k
      by_cases h77_31 : x17 < (if (x12 - (1 : Int32)) < (0 : Int32) then ((-(((((-(x12 - (1 : Int32))).toInt64) * (78913 : Int64)) >>> ((18 : Int32) &&& 0x3f).toInt64).toInt32)) - (1 : Int32)) else (((((x12 - (1 : Int32)).toInt64) * (78913 : Int64)) >>> ((18 : Int32) &&& 0x3f).toInt64).toInt32))
      · let A32 : Array Slot := #[.val (.int p0_0), .val (.int p0_1), .val (.int p0_2), .val (.int v4), .val (.int v9), .val (.int x12), .val (.int x14), .val (.int x17), .val (.int x20), .val (.int (0 : Int32))]
        refine ⟨T29, _, X29, N29, e29, fun t k => ?_⟩
        rw [show v38 = (0 : Int32) from hv38.trans ((if_neg h65_23).trans (if_pos h77_31))] at k
        refine G30 _ ?_
        show Steps p.tables e below (T29.setTop (mkF m 77 A21 [(.int x17), (.int (if (x12 - (1 : Int32)) < (0 : Int32) then ((-(((((-(x12 - (1 : Int32))).toInt64) * (78913 : Int64)) >>> ((18 : Int32) &&& 0x3f).toInt64).toInt32)) - (1 : Int32)) else (((((x12 - (1 : Int32)).toInt64) * (78913 : Int64)) >>> ((18 : Int32) &&& 0x3f).toInt64).toInt32)))])) _
        refine XS.icmpYes X29.here hx rfl (pc0 := 77) (pc' := 94) rfl (hb hby at_77) rfl (tlt h77_31).2.2.1 (by decide) (by decide) ?_
        show Steps p.tables e below (T29.setTop (mkF m 94 A21 [])) _
        refine XS.iconst X29.here hx rfl (hb hby at_94) ?_
        show Steps p.tables e below (T29.setTop (mkF m 95 A21 [(.int (0 : Int32))])) _
        refine XS.istore X29.here hx rfl (hb hby at_95) rfl (l' := A32) rfl ?_
        show Steps p.tables e below (T29.setTop (mkF m 97 A32 [])) _
        refine XS.goto X29.here hx rfl (pc0 := 97) (pc' := 117) rfl (hb hby at_97) (by decide) (by decide) ?_
        exact k
      · obtain ⟨_, _, ⟨T33, L33, k33, n33⟩, -, X33, ⟨Lc33, hQ33, l33, y33, z33⟩, st33⟩ := Jvm.LawKit.callS X29 hx (y := (⟨"com/example/telemetree/telemetree/io/ShortestDecimalIntervalExponentPinLaw", "floorLog10Pow2", "(I)I"⟩ : MethodName)) hown (mvT hZ (ow6 hw)) (mvT hZ (ow7 hw)) (mvT hZ (ow8 hw)) (mvT hZ (ow9 hw)) (by decide) (backOf (W := 1) (rm2 l Z a0 hw [] x12 h0 n0 Z0 ) hZ (ow9 hw) (ow8 hw) (by decide) (by decide)) (g := (mkF m 84 A21 [(.int x12), (.int x17)])) rfl (by rw [hml]; rfl) (argsL := [(.int x12)]) (rest := [(.int x17)]) (lenOf pd__I_I rfl) rfl (by show 2 * 0 + _ ≤ _; exact Nat.le_of_eq rfl) (hb hby at_84) (fun _ _ => ⟨rfl, e29, (by decide : 0 + 0 ≤ _), (by decide : 0 + 0 ≤ _)⟩)
        dsimp only [Pt.U, Pt.locs, Pt.cells, Pt.slots] at X33 l33 y33 z33 st33 hQ33
        subst l33 y33 z33
        obtain ⟨rfl, Nq33, e33⟩ := hQ33
        have N33 := Fr.app N29 Nq33
        have G34 : ∀ t, Steps p.tables e below (T33.setTop (mkF m 87 A21 [(.int (if x12 < (0 : Int32) then ((-(((((-x12).toInt64) * (78913 : Int64)) >>> ((18 : Int32) &&& 0x3f).toInt64).toInt32)) - (1 : Int32)) else ((((x12.toInt64) * (78913 : Int64)) >>> ((18 : Int32) &&& 0x3f).toInt64).toInt32))), (.int x17)])) t → Steps p.tables e below (T29.setTop (mkF m 77 A21 [(.int x17), (.int (if (x12 - (1 : Int32)) < (0 : Int32) then ((-(((((-(x12 - (1 : Int32))).toInt64) * (78913 : Int64)) >>> ((18 : Int32) &&& 0x3f).toInt64).toInt32)) - (1 : Int32)) else (((((x12 - (1 : Int32)).toInt64) * (78913 : Int64)) >>> ((18 : Int32) &&& 0x3f).toInt64).toInt32)))])) t := by
          intro t k
          show Steps p.tables e below (T29.setTop (mkF m 77 A21 [(.int x17), (.int (if (x12 - (1 : Int32)) < (0 : Int32) then ((-(((((-(x12 - (1 : Int32))).toInt64) * (78913 : Int64)) >>> ((18 : Int32) &&& 0x3f).toInt64).toInt32)) - (1 : Int32)) else (((((x12 - (1 : Int32)).toInt64) * (78913 : Int64)) >>> ((18 : Int32) &&& 0x3f).toInt64).toInt32)))])) _
          refine XS.icmpNo X29.here hx rfl (hb hby at_77) rfl (flt h77_31).2.2.1 ?_
          show Steps p.tables e below (T29.setTop (mkF m 80 A21 [])) _
          refine XS.iload X29.here hx rfl (hb hby at_80) rfl ?_
          show Steps p.tables e below (T29.setTop (mkF m 82 A21 [(.int x17)])) _
          refine XS.iload X29.here hx rfl (hb hby at_82) rfl ?_
          show Steps p.tables e below (T29.setTop (mkF m 84 A21 [(.int x12), (.int x17)])) _
          refine st33 _ ?_
          exact k
        by_cases h87_35 : (if x12 < (0 : Int32) then ((-(((((-x12).toInt64) * (78913 : Int64)) >>> ((18 : Int32) &&& 0x3f).toInt64).toInt32)) - (1 : Int32)) else ((((x12.toInt64) * (78913 : Int64)) >>> ((18 : Int32) &&& 0x3f).toInt64).toInt32)) < x17
        · let A36 : Array Slot := #[.val (.int p0_0), .val (.int p0_1), .val (.int p0_2), .val (.int v4), .val (.int v9), .val (.int x12), .val (.int x14), .val (.int x17), .val (.int x20), .val (.int (0 : Int32))]
          refine ⟨T33, _, X33, N33, e33, fun t k => ?_⟩
          rw [show v38 = (0 : Int32) from hv38.trans ((if_neg h65_23).trans ((if_neg h77_31).trans (if_pos h87_35)))] at k
          refine G30 _ ?_
          refine G34 _ ?_
          show Steps p.tables e below (T33.setTop (mkF m 87 A21 [(.int (if x12 < (0 : Int32) then ((-(((((-x12).toInt64) * (78913 : Int64)) >>> ((18 : Int32) &&& 0x3f).toInt64).toInt32)) - (1 : Int32)) else ((((x12.toInt64) * (78913 : Int64)) >>> ((18 : Int32) &&& 0x3f).toInt64).toInt32))), (.int x17)])) _
          refine XS.icmpYes X33.here hx rfl (pc0 := 87) (pc' := 94) rfl (hb hby at_87) rfl (tlt h87_35).2.2.1 (by decide) (by decide) ?_
          show Steps p.tables e below (T33.setTop (mkF m 94 A21 [])) _
          refine XS.iconst X33.here hx rfl (hb hby at_94) ?_
          show Steps p.tables e below (T33.setTop (mkF m 95 A21 [(.int (0 : Int32))])) _
          refine XS.istore X33.here hx rfl (hb hby at_95) rfl (l' := A36) rfl ?_
          show Steps p.tables e below (T33.setTop (mkF m 97 A36 [])) _
          refine XS.goto X33.here hx rfl (pc0 := 97) (pc' := 117) rfl (hb hby at_97) (by decide) (by decide) ?_
          exact k
        · let A37 : Array Slot := #[.val (.int p0_0), .val (.int p0_1), .val (.int p0_2), .val (.int v4), .val (.int v9), .val (.int x12), .val (.int x14), .val (.int x17), .val (.int x20), .val (.int (1 : Int32))]
          refine ⟨T33, _, X33, N33, e33, fun t k => ?_⟩
          rw [show v38 = (1 : Int32) from hv38.trans ((if_neg h65_23).trans ((if_neg h77_31).trans (if_neg h87_35)))] at k
          refine G30 _ ?_
          refine G34 _ ?_
          show Steps p.tables e below (T33.setTop (mkF m 87 A21 [(.int (if x12 < (0 : Int32) then ((-(((((-x12).toInt64) * (78913 : Int64)) >>> ((18 : Int32) &&& 0x3f).toInt64).toInt32)) - (1 : Int32)) else ((((x12.toInt64) * (78913 : Int64)) >>> ((18 : Int32) &&& 0x3f).toInt64).toInt32))), (.int x17)])) _
          refine XS.icmpNo X33.here hx rfl (hb hby at_87) rfl (flt h87_35).2.2.1 ?_
          show Steps p.tables e below (T33.setTop (mkF m 90 A21 [])) _
          refine XS.iconst X33.here hx rfl (hb hby at_90) ?_
          show Steps p.tables e below (T33.setTop (mkF m 91 A21 [(.int (1 : Int32))])) _
          refine XS.goto X33.here hx rfl (pc0 := 91) (pc' := 95) rfl (hb hby at_91) (by decide) (by decide) ?_
          show Steps p.tables e below (T33.setTop (mkF m 95 A21 [(.int (1 : Int32))])) _
          refine XS.istore X33.here hx rfl (hb hby at_95) rfl (l' := A37) rfl ?_
          show Steps p.tables e below (T33.setTop (mkF m 97 A37 [])) _
          refine XS.goto X33.here hx rfl (pc0 := 97) (pc' := 117) rfl (hb hby at_97) (by decide) (by decide) ?_
          exact k)
  let A40 : Array Slot := #[.val (.int p0_0), .val (.int p0_1), .val (.int p0_2), .val (.int v4), .val (.int v9), .val (.int x12), .val (.int x14), .val (.int x17), .val (.int x20), .val (.int v38)]
  obtain ⟨_, _, ⟨T41, L41, k41, n41⟩, -, X41, ⟨Lc41, hQ41, l41, y41, z41⟩, st41⟩ := Jvm.LawKit.callS X39 hx (y := (⟨"com/example/telemetree/telemetree/io/ShortestDecimalIntervalExponentPinLaw", "exact", "(IZI)Z"⟩ : MethodName)) hown (mvT hZ (ow11 hw)) (mvT hZ (ow12 hw)) (mvT hZ (ow8 hw)) (mvT hZ (ow13 hw)) (by decide) (backOf (W := 0) (rm3 l Z a0 hw [] x14 v9 x20 h0 n0 Z0 ) hZ (ow13 hw) (ow8 hw) (by decide) (by decide)) (g := (mkF m 128 A40 [(.int x20), (.int v9), (.int x14)])) rfl (by rw [hml]; rfl) (argsL := [(.int x14), (.int v9), (.int x20)]) (rest := []) (lenOf pd__IZI_Z rfl) rfl (by show 2 * 0 + _ ≤ _; exact Nat.le_of_eq rfl) (hb hby at_128) (fun _ _ => ⟨rfl, e39, (by decide : 0 + 1 ≤ _), (by decide : 0 + 19 ≤ _)⟩)
  dsimp only [Pt.U, Pt.locs, Pt.cells, Pt.slots] at X41 l41 y41 z41 st41 hQ41
  subst l41 y41 z41
  obtain ⟨rfl, Nq41, Kc41⟩ := hQ41
  have K41 : Keep h0 T41.heap [] := Keep.trans (Keep.refl h0 []) Kc41 all0
  have Z41 : n0 ≤ T41.heap.size := Nat.le_trans Z0 K41.1
  have N41 := Fr.app N39 Nq41
  obtain ⟨x42, hx42⟩ : ∃ z : Int32, z = (if x20 < (0 : Int32) then (if (2 : Int32) < x14 then (0 : Int32) else (if (-x20) < (1 : Int32) then (0 : Int32) else (if (18 : Int32) < (-x20) then (0 : Int32) else (if ((if v9 = (0 : Int32) then (4 : Int64) else (3 : Int64)) * (own_ten (-x20))) < ((1 : Int64) <<< (((2 : Int32) - x14) &&& 0x3f).toInt64) then (0 : Int32) else (if ((if v9 = (0 : Int32) then (4 : Int64) else (3 : Int64)) * (own_ten ((-x20) - (1 : Int32)))) < ((1 : Int64) <<< (((2 : Int32) - x14) &&& 0x3f).toInt64) then (1 : Int32) else (0 : Int32)))))) else (if x14 < (0 : Int32) then (0 : Int32) else (if (18 : Int32) < x20 then (0 : Int32) else (if ((if v9 = (0 : Int32) then (4 : Int64) else (3 : Int64)) <<< (x14 &&& 0x3f).toInt64) < ((4 : Int64) * (own_ten x20)) then (0 : Int32) else (if (((if v9 = (0 : Int32) then (4 : Int64) else (3 : Int64)) <<< (x14 &&& 0x3f).toInt64) / (40 : Int64)) < (own_ten x20) then (1 : Int32) else (0 : Int32)))))) := ⟨_, rfl⟩
  have G43 : ∀ t, Steps p.tables e below (T41.setTop (mkF m 131 A40 [(.int x42)])) t → Steps p.tables e below (T39.setTop (mkF m 117 A40 [])) t := by
    intro t k
    show Steps p.tables e below (T39.setTop (mkF m 117 A40 [])) _
    refine XS.iload X39.here hx rfl (hb hby at_117) rfl ?_
    show Steps p.tables e below (T39.setTop (mkF m 119 A40 [(.int v38)])) _
    refine XS.ifNo X39.here hx rfl (hb hby at_119) rfl ((if0 _ _).trans (feq (own_wide p0_0 p0_1 p0_2 v4 hv4 v9 hv9 x12 hx12 x14 hx14 x17 hx17 x20 hx20 v38 hv38)).1) ?_
    show Steps p.tables e below (T39.setTop (mkF m 122 A40 [])) _
    refine XS.iload X39.here hx rfl (hb hby at_122) rfl ?_
    show Steps p.tables e below (T39.setTop (mkF m 124 A40 [(.int x14)])) _
    refine XS.iload X39.here hx rfl (hb hby at_124) rfl ?_
    show Steps p.tables e below (T39.setTop (mkF m 126 A40 [(.int v9), (.int x14)])) _
    refine XS.iload X39.here hx rfl (hb hby at_126) rfl ?_
    show Steps p.tables e below (T39.setTop (mkF m 128 A40 [(.int x20), (.int v9), (.int x14)])) _
    refine st41 _ ?_
    show Steps p.tables e below (T41.setTop (mkF m 131 #[.val (.int p0_0), .val (.int p0_1), .val (.int p0_2), .val (.int v4), .val (.int v9), .val (.int x12), .val (.int x14), .val (.int x17), .val (.int x20), .val (.int v38)] [(.int (if x20 < (0 : Int32) then (if (2 : Int32) < x14 then (0 : Int32) else (if (-x20) < (1 : Int32) then (0 : Int32) else (if (18 : Int32) < (-x20) then (0 : Int32) else (if ((if v9 = (0 : Int32) then (4 : Int64) else (3 : Int64)) * (own_ten (-x20))) < ((1 : Int64) <<< (((2 : Int32) - x14) &&& 0x3f).toInt64) then (0 : Int32) else (if ((if v9 = (0 : Int32) then (4 : Int64) else (3 : Int64)) * (own_ten ((-x20) - (1 : Int32)))) < ((1 : Int64) <<< (((2 : Int32) - x14) &&& 0x3f).toInt64) then (1 : Int32) else (0 : Int32)))))) else (if x14 < (0 : Int32) then (0 : Int32) else (if (18 : Int32) < x20 then (0 : Int32) else (if ((if v9 = (0 : Int32) then (4 : Int64) else (3 : Int64)) <<< (x14 &&& 0x3f).toInt64) < ((4 : Int64) * (own_ten x20)) then (0 : Int32) else (if (((if v9 = (0 : Int32) then (4 : Int64) else (3 : Int64)) <<< (x14 &&& 0x3f).toInt64) / (40 : Int64)) < (own_ten x20) then (1 : Int32) else (0 : Int32)))))))])) _
    rw [← hx42]
    exact k
  obtain ⟨v45, hv45⟩ : ∃ z : Int32, z = (if x42 = (0 : Int32) then (0 : Int32) else (1 : Int32)) := ⟨_, rfl⟩
  obtain ⟨T46, Lo46, X46, N46, e46, G46⟩ := own_join X41 N41 (h := T41.heap) (mkF m 131 A40 [(.int x42)]) (mkF m 139 A40 [(.int v45)]) (by
    by_cases h131_44 : x42 = (0 : Int32)
    · refine ⟨T41, _, X41, N41, rfl, fun t k => ?_⟩
      rw [show v45 = (0 : Int32) from hv45.trans (if_pos h131_44)] at k
      show Steps p.tables e below (T41.setTop (mkF m 131 A40 [(.int x42)])) _
      refine XS.ifYes X41.here hx rfl (pc0 := 131) (pc' := 138) rfl (hb hby at_131) rfl ((if0 _ _).trans (teq h131_44).1) (by decide) (by decide) ?_
      show Steps p.tables e below (T41.setTop (mkF m 138 A40 [])) _
      refine XS.iconst X41.here hx rfl (hb hby at_138) ?_
      exact k
    · refine ⟨T41, _, X41, N41, rfl, fun t k => ?_⟩
      rw [show v45 = (1 : Int32) from hv45.trans (if_neg h131_44)] at k
      show Steps p.tables e below (T41.setTop (mkF m 131 A40 [(.int x42)])) _
      refine XS.ifNo X41.here hx rfl (hb hby at_131) rfl ((if0 _ _).trans (feq h131_44).1) ?_
      show Steps p.tables e below (T41.setTop (mkF m 134 A40 [])) _
      refine XS.iconst X41.here hx rfl (hb hby at_134) ?_
      show Steps p.tables e below (T41.setTop (mkF m 135 A40 [(.int (1 : Int32))])) _
      refine XS.goto X41.here hx rfl (pc0 := 135) (pc' := 139) rfl (hb hby at_135) (by decide) (by decide) ?_
      exact k)
  have fin : v45 = (1 : Int32) := by
    exact own_fin p0_0 p0_1 p0_2 v4 hv4 v9 hv9 x12 hx12 x14 hx14 x17 hx17 x20 hx20 v38 hv38 x42 hx42 v45 hv45
  obtain ⟨fs, hr, hrun, hended, hW, hsame⟩ := X46.leave (v := some (.int (1 : Int32))) (fun h => by rw [Bd.returns] at h; cases h)
  refine ⟨_, _, pre0 _ ?_, hrun, hended, _, _, rfl, ?_, ⟨_, rfl⟩, hW, hsame.mono (by decide) (by decide)⟩
  · refine G2 _ ?_
    refine G5 _ ?_
    refine G7 _ ?_
    refine G10 _ ?_
    refine G22 _ ?_
    refine G39 _ ?_
    refine G43 _ ?_
    refine G46 _ ?_
    show Steps p.tables e below (T46.setTop (mkF m 139 A40 [(.int v45)])) _
    rw [fin]
    exact retN X46 hx (t := .boolean) Bd.returns (by simp) (hb hby at_139) hr
  · exact ⟨rfl, N46⟩
set_option maxRecDepth 65536 in
set_option maxHeartbeats 40000000 in
theorem comes_1 {Post : Tables → Env → Array Value → State → Outcome → State → Prop} (hpost : ∀ tb e args s v u, (limb_1_1.after args s (.returned v) u = true ∧ limb_1_2.after args s (.returned v) u = true ∧ True) → FrameEnd s (.returned v) u (Jvm.fieldLocs frame_1_writes args s ++ Jvm.arrayLocs frame_1_arrays args s ++ Jvm.staticLocs frame_1_statics s) 16 128 → Post tb e args s (.returned v) u) :
    ArmFor flags0 classFile x code maxLocals ret World_1 tables_1 room_1 Calls_1 rest_1 Pre_1 Post := by
  intro l hfl _ _ p e ha hc hk s m args below hf hA hF happ hP
  obtain ⟨hcalls, hrest, hpre⟩ := hP
  obtain ⟨-, -, -, hnamed, -, -, -, hat⟩ := (Spec.applies_iff hf).mp happ
  obtain ⟨hg, hn⟩ := and_e (Cond.before_iff.mp (show (Jvm.Cond.and given_1 narrow_1).before args s = true from hpre))
  obtain ⟨g1, g2⟩ := and_e hg
  obtain ⟨g3, g4⟩ := and_e g2
  obtain ⟨g5, g6⟩ := and_e g4
  obtain ⟨w0, w1, w2, rfl⟩ : ∃ w0 w1 w2 : Value, args = #[w0, w1, w2] := by
    have hs : args.size = 3 := by simpa [Cond.value, given_1] using g1
    obtain ⟨L⟩ := args
    match L, hs with
    | [w0, w1, w2], _ => exact ⟨w0, w1, w2, rfl⟩
  have hw := fun d (hd : d ∈ tables_1) => atoms_spec (ws := Jvm.Cond.code x code maxLocals ret :: tables_1) hat d (List.mem_cons_of_mem _ hd)
  have hfit : Fit s := fun {y c} hc i hi => by
    obtain ⟨ha, rfl⟩ := Array.getElem?_eq_some_iff.mp hc
    have q := List.all_eq_true.mp ((Array.all_eq_true_iff_forall_mem.mp hF) _ (Array.getElem_mem ha)) i (List.mem_range.mpr hi)
    simpa [Array.getElem?_eq_getElem hi] using q
  obtain ⟨i0, ei0⟩ := is_v g3
  obtain rfl : w0 = (.int i0) := Option.some.inj ei0
  obtain ⟨i1, ei1⟩ := is_v g5
  obtain rfl : w1 = (.int i1) := Option.some.inj ei1
  obtain ⟨i2, ei2⟩ := is_v g6
  obtain rfl : w2 = (.int i2) := Option.some.inj ei2
  obtain ⟨n, o, h1, h2, h3, _, L, rfl, ⟨rfl, N⟩, hq⟩ := rm0 l s _ hw tables_1 i0 i1 i2 s.heap s.heap.size (Nat.le_refl _) p e ha hc hk s m _ below hf ((Spec.applies_iff_loose hf).mp happ).1 ⟨rfl, State.Warmed39.refl s, rfl⟩ trivial
  refine ⟨n, _, h1, h2, h3, hpost _ _ _ _ _ _ ⟨Cond.after_iff.mpr rfl, Cond.after_iff.mpr (eq_i res_at (Term.int_eval (1)) rfl), trivial⟩ ⟨hq.1, hq.2.1, (hq.2.2.sift fun y hy => Or.inr (N y hy)).mono (by decide) (by decide)⟩⟩
theorem main_1_1 : Claimed_1_1 := comes_1 fun _ _ _ _ _ _ h hF => ⟨h.1, hF⟩
theorem main_1_2 : Claimed_1_2 := comes_1 fun _ _ _ _ _ _ h hF => ⟨h.2.1, hF⟩
end Jvm.Pilot.@@N@@
namespace Jvm.Pilot.@@N@@
open Jvm Jvm.ClassFile Sem Op Lib Jvm.Free Jvm.Stand Jvm.Pilot.@@N@@.Jvm.D
/-! MADE BY PROGRAM (witnessworld.py) out of the Statement's table words and the real class files: 11 classes; the members and pool entries that the words name. The judged class is class 1, her method 1. -/
namespace start1
open Jvm.ClassFile
def u (s : String) : CpInfo := .utf8 (stringToUtf16 s)
/-- a pool by its gaps: so many unusable entries, then the entry; so many at the end -/
def gap : Nat → List CpInfo → List CpInfo
  | 0, r => r
  | n + 1, r => .unusable :: gap n r
def poolList (es : List (Nat × CpInfo)) (last : Nat) : List CpInfo := es.foldr (fun e r => gap e.1 (e.2 :: r)) (gap last [])
def pool (es : List (Nat × CpInfo)) (last : Nat) : Array CpInfo := ⟨poolList es last⟩
def fileOf (pool : Array CpInfo) (this : Nat) (attrs : Array Attribute := #[]) (ms : Array MethodInfo := #[]) (fl : Nat := 33) (sup : Nat := 0) (ifs : Array Nat := #[]) (fds : Array FieldInfo := #[]) : ClassFile where
  minorVersion := 0
  majorVersion := 65
  constantPool := pool
  accessFlags := fl
  thisClass := this
  superClass := sup
  interfaces := ifs
  fields := fds
  methods := ms
  attributes := attrs
def plain (name : String) (sup : Option ClassId) : Class where
  name := name
  kind := .ordinary
  loader := none
  accessFlags := 33
  super := sup
  interfaces := #[]
  cf := none
  fields := #[]
  methods := #[]
  instanceTypes := #[]
  staticTypes := #[]
  resolved := #[]
  callSites := []
  init := .initialized
  statics := none
  mirror := none

def pool0 : Array CpInfo := pool [(5, u "<init>"), (0, u "()V"), (1, .class_ 10), (1, u "java/lang/Object")] 113

def k0m0 : Method := { name := "<init>", desc := "()V", sig := { parameters := [], returnType := none }, accessFlags := 1, code := none }
/-- java/lang/Object -/
def k0 : Class := { plain "java/lang/Object" none with
  accessFlags := 33
  interfaces := #[]
  cf := some (fileOf pool0 8 #[] #[{ accessFlags := 1, nameIndex := 5, descriptorIndex := 6, attributes := #[] }] 33 0 #[] #[])
  fields := #[]
  methods := #[k0m0]
  instanceTypes := #[]
  staticTypes := #[]
  resolved := Array.replicate 124 none
  statics := none }

def pool1 : Array CpInfo := pool [(2, .class_ 4), (1, u "java/lang/Object"), (0, u "<init>"), (0, u "()V"), (0, .methodref 8 9), (0, .class_ 10), (0, .nameAndType 11 12), (0, u "com/example/telemetree/telemetree/io/ShortestDecimal"), (0, u "intervalExponent"), (0, u "(IZ)I"), (0, .methodref 14 15), (0, .class_ 16), (0, .nameAndType 17 18), (0, u "com/example/telemetree/telemetree/io/ShortestDecimalIntervalExponentPinLaw"), (0, u "floorLog10Pow2"), (0, u "(I)I"), (0, .methodref 14 20), (0, .nameAndType 21 22), (0, u "exact"), (0, u "(IZI)Z"), (0, .long 78913), (1, .long 10), (1, .long 100), (1, .long 1000), (1, .long 10000), (1, .long 100000), (1, .long 1000000), (1, .long 10000000), (1, .long 100000000), (1, .long 1000000000), (1, .long 10000000000), (1, .long 100000000000), (1, .long 1000000000000), (1, .long 10000000000000), (1, .long 100000000000000), (1, .long 1000000000000000), (1, .long 10000000000000000), (1, .long 100000000000000000), (1, .long 1000000000000000000), (1, .long 3), (1, .long 4), (1, .long 40), (3, u "law"), (0, u "(III)Z")] 5

def k1m0 : Method := { name := "<init>", desc := "()V", sig := { parameters := [], returnType := none }, accessFlags := 2, code := none }
def k1c1 : Code := { maxStack := 3, maxLocals := 10, code := code, exceptionTable := #[], attributes := #[] }
def k1m1 : Method := { name := "law", desc := "(III)Z", sig := { parameters := [.int, .int, .int], returnType := some .boolean }, accessFlags := 9, code := some k1c1 }
def k1c2 : Code := { maxStack := 4, maxLocals := 1, code := method_3_code, exceptionTable := #[], attributes := #[] }
def k1m2 : Method := { name := "floorLog10Pow2", desc := "(I)I", sig := { parameters := [.int], returnType := some .int }, accessFlags := 10, code := some k1c2 }
def k1c3 : Code := { maxStack := 6, maxLocals := 9, code := method_4_code, exceptionTable := #[], attributes := #[] }
def k1m3 : Method := { name := "exact", desc := "(IZI)Z", sig := { parameters := [.int, .boolean, .int], returnType := some .boolean }, accessFlags := 10, code := some k1c3 }
/-- com/example/telemetree/telemetree/io/ShortestDecimalIntervalExponentPinLaw -/
def k1 : Class := { plain "com/example/telemetree/telemetree/io/ShortestDecimalIntervalExponentPinLaw" (some 0) with
  accessFlags := 49
  interfaces := #[]
  cf := some (fileOf pool1 14 #[] #[{ accessFlags := 2, nameIndex := 5, descriptorIndex := 6, attributes := #[] }, { accessFlags := 9, nameIndex := 69, descriptorIndex := 70, attributes := #[] }, { accessFlags := 10, nameIndex := 17, descriptorIndex := 18, attributes := #[] }, { accessFlags := 10, nameIndex := 21, descriptorIndex := 22, attributes := #[] }] 49 2 #[] #[])
  fields := #[]
  methods := #[k1m0, k1m1, k1m2, k1m3]
  instanceTypes := #[]
  staticTypes := #[]
  resolved := Array.replicate 76 none
  statics := none }

def pool2 : Array CpInfo := pool [(1, .class_ 2), (0, u "com/example/telemetree/telemetree/io/ShortestDecimal"), (1, .class_ 6), (1, u "java/lang/Object"), (0, u "<init>"), (0, u "()V"), (18, u "intervalExponent"), (0, u "(IZ)I"), (8, .long 661971961084), (1, .long 18446743798966364295), (19, u "FIVE_POWERS"), (0, u "[J"), (86, u "FRACTION_BITS"), (0, u "I"), (2, u "FRACTION_MASK"), (0, u "J"), (0, u "EXPONENT_OFFSET"), (1, u "LOG10_2"), (0, u "LOG10_3_4")] 8

def k2m0 : Method := { name := "<init>", desc := "()V", sig := { parameters := [], returnType := none }, accessFlags := 2, code := none }
def k2c1 : Code := { maxStack := 4, maxLocals := 2, code := prog_7_method_3_code, exceptionTable := #[], attributes := #[] }
def k2m1 : Method := { name := "intervalExponent", desc := "(IZ)I", sig := { parameters := [.int, .boolean], returnType := some .int }, accessFlags := 8, code := some k2c1 }
/-- com/example/telemetree/telemetree/io/ShortestDecimal -/
def k2 : Class := { plain "com/example/telemetree/telemetree/io/ShortestDecimal" (some 0) with
  accessFlags := 32
  interfaces := #[]
  cf := some (fileOf pool2 1 #[] #[{ accessFlags := 2, nameIndex := 7, descriptorIndex := 8, attributes := #[] }, { accessFlags := 8, nameIndex := 27, descriptorIndex := 28, attributes := #[] }] 32 4 #[] #[{ accessFlags := 26, nameIndex := 147, descriptorIndex := 148, attributes := #[] }, { accessFlags := 26, nameIndex := 151, descriptorIndex := 152, attributes := #[] }, { accessFlags := 26, nameIndex := 153, descriptorIndex := 148, attributes := #[] }, { accessFlags := 26, nameIndex := 155, descriptorIndex := 152, attributes := #[] }, { accessFlags := 26, nameIndex := 156, descriptorIndex := 152, attributes := #[] }, { accessFlags := 26, nameIndex := 59, descriptorIndex := 60, attributes := #[] }])
  fields := #[{ name := "FRACTION_BITS", type := .int, accessFlags := 26, slot := 0, constantValue := 0 }, { name := "FRACTION_MASK", type := .long, accessFlags := 26, slot := 1, constantValue := 0 }, { name := "EXPONENT_OFFSET", type := .int, accessFlags := 26, slot := 2, constantValue := 0 }, { name := "LOG10_2", type := .long, accessFlags := 26, slot := 3, constantValue := 0 }, { name := "LOG10_3_4", type := .long, accessFlags := 26, slot := 4, constantValue := 0 }, { name := "FIVE_POWERS", type := (.array .long), accessFlags := 26, slot := 5, constantValue := 0 }]
  methods := #[k2m0, k2m1]
  instanceTypes := #[]
  staticTypes := #[.int, .long, .int, .long, .long, (.array .long)]
  resolved := Array.replicate 165 none
  statics := none }

def pool3 : Array CpInfo := pool [(1, u "java/lang/Cloneable"), (0, .class_ 1), (0, u "java/lang/Object"), (0, .class_ 3)] 3

/-- java/lang/Cloneable -/
def k3 : Class := { plain "java/lang/Cloneable" (some 0) with
  accessFlags := 1537
  interfaces := #[]
  cf := some (fileOf pool3 2 #[] #[] 1537 4 #[] #[])
  fields := #[]
  methods := #[]
  instanceTypes := #[]
  staticTypes := #[]
  resolved := Array.replicate 8 none
  statics := none }

def pool4 : Array CpInfo := pool [(1, u "java/io/Serializable"), (0, .class_ 1), (0, u "java/lang/Object"), (0, .class_ 3)] 3

/-- java/io/Serializable -/
def k4 : Class := { plain "java/io/Serializable" (some 0) with
  accessFlags := 1537
  interfaces := #[]
  cf := some (fileOf pool4 2 #[] #[] 1537 4 #[] #[])
  fields := #[]
  methods := #[]
  instanceTypes := #[]
  staticTypes := #[]
  resolved := Array.replicate 8 none
  statics := none }

/-- the primitive byte -/
def k5 : Class := { plain "byte" none with kind := .primitive 'B', accessFlags := 0x411 }
/-- [B -/
def k6 : Class := { plain "[B" (some 0) with kind := .array 5 .byte, interfaces := #[3, 4], accessFlags := 1041 }

/-- the primitive int -/
def k7 : Class := { plain "int" none with kind := .primitive 'I', accessFlags := 0x411 }
/-- [I -/
def k8 : Class := { plain "[I" (some 0) with kind := .array 7 .int, interfaces := #[3, 4], accessFlags := 1041 }

/-- the primitive long -/
def k9 : Class := { plain "long" none with kind := .primitive 'J', accessFlags := 0x411 }
/-- [J -/
def k10 : Class := { plain "[J" (some 0) with kind := .array 9 .long, interfaces := #[3, 4], accessFlags := 1041 }

def heap : Heap := #[]
def classes : Array Class := #[k0, k1, k2, k3, k4, k5, k6, k7, k8, k9, k10]
def interned : List (Array UInt16 × Addr) := []
def slotsUsed : Nat := 0
def theMethod : MethodId := ⟨1, 1⟩
def args0 : Array Value := #[.int 5, .int 5, .int 5]
def aboutOver (below : List Frame) : State where
  vm := { classes := classes, interned := interned.toArray }
  heap := heap
  slotsUsed := slotsUsed
  threads := #[{ frames := .invoking theMethod args0 :: below }]
def below0 : List Frame := [.native { method := ⟨0, 0⟩, args := #[] }]
def about1 : State := aboutOver below0
def p0 : Program := .bare "" "" ""
def e0 : Env := launch0.env 0 0 0
theorem w_frames : about1.frames = Frame.invoking theMethod args0 :: below0 := rfl
set_option maxRecDepth 65536 in
theorem w_args : argsFit about1.vm theMethod args0 = true := by decide +kernel
set_option maxRecDepth 65536 in
theorem w_heap : heapFits about1 = true := by decide +kernel
set_option maxRecDepth 65536 in
theorem w_runnable : about1.curStatus? = some .runnable := by decide +kernel
set_option maxRecDepth 65536 in
theorem w_alone : about1.alone = true := by decide +kernel
set_option maxRecDepth 65536 in
theorem w_named : about1.methodNamed? x = some theMethod := by decide +kernel
set_option maxRecDepth 65536 in
theorem w_hears : about1.hears theMethod below0 = true := by decide +kernel
set_option maxRecDepth 65536 in
theorem w_ripe : about1.ripe theMethod args0 below0 = true := by decide +kernel
theorem w_running : about1.status = .running := rfl
set_option maxRecDepth 65536 in
theorem w_room : about1.hasRoom e0.platform room_1 = true :=
  launch0.hasRoom_least _ room_1 (by decide +kernel) (by decide +kernel) (by decide +kernel) (by decide +kernel) (by decide +kernel) (by decide +kernel)
theorem allAtoms_all (ts : List Jvm.Cond) (a : Array Jvm.Value) (st : Jvm.State) : (allAtoms ts).before a st = ts.all (fun c => c.before a st) := by
  induction ts with
  | nil => rfl
  | cons c t ih =>
    show (Jvm.Cond.and c (allAtoms t)).before a st = _
    rw [Jvm.Cond.before_and, ih, List.all_cons]
def words1 : List Jvm.Cond := Jvm.Cond.code x code maxLocals ret :: tables_1
/-- a 'code' word, met by the world's own term for the bytes: nothing is compared byte by byte -/
theorem code_word {y : MethodName} {bytes : ByteArray} {mx : Nat} {rt : Option FieldType} {a : Array Value} {s : State} {m : MethodId} {meth : Method} {c : Code} (h1 : s.methodNamed? y = some m) (h2 : s.vm.method? m = some meth) (h3 : meth.code = some c) (h4 : c.code = bytes)
    (h5 : (c.maxLocals == mx && c.exceptionTable.isEmpty && decide (c.maxStack ≤ mostOperands) && decide (meth.sig.returnType = rt) && !meth.locks && decide (parseMethodDescriptor y.desc = some meth.sig)) = true) : (Jvm.Cond.code y bytes mx rt).before a s = true := by
  simp only [Bool.and_eq_true, beq_iff_eq, Bool.not_eq_true', decide_eq_true_eq] at h5
  obtain ⟨⟨⟨⟨⟨g1, g2⟩, g3⟩, g4⟩, g5⟩, g6⟩ := h5
  simp [Cond.before, Cond.holds, Cond.value, h1, h2, h3, h4, g1, g2, g3, g4, g5, g6]
def isCode : Jvm.Cond → Bool
  | .code _ _ _ _ => true
  | _ => false
theorem all_split {L : List Jvm.Cond} {P : Jvm.Cond → Bool} (h1 : L.all (fun c => isCode c || P c) = true) (h2 : ∀ c ∈ L.filter isCode, P c = true) : L.all P = true := by
  refine List.all_eq_true.mpr fun c hc => ?_
  have h := List.all_eq_true.mp h1 c hc
  rcases Bool.eq_false_or_eq_true (isCode c) with hi | hi
  · exact h2 c (List.mem_filter.mpr ⟨hc, hi⟩)
  · simpa [hi] using h
set_option maxRecDepth 65536 in
theorem w_c0 : (Jvm.Cond.code x code maxLocals ret).before args0 about1 = true := code_word (m := ⟨1, 1⟩) (meth := k1m1) (c := k1c1) (by decide +kernel) rfl rfl rfl (by decide +kernel)
set_option maxRecDepth 65536 in
theorem w_c1 : (Jvm.Cond.code ({ cls := "com/example/telemetree/telemetree/io/ShortestDecimal", name := "intervalExponent", desc := "(IZ)I" } : Jvm.MethodName) prog_7_method_3_code (2 : Nat) (Option.some Jvm.ClassFile.FieldType.int)).before args0 about1 = true := code_word (m := ⟨2, 1⟩) (meth := k2m1) (c := k2c1) (by decide +kernel) rfl rfl rfl (by decide +kernel)
set_option maxRecDepth 65536 in
theorem w_c2 : (Jvm.Cond.code ({ cls := "com/example/telemetree/telemetree/io/ShortestDecimalIntervalExponentPinLaw", name := "floorLog10Pow2", desc := "(I)I" } : Jvm.MethodName) method_3_code (1 : Nat) (Option.some Jvm.ClassFile.FieldType.int)).before args0 about1 = true := code_word (m := ⟨1, 2⟩) (meth := k1m2) (c := k1c2) (by decide +kernel) rfl rfl rfl (by decide +kernel)
set_option maxRecDepth 65536 in
theorem w_c3 : (Jvm.Cond.code ({ cls := "com/example/telemetree/telemetree/io/ShortestDecimalIntervalExponentPinLaw", name := "exact", desc := "(IZI)Z" } : Jvm.MethodName) method_4_code (9 : Nat) (Option.some Jvm.ClassFile.FieldType.boolean)).before args0 about1 = true := code_word (m := ⟨1, 3⟩) (meth := k1m3) (c := k1c3) (by decide +kernel) rfl rfl rfl (by decide +kernel)
def codes1 : List Jvm.Cond := [Jvm.Cond.code x code maxLocals ret, Jvm.Cond.code ({ cls := "com/example/telemetree/telemetree/io/ShortestDecimal", name := "intervalExponent", desc := "(IZ)I" } : Jvm.MethodName) prog_7_method_3_code (2 : Nat) (Option.some Jvm.ClassFile.FieldType.int), Jvm.Cond.code ({ cls := "com/example/telemetree/telemetree/io/ShortestDecimalIntervalExponentPinLaw", name := "floorLog10Pow2", desc := "(I)I" } : Jvm.MethodName) method_3_code (1 : Nat) (Option.some Jvm.ClassFile.FieldType.int), Jvm.Cond.code ({ cls := "com/example/telemetree/telemetree/io/ShortestDecimalIntervalExponentPinLaw", name := "exact", desc := "(IZI)Z" } : Jvm.MethodName) method_4_code (9 : Nat) (Option.some Jvm.ClassFile.FieldType.boolean)]
set_option maxRecDepth 65536 in
theorem codes_eq : words1.filter isCode = codes1 := rfl
theorem w_codes : ∀ c ∈ words1.filter isCode, c.before args0 about1 = true := by
  rw [codes_eq]
  intro c hc
  simp only [codes1, List.mem_cons, List.not_mem_nil, or_false] at hc
  rcases hc with rfl | rfl | rfl | rfl
  · exact w_c0
  · exact w_c1
  · exact w_c2
  · exact w_c3
set_option maxRecDepth 65536 in
theorem w_t1 : (words1.take 24).all (fun c => isCode c || c.before args0 about1) = true := by decide +kernel
set_option maxRecDepth 65536 in
theorem w_t2 : (words1.drop 24).all (fun c => isCode c || c.before args0 about1) = true := by decide +kernel
theorem w_tables : (allAtoms (Jvm.Cond.code x code maxLocals ret :: tables_1)).before args0 about1 = true := by
  rw [allAtoms_all]
  show words1.all (fun c => c.before args0 about1) = true
  refine all_split ?_ w_codes
  rw [← List.take_append_drop 24 words1, List.all_append, w_t1, w_t2]
  rfl
set_option maxRecDepth 65536 in
theorem w_case : (Jvm.Cond.and given_1 narrow_1).before args0 about1 = true := by decide +kernel
theorem w_applies : (headSpec (Jvm.Cond.code x code maxLocals ret :: tables_1) room_1).applies x e0.platform about1 = true :=
  (Spec.applies_iff w_frames).mpr ⟨w_running, w_runnable, w_alone, w_named, w_hears, w_ripe, w_room, w_tables⟩
theorem atStart : AtStart classFile x code maxLocals ret World_1 tables_1 room_1 Calls_1 rest_1 Pre_1 launch0 p0 e0 about1 theMethod args0 below0 :=
  ⟨lists_1, trivial, launch0.admits_env _ _ _, launch0.least_env, fairChoices_fair.cas, fairChoices_fair.clock, w_frames, w_args, w_heap, w_applies, trivial, trivial, w_case⟩
end start1
theorem witness_1 : WitnessClaimed_1 := ⟨start1.p0, start1.e0, start1.about1, start1.theMethod, start1.args0, start1.below0, start1.atStart⟩
end Jvm.Pilot.@@N@@
