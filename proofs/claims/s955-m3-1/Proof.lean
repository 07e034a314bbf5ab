import JvmDerived
import JvmDerived.Pilot.@@N@@Statement
import JvmDerived.Pilot.@@N@@Code
set_option linter.unusedVariables false
set_option linter.unusedSimpArgs false
namespace Jvm.RoadKit
open Sem ClassFile Op Lib Jvm.Stand Jvm.Free Jvm.LawKit
section New
variable {p : Program} {l : Launch} {e : Env} {R : Room} {s : State} {m : MethodId} {args : Array Value} {below : List Frame} {meth : Method} {c : Code} {T : State} {locs : List Loc} {cells slots : Nat}
theorem retI (X : Stand p l e R s m args below meth c T locs cells slots) (hx : p.tables.exec = Jvm.exec) {pc : Nat} {Ls : Array Slot} {z : Int32} {rest : List Value} (hret : meth.sig.returnType = some .int) (hd : decode c.code pc = .ok (.ireturn, 1)) {fs : List Frame}
    (hl : ∀ (f : JFrame) (acts : List Action), f.method = m → f.locked = none → f.entered = [] → (doReturn e (T.setTop f) acts (some (.int z))).1 = T.setFrames fs) : Steps p.tables e below (T.setTop (mkF m pc Ls (.int z :: rest))) (T.setFrames fs) := by
  have hm' : T.vm.method? m = some meth := X.method'
  have hn : narrow .int (.int z) = .int z := rfl
  show Steps p.tables e below (T.setTop { method := m, pc := pc, locals := Ls, stack := _ :: rest, locked := none }) _
  jvm_step X.here [X.here.top, hx, hd, hm', hret, hn]
  first | (intro acts; rw [hl _ acts rfl rfl rfl]) | rw [hl _ _ rfl rfl rfl]
  exact Steps.refl _
theorem own_retJ (X : Stand p l e R s m args below meth c T locs cells slots) (hx : p.tables.exec = Jvm.exec) {pc : Nat} {Ls : Array Slot} {z : Int64} {rest : List Value} (hret : meth.sig.returnType = some .long) (hd : decode c.code pc = .ok (.lreturn, 1)) {fs : List Frame}
    (hl : ∀ (f : JFrame) (acts : List Action), f.method = m → f.locked = none → f.entered = [] → (doReturn e (T.setTop f) acts (some (.long z))).1 = T.setFrames fs) : Steps p.tables e below (T.setTop (mkF m pc Ls (.long z :: rest))) (T.setFrames fs) := by
  have hm' : T.vm.method? m = some meth := X.method'
  show Steps p.tables e below (T.setTop { method := m, pc := pc, locals := Ls, stack := _ :: rest, locked := none }) _
  jvm_step X.here [X.here.top, hx, hd, hm', hret, narrow]
  first | (intro acts; rw [hl _ acts rfl rfl rfl]) | rw [hl _ _ rfl rfl rfl]
  exact Steps.refl _
theorem own_join {n0 : Nat} (X : Stand p l e R s m args below meth c T locs cells slots) (N : Fr n0 locs) {h : Heap} (g g' : JFrame)
    (H : ∃ (T' : State) (locs' : List Loc), Stand p l e R s m args below meth c T' locs' cells slots ∧ Fr n0 locs' ∧ T'.heap = h ∧ ∀ t, Steps p.tables e below (T'.setTop g') t → Steps p.tables e below (T.setTop g) t) :
    ∃ (T' : State) (locs' : List Loc), Stand p l e R s m args below meth c T' locs' cells slots ∧ Fr n0 locs' ∧ T'.heap = h ∧ ∀ t, Steps p.tables e below (T'.setTop g') t → Steps p.tables e below (T.setTop g) t := H
theorem own_mono (X : Stand p l e R s m args below meth c T locs cells slots) {c' s' : Nat} (h1 : cells ≤ c') (h2 : slots ≤ s') : Stand p l e R s m args below meth c T locs c' s' :=
  ⟨X.admits, X.cas, X.clock, X.frames, X.room, X.hears, X.method, X.code, X.here, X.tail, X.warmed, X.limits, X.bytes, X.same.mono h1 h2⟩
theorem own_lrem {g : JFrame} {target : State} (X : Stand p l e R s m args below meth c T locs cells slots) (hx : p.tables.exec = Jvm.exec) (hg : g.method = m) {x y : Int64} {rest : List Value} (hd : decode c.code g.pc = .ok (.lrem, 1)) (hs : g.stack = .long y :: .long x :: rest) (hy : y ≠ 0)
    (hr : Steps p.tables e below (T.setTop { g with pc := g.pc + 1, stack := .long (x % y) :: rest }) target) : Steps p.tables e below (T.setTop g) target :=
  Jvm.Free.XS.lrem X.here hx hg hd hs hy (by rw [lrem_mod x y]; exact hr)
def Bya (Z : State) (h : Heap) (a : Addr) (z : Int32) (f : Int32 → Int32) : Prop := ∃ c : Cell, Arr Z h a c .byte ∧ c.slots.size = z.toNatClampNeg ∧ ∀ j : Int32, ¬ j < 0 → j < z → c.slots[j.toNatClampNeg]? = some (.int (f j))
theorem Bya.lt {Z : State} {h : Heap} {a : Addr} {z : Int32} {f : Int32 → Int32} (F : Bya Z h a z f) : a < h.size := by obtain ⟨c, A, -⟩ := F; exact A.lt
theorem Bya.ext {Z : State} {h h' : Heap} {a : Addr} {z : Int32} {f : Int32 → Int32} (F : Bya Z h a z f) (E : Ext h h') : Bya Z h' a z f := by obtain ⟨c, A, r⟩ := F; exact ⟨c, A.ext E, r⟩
theorem Bya.other {Z : State} {h h' : Heap} {a b : Addr} {z : Int32} {f : Int32 → Int32} {sl : Nat} {v : Value} (F : Bya Z h b z f) (W : Wr h h' a sl v) (q : b ≠ a) : Bya Z h' b z f := by obtain ⟨c, A, r⟩ := F; exact ⟨c, A.other W q, r⟩
theorem Bya.keep {Z : State} {h h' : Heap} {a : Addr} {z : Int32} {f : Int32 → Int32} {ws : List Addr} (F : Bya Z h a z f) (K : Keep h h' ws) (q : a ∉ ws) : Bya Z h' a z f := by obtain ⟨c, A, r⟩ := F; exact ⟨c, ⟨K.2.1 a c A.1 q, A.2⟩, r⟩
theorem Bya.set {Z : State} {h h' : Heap} {a : Addr} {z j v : Int32} {f : Int32 → Int32} {c : Cell} (A : Arr Z h a c .byte) (S : c.slots.size = z.toNatClampNeg) (H : ∀ j : Int32, ¬ j < 0 → j < z → c.slots[j.toNatClampNeg]? = some (.int (f j))) (hj : ¬ j < 0 ∧ j < z) (W : Wr h h' a j.toNatClampNeg (.int v)) : Bya Z h' a z (fun i => if i = j then v else f i) := by
  refine ⟨_, A.same W, by rw [sz_set]; exact S, fun i h1 h2 => ?_⟩
  by_cases q : i = j
  · rw [get_hit (inb_of S hj) q]; simp [q]
  · rw [get_miss hj.1 h1 q, H i h1 h2]; simp [q]
theorem Bya.of_arv {Z : State} {h : Heap} {a : Addr} {k : ClassId} {z : Int32} {vs : List Value} {es : List Int32} (F : Arv Z h a k .byte z vs (.int (0 : Int32))) (e : vs = es.map Value.int) : Bya Z h a z (fun i => es.getD i.toNatClampNeg 0) := by
  obtain ⟨c, A, -, S, -, H, -⟩ := F
  refine ⟨c, A, S, fun j h1 h2 => ?_⟩
  refine H.at (inb_of S ⟨h1, h2⟩) ?_
  subst e
  simp only [List.getD_eq_getElem?_getD, List.getElem?_map]
  cases es[j.toNatClampNeg]? <;> rfl
theorem own_b1 {x : Int32} (h : x = 1) : ¬ x = 0 := by rw [h]; decide
theorem own_cons {α : Type} {a b : α} {l m : List α} (h1 : a = b) (h2 : l = m) : a :: l = b :: m := by rw [h1, h2]
theorem own_arv {Z : State} {h : Heap} {a : Addr} {k : ClassId} {ty : FieldType} {z : Int32} {vs ws : List Value} {d : Value} (A : Arv Z h a k ty z vs d) (q : ws = vs) : Arv Z h a k ty z ws d := q ▸ A
theorem own_fld {Z : State} {h : Heap} {a : Addr} {C n d : String} {v w : Value} (F : Fld Z h a C n d v) (q : w = v) : Fld Z h a C n d w := q ▸ F
end New
end Jvm.RoadKit
namespace Jvm.Pilot.@@N@@
open Jvm Jvm.ClassFile Sem Op Lib Jvm.Free Jvm.Stand Jvm.LawKit Jvm.RoadKit Bundle Jvm.Pilot.@@N@@.Jvm.D
theorem ow0 {Z : State} {a0 : Array Value} (hw : ∀ d ∈ tables_1, d.before a0 Z = true) : (Jvm.Cond.constant "com/example/telemetree/telemetree/storage/BitReaderReadPinLaw" (7 : Nat) (2147483647 : Int32)).before a0 Z = true := hw _ (List.mem_of_getElem? (i := 0) rfl)
theorem ow1 {Z : State} {a0 : Array Value} (hw : ∀ d ∈ tables_1, d.before a0 Z = true) : (Jvm.Cond.arrayClass Jvm.ClassFile.FieldType.byte).before a0 Z = true := hw _ (List.mem_of_getElem? (i := 1) rfl)
theorem ow2 {Z : State} {a0 : Array Value} (hw : ∀ d ∈ tables_1, d.before a0 Z = true) : (Jvm.Cond.methodLink "com/example/telemetree/telemetree/storage/BitReaderReadPinLaw" (8 : Nat) ({ cls := "com/example/telemetree/telemetree/storage/BitReaderReadPinLaw", name := "put", desc := "([BIJ)V" } : Jvm.MethodName)).before a0 Z = true := hw _ (List.mem_of_getElem? (i := 2) rfl)
theorem ow3 {Z : State} {a0 : Array Value} (hw : ∀ d ∈ tables_1, d.before a0 Z = true) : (Jvm.Cond.static ({ cls := "com/example/telemetree/telemetree/storage/BitReaderReadPinLaw", name := "put", desc := "([BIJ)V" } : Jvm.MethodName)).before a0 Z = true := hw _ (List.mem_of_getElem? (i := 3) rfl)
theorem ow4 {Z : State} {a0 : Array Value} (hw : ∀ d ∈ tables_1, d.before a0 Z = true) : (Jvm.Cond.initialized "com/example/telemetree/telemetree/storage/BitReaderReadPinLaw").before a0 Z = true := hw _ (List.mem_of_getElem? (i := 4) rfl)
theorem ow5 {Z : State} {a0 : Array Value} (hw : ∀ d ∈ tables_1, d.before a0 Z = true) : (Jvm.Cond.code ({ cls := "com/example/telemetree/telemetree/storage/BitReaderReadPinLaw", name := "put", desc := "([BIJ)V" } : Jvm.MethodName) method_3_code (4 : Nat) (Option.none : Option Jvm.ClassFile.FieldType)).before a0 Z = true := hw _ (List.mem_of_getElem? (i := 5) rfl)
theorem ow6 {Z : State} {a0 : Array Value} (hw : ∀ d ∈ tables_1, d.before a0 Z = true) : (Jvm.Cond.arrayClass Jvm.ClassFile.FieldType.long).before a0 Z = true := hw _ (List.mem_of_getElem? (i := 6) rfl)
theorem ow7 {Z : State} {a0 : Array Value} (hw : ∀ d ∈ tables_1, d.before a0 Z = true) : (Jvm.Cond.classLink "com/example/telemetree/telemetree/storage/BitReaderReadPinLaw" (14 : Nat) "com/example/telemetree/telemetree/storage/BitReader").before a0 Z = true := hw _ (List.mem_of_getElem? (i := 7) rfl)
theorem ow8 {Z : State} {a0 : Array Value} (hw : ∀ d ∈ tables_1, d.before a0 Z = true) : (Jvm.Cond.instantiable "com/example/telemetree/telemetree/storage/BitReader" (2 : Nat)).before a0 Z = true := hw _ (List.mem_of_getElem? (i := 8) rfl)
theorem ow9 {Z : State} {a0 : Array Value} (hw : ∀ d ∈ tables_1, d.before a0 Z = true) : (Jvm.Cond.initialized "com/example/telemetree/telemetree/storage/BitReader").before a0 Z = true := hw _ (List.mem_of_getElem? (i := 9) rfl)
theorem ow10 {Z : State} {a0 : Array Value} (hw : ∀ d ∈ tables_1, d.before a0 Z = true) : (Jvm.Cond.methodLink "com/example/telemetree/telemetree/storage/BitReaderReadPinLaw" (16 : Nat) ({ cls := "com/example/telemetree/telemetree/storage/BitReader", name := "<init>", desc := "([B)V" } : Jvm.MethodName)).before a0 Z = true := hw _ (List.mem_of_getElem? (i := 10) rfl)
theorem ow11 {Z : State} {a0 : Array Value} (hw : ∀ d ∈ tables_1, d.before a0 Z = true) : (Jvm.Cond.instanceMethod ({ cls := "com/example/telemetree/telemetree/storage/BitReader", name := "<init>", desc := "([B)V" } : Jvm.MethodName)).before a0 Z = true := hw _ (List.mem_of_getElem? (i := 11) rfl)
theorem ow12 {Z : State} {a0 : Array Value} (hw : ∀ d ∈ tables_1, d.before a0 Z = true) : (Jvm.Cond.code ({ cls := "com/example/telemetree/telemetree/storage/BitReader", name := "<init>", desc := "([B)V" } : Jvm.MethodName) prog_11_method_1_code (2 : Nat) (Option.none : Option Jvm.ClassFile.FieldType)).before a0 Z = true := hw _ (List.mem_of_getElem? (i := 12) rfl)
theorem ow13 {Z : State} {a0 : Array Value} (hw : ∀ d ∈ tables_1, d.before a0 Z = true) : (Jvm.Cond.methodLink "com/example/telemetree/telemetree/storage/BitReader" (1 : Nat) ({ cls := "java/lang/Object", name := "<init>", desc := "()V" } : Jvm.MethodName)).before a0 Z = true := hw _ (List.mem_of_getElem? (i := 13) rfl)
theorem ow14 {Z : State} {a0 : Array Value} (hw : ∀ d ∈ tables_1, d.before a0 Z = true) : (Jvm.Cond.instanceMethod ({ cls := "java/lang/Object", name := "<init>", desc := "()V" } : Jvm.MethodName)).before a0 Z = true := hw _ (List.mem_of_getElem? (i := 14) rfl)
theorem ow15 {Z : State} {a0 : Array Value} (hw : ∀ d ∈ tables_1, d.before a0 Z = true) : (Jvm.Cond.code ({ cls := "java/lang/Object", name := "<init>", desc := "()V" } : Jvm.MethodName) object_method_1_code (1 : Nat) (Option.none : Option Jvm.ClassFile.FieldType)).before a0 Z = true := hw _ (List.mem_of_getElem? (i := 15) rfl)
theorem ow16 {Z : State} {a0 : Array Value} (hw : ∀ d ∈ tables_1, d.before a0 Z = true) : (Jvm.Cond.fieldLink "com/example/telemetree/telemetree/storage/BitReader" (7 : Nat) "com/example/telemetree/telemetree/storage/BitReader" "bytes" "[B").before a0 Z = true := hw _ (List.mem_of_getElem? (i := 16) rfl)
theorem ow17 {Z : State} {a0 : Array Value} (hw : ∀ d ∈ tables_1, d.before a0 Z = true) : (Jvm.Cond.laysFinal "com/example/telemetree/telemetree/storage/BitReader" "com/example/telemetree/telemetree/storage/BitReader" "bytes" "[B").before a0 Z = true := hw _ (List.mem_of_getElem? (i := 17) rfl)
theorem ow18 {Z : State} {a0 : Array Value} (hw : ∀ d ∈ tables_1, d.before a0 Z = true) : (Jvm.Cond.methodLink "com/example/telemetree/telemetree/storage/BitReaderReadPinLaw" (19 : Nat) ({ cls := "com/example/telemetree/telemetree/storage/BitReader", name := "read", desc := "(I)J" } : Jvm.MethodName)).before a0 Z = true := hw _ (List.mem_of_getElem? (i := 18) rfl)
theorem ow19 {Z : State} {a0 : Array Value} (hw : ∀ d ∈ tables_1, d.before a0 Z = true) : (Jvm.Cond.declares ({ cls := "com/example/telemetree/telemetree/storage/BitReader", name := "read", desc := "(I)J" } : Jvm.MethodName)).before a0 Z = true := hw _ (List.mem_of_getElem? (i := 19) rfl)
theorem ow20 {Z : State} {a0 : Array Value} (hw : ∀ d ∈ tables_1, d.before a0 Z = true) : (Jvm.Cond.instanceMethod ({ cls := "com/example/telemetree/telemetree/storage/BitReader", name := "read", desc := "(I)J" } : Jvm.MethodName)).before a0 Z = true := hw _ (List.mem_of_getElem? (i := 20) rfl)
theorem ow21 {Z : State} {a0 : Array Value} (hw : ∀ d ∈ tables_1, d.before a0 Z = true) : (Jvm.Cond.selects "com/example/telemetree/telemetree/storage/BitReader" ({ cls := "com/example/telemetree/telemetree/storage/BitReader", name := "read", desc := "(I)J" } : Jvm.MethodName) ({ cls := "com/example/telemetree/telemetree/storage/BitReader", name := "read", desc := "(I)J" } : Jvm.MethodName)).before a0 Z = true := hw _ (List.mem_of_getElem? (i := 21) rfl)
theorem ow22 {Z : State} {a0 : Array Value} (hw : ∀ d ∈ tables_1, d.before a0 Z = true) : (Jvm.Cond.code ({ cls := "com/example/telemetree/telemetree/storage/BitReader", name := "read", desc := "(I)J" } : Jvm.MethodName) prog_11_method_2_code (9 : Nat) (Option.some Jvm.ClassFile.FieldType.long)).before a0 Z = true := hw _ (List.mem_of_getElem? (i := 22) rfl)
theorem ow23 {Z : State} {a0 : Array Value} (hw : ∀ d ∈ tables_1, d.before a0 Z = true) : (Jvm.Cond.fieldLink "com/example/telemetree/telemetree/storage/BitReader" (13 : Nat) "com/example/telemetree/telemetree/storage/BitReader" "position" "J").before a0 Z = true := hw _ (List.mem_of_getElem? (i := 23) rfl)
theorem ow24 {Z : State} {a0 : Array Value} (hw : ∀ d ∈ tables_1, d.before a0 Z = true) : (Jvm.Cond.lays "com/example/telemetree/telemetree/storage/BitReader" "com/example/telemetree/telemetree/storage/BitReader" "position" "J").before a0 Z = true := hw _ (List.mem_of_getElem? (i := 24) rfl)
theorem ow25 {Z : State} {a0 : Array Value} (hw : ∀ d ∈ tables_1, d.before a0 Z = true) : (Jvm.Cond.constantLong "com/example/telemetree/telemetree/storage/BitReader" (17 : Nat) (7 : Int64)).before a0 Z = true := hw _ (List.mem_of_getElem? (i := 25) rfl)
theorem ow26 {Z : State} {a0 : Array Value} (hw : ∀ d ∈ tables_1, d.before a0 Z = true) : (Jvm.Cond.methodLink "com/example/telemetree/telemetree/storage/BitReader" (19 : Nat) ({ cls := "java/lang/Math", name := "min", desc := "(II)I" } : Jvm.MethodName)).before a0 Z = true := hw _ (List.mem_of_getElem? (i := 26) rfl)
theorem ow27 {Z : State} {a0 : Array Value} (hw : ∀ d ∈ tables_1, d.before a0 Z = true) : (Jvm.Cond.static ({ cls := "java/lang/Math", name := "min", desc := "(II)I" } : Jvm.MethodName)).before a0 Z = true := hw _ (List.mem_of_getElem? (i := 27) rfl)
theorem ow28 {Z : State} {a0 : Array Value} (hw : ∀ d ∈ tables_1, d.before a0 Z = true) : (Jvm.Cond.initialized "java/lang/Math").before a0 Z = true := hw _ (List.mem_of_getElem? (i := 28) rfl)
theorem ow29 {Z : State} {a0 : Array Value} (hw : ∀ d ∈ tables_1, d.before a0 Z = true) : (Jvm.Cond.code ({ cls := "java/lang/Math", name := "min", desc := "(II)I" } : Jvm.MethodName) jdk_29_method_69_code (2 : Nat) (Option.some Jvm.ClassFile.FieldType.int)).before a0 Z = true := hw _ (List.mem_of_getElem? (i := 29) rfl)
theorem ow30 {Z : State} {a0 : Array Value} (hw : ∀ d ∈ tables_1, d.before a0 Z = true) : (Jvm.Cond.methodLink "com/example/telemetree/telemetree/storage/BitReaderReadPinLaw" (23 : Nat) ({ cls := "com/example/telemetree/telemetree/storage/BitReaderReadPinLaw", name := "ref", desc := "([JII)J" } : Jvm.MethodName)).before a0 Z = true := hw _ (List.mem_of_getElem? (i := 30) rfl)
theorem ow31 {Z : State} {a0 : Array Value} (hw : ∀ d ∈ tables_1, d.before a0 Z = true) : (Jvm.Cond.static ({ cls := "com/example/telemetree/telemetree/storage/BitReaderReadPinLaw", name := "ref", desc := "([JII)J" } : Jvm.MethodName)).before a0 Z = true := hw _ (List.mem_of_getElem? (i := 31) rfl)
theorem ow32 {Z : State} {a0 : Array Value} (hw : ∀ d ∈ tables_1, d.before a0 Z = true) : (Jvm.Cond.code ({ cls := "com/example/telemetree/telemetree/storage/BitReaderReadPinLaw", name := "ref", desc := "([JII)J" } : Jvm.MethodName) method_4_code (7 : Nat) (Option.some Jvm.ClassFile.FieldType.long)).before a0 Z = true := hw _ (List.mem_of_getElem? (i := 32) rfl)
theorem d5_0 : decode jdk_29_method_69_code 0 = .ok (.iload_n 0, 1) := by decide +kernel
theorem d5_1 : decode jdk_29_method_69_code 1 = .ok (.iload_n 1, 1) := by decide +kernel
theorem d5_2 : decode jdk_29_method_69_code 2 = .ok (.if_icmp .gt 7, 3) := by decide +kernel
theorem d5_5 : decode jdk_29_method_69_code 5 = .ok (.iload_n 0, 1) := by decide +kernel
theorem d5_6 : decode jdk_29_method_69_code 6 = .ok (.goto 4, 3) := by decide +kernel
theorem d5_9 : decode jdk_29_method_69_code 9 = .ok (.iload_n 1, 1) := by decide +kernel
theorem d5_10 : decode jdk_29_method_69_code 10 = .ok (.ireturn, 1) := by decide +kernel
theorem ef_rm5 (m : MethodId) (y0 : Int32) (y1 : Int32) : entryFrame m #[(.int y0), (.int y1)] 2 = mkF m 0 #[.val (.int y0), .val (.int y1)] [] := by first | (simp [entryFrame, mkF, argsToLocals, Value.category]; done) | rfl
def Q_rm5 (Z : State) (p5_0 : Int32) (p5_1 : Int32) (h0 : Heap) (n0 : Nat) (v : Option Value) (h : Heap) (L : List Loc) : Prop := v = some (.int (if p5_1 < p5_0 then p5_1 else p5_0)) ∧ Fr n0 L ∧ h = h0
set_option maxRecDepth 65536 in
set_option maxHeartbeats 40000000 in
theorem rm5 (l : Launch) (Z : State) (a0 : Array Value) (hw : ∀ d ∈ tables_1, d.before a0 Z = true) (ws : List Jvm.Cond) (p5_0 : Int32) (p5_1 : Int32) (h0 : Heap) (n0 : Nat) (Z0 : n0 ≤ h0.size) :
    MetFree l (⟨"java/lang/Math", "min", "(II)I"⟩ : MethodName) (head1 (Jvm.Cond.code (⟨"java/lang/Math", "min", "(II)I"⟩ : MethodName) jdk_29_method_69_code 2 (some .int) :: ws) ({ frames := 0, cells := 0, slots := 0, locals := 0 } : Room)) (fun a U => a = #[(.int p5_0), (.int p5_1)] ∧ Z.Warmed39 U.vm ∧ U.heap = h0) (fun _ _ _ _ _ => True) (fun _ U o U' => ∃ v L, o = .returned v ∧ Q_rm5 Z p5_0 p5_1 h0 n0 v U'.heap L ∧ FrameEnd U o U' L ({ frames := 0, cells := 0, slots := 0, locals := 0 } : Room).cells ({ frames := 0, cells := 0, slots := 0, locals := 0 } : Room).slots) := by
  refine MetFree.of_bodySF (Jvm.Free.JP.mathPlain rfl (by decide +kernel)) hisR ?_
  intro p e s m args below meth c s₁ Bd hml0 hP hK
  obtain ⟨rfl, hZ, hh⟩ := hP
  have hx := Bd.exec
  have hby := Bd.bytes
  have hml : c.maxLocals = 2 := hml0
  have hown : s.vm.findClass "java/lang/Math" = some m.cls := findClass_of_methodNamed Bd.named
  have hnm := (name_of_methodNamed Bd.named Bd.method).1
  have X0 : Stand p l e ({ frames := 0, cells := 0, slots := 0, locals := 0 } : Room) s m #[(.int p5_0), (.int p5_1)] below meth c s₁ [] 0 0 := Stand.of_body Bd
  have e0 : s₁.heap = h0 := by rw [← hh, Bd.state]; rfl
  have N0 := Fr.nil n0
  have pre0 : ∀ t, Steps p.tables e below (s₁.setTop (mkF m 0 #[.val (.int p5_0), .val (.int p5_1)] [])) t → Steps p.tables e below (s₁.setTop (entryFrame m #[(.int p5_0), (.int p5_1)] 2)) t := fun t k => castTop (ef_rm5 m p5_0 p5_1) k
  have G1 : ∀ t, Steps p.tables e below (s₁.setTop (mkF m 2 #[.val (.int p5_0), .val (.int p5_1)] [(.int p5_1), (.int p5_0)])) t → Steps p.tables e below (s₁.setTop (mkF m 0 #[.val (.int p5_0), .val (.int p5_1)] [])) t := by
    intro t k
    show Steps p.tables e below (s₁.setTop (mkF m 0 #[.val (.int p5_0), .val (.int p5_1)] [])) _
    refine XS.iloadN X0.here hx rfl (hb hby d5_0) rfl ?_
    show Steps p.tables e below (s₁.setTop (mkF m 1 #[.val (.int p5_0), .val (.int p5_1)] [(.int p5_0)])) _
    refine XS.iloadN X0.here hx rfl (hb hby d5_1) rfl ?_
    exact k
  by_cases h2_2 : p5_1 < p5_0
  · obtain ⟨fs, hr, hrun, hended, hW, hsame⟩ := X0.leave (v := some (.int p5_1)) (fun h => by rw [Bd.returns] at h; cases h)
    refine ⟨_, _, pre0 _ ?_, hrun, hended, _, _, rfl, ?_, ⟨_, rfl⟩, hW, hsame.mono (by decide) (by decide)⟩
    · refine G1 _ ?_
      show Steps p.tables e below (s₁.setTop (mkF m 2 #[.val (.int p5_0), .val (.int p5_1)] [(.int p5_1), (.int p5_0)])) _
      refine XS.icmpYes X0.here hx rfl (pc0 := 2) (pc' := 9) rfl (hb hby d5_2) rfl (tlt h2_2).2.2.1 (by decide) (by decide) ?_
      show Steps p.tables e below (s₁.setTop (mkF m 9 #[.val (.int p5_0), .val (.int p5_1)] [])) _
      refine XS.iloadN X0.here hx rfl (hb hby d5_9) rfl ?_
      show Steps p.tables e below (s₁.setTop (mkF m 10 #[.val (.int p5_0), .val (.int p5_1)] [(.int p5_1)])) _
      exact retI X0 hx Bd.returns (hb hby d5_10) hr
    · show Q_rm5 Z p5_0 p5_1 h0 n0 _ s₁.heap _
      rw [e0]
      exact ⟨(congrArg (fun z => some (Value.int z)) (if_pos h2_2).symm), N0, rfl⟩
  · obtain ⟨fs, hr, hrun, hended, hW, hsame⟩ := X0.leave (v := some (.int p5_0)) (fun h => by rw [Bd.returns] at h; cases h)
    refine ⟨_, _, pre0 _ ?_, hrun, hended, _, _, rfl, ?_, ⟨_, rfl⟩, hW, hsame.mono (by decide) (by decide)⟩
    · refine G1 _ ?_
      show Steps p.tables e below (s₁.setTop (mkF m 2 #[.val (.int p5_0), .val (.int p5_1)] [(.int p5_1), (.int p5_0)])) _
      refine XS.icmpNo X0.here hx rfl (hb hby d5_2) rfl (flt h2_2).2.2.1 ?_
      show Steps p.tables e below (s₁.setTop (mkF m 5 #[.val (.int p5_0), .val (.int p5_1)] [])) _
      refine XS.iloadN X0.here hx rfl (hb hby d5_5) rfl ?_
      show Steps p.tables e below (s₁.setTop (mkF m 6 #[.val (.int p5_0), .val (.int p5_1)] [(.int p5_0)])) _
      refine XS.goto X0.here hx rfl (pc0 := 6) (pc' := 10) rfl (hb hby d5_6) (by decide) (by decide) ?_
      show Steps p.tables e below (s₁.setTop (mkF m 10 #[.val (.int p5_0), .val (.int p5_1)] [(.int p5_0)])) _
      exact retI X0 hx Bd.returns (hb hby d5_10) hr
    · show Q_rm5 Z p5_0 p5_1 h0 n0 _ s₁.heap _
      rw [e0]
      exact ⟨(congrArg (fun z => some (Value.int z)) (if_neg h2_2).symm), N0, rfl⟩
theorem os_rd_17 {z0 : Value} {z1 : Value} {z2 : Value} {z4 : Value} {s5 : Slot} {s6 : Slot} {s7 : Slot} {s8 : Slot} {v : Int32} (h : One s5) : storeLocals #[.val z0, .val z1, .val z2, .second, .val z4, s5, s6, s7, s8] 5 (.int v) = some #[.val z0, .val z1, .val z2, .second, .val z4, .val (.int v), s6, s7, s8] := by
  rcases h with rfl | ⟨w, rfl, hw⟩
  · rfl
  · cases w <;> first | rfl | (simp [Value.category] at hw)
theorem os_rd_31 {z0 : Value} {z1 : Value} {z2 : Value} {z4 : Value} {z5 : Value} {s6 : Slot} {s7 : Slot} {s8 : Slot} {v : Int32} (h : One s6) : storeLocals #[.val z0, .val z1, .val z2, .second, .val z4, .val z5, s6, s7, s8] 6 (.int v) = some #[.val z0, .val z1, .val z2, .second, .val z4, .val z5, .val (.int v), s7, s8] := by
  rcases h with rfl | ⟨w, rfl, hw⟩
  · rfl
  · cases w <;> first | rfl | (simp [Value.category] at hw)
theorem pd__II_I : parseMethodDescriptor "(II)I" = some ⟨[.int, .int], some .int⟩ := by decide +kernel
theorem os_rd_40 {z0 : Value} {z1 : Value} {z2 : Value} {z4 : Value} {z5 : Value} {z6 : Value} {s7 : Slot} {s8 : Slot} {v : Int32} (h : One s7) : storeLocals #[.val z0, .val z1, .val z2, .second, .val z4, .val z5, .val z6, s7, s8] 7 (.int v) = some #[.val z0, .val z1, .val z2, .second, .val z4, .val z5, .val z6, .val (.int v), s8] := by
  rcases h with rfl | ⟨w, rfl, hw⟩
  · rfl
  · cases w <;> first | rfl | (simp [Value.category] at hw)
theorem os_rd_62 {z0 : Value} {z1 : Value} {z2 : Value} {z4 : Value} {z5 : Value} {z6 : Value} {z7 : Value} {s8 : Slot} {v : Int32} (h : One s8) : storeLocals #[.val z0, .val z1, .val z2, .second, .val z4, .val z5, .val z6, .val z7, s8] 8 (.int v) = some #[.val z0, .val z1, .val z2, .second, .val z4, .val z5, .val z6, .val z7, .val (.int v)] := by
  rcases h with rfl | ⟨w, rfl, hw⟩
  · rfl
  · cases w <;> first | rfl | (simp [Value.category] at hw)
theorem d4_5 : decode prog_11_method_2_code 5 = .ok (.iload 4, 2) := by decide +kernel
theorem d4_7 : decode prog_11_method_2_code 7 = .ok (.ifCond .le 88, 3) := by decide +kernel
theorem d4_10 : decode prog_11_method_2_code 10 = .ok (.aload_n 0, 1) := by decide +kernel
theorem d4_11 : decode prog_11_method_2_code 11 = .ok (.getfield 13, 3) := by decide +kernel
theorem d4_14 : decode prog_11_method_2_code 14 = .ok (.iconst 3, 1) := by decide +kernel
theorem d4_15 : decode prog_11_method_2_code 15 = .ok (.lushr, 1) := by decide +kernel
theorem d4_16 : decode prog_11_method_2_code 16 = .ok (.l2i, 1) := by decide +kernel
theorem d4_17 : decode prog_11_method_2_code 17 = .ok (.istore 5, 2) := by decide +kernel
theorem d4_19 : decode prog_11_method_2_code 19 = .ok (.bipush 8, 2) := by decide +kernel
theorem d4_21 : decode prog_11_method_2_code 21 = .ok (.aload_n 0, 1) := by decide +kernel
theorem d4_22 : decode prog_11_method_2_code 22 = .ok (.getfield 13, 3) := by decide +kernel
theorem d4_25 : decode prog_11_method_2_code 25 = .ok (.ldc2_w 17, 3) := by decide +kernel
theorem d4_28 : decode prog_11_method_2_code 28 = .ok (.land, 1) := by decide +kernel
theorem d4_29 : decode prog_11_method_2_code 29 = .ok (.l2i, 1) := by decide +kernel
theorem d4_30 : decode prog_11_method_2_code 30 = .ok (.isub, 1) := by decide +kernel
theorem d4_31 : decode prog_11_method_2_code 31 = .ok (.istore 6, 2) := by decide +kernel
theorem d4_33 : decode prog_11_method_2_code 33 = .ok (.iload 6, 2) := by decide +kernel
theorem d4_35 : decode prog_11_method_2_code 35 = .ok (.iload 4, 2) := by decide +kernel
theorem d4_37 : decode prog_11_method_2_code 37 = .ok (.invokestatic 19, 3) := by decide +kernel
theorem d4_40 : decode prog_11_method_2_code 40 = .ok (.istore 7, 2) := by decide +kernel
theorem d4_42 : decode prog_11_method_2_code 42 = .ok (.aload_n 0, 1) := by decide +kernel
theorem d4_43 : decode prog_11_method_2_code 43 = .ok (.getfield 7, 3) := by decide +kernel
theorem d4_46 : decode prog_11_method_2_code 46 = .ok (.iload 5, 2) := by decide +kernel
theorem d4_48 : decode prog_11_method_2_code 48 = .ok (.baload, 1) := by decide +kernel
theorem d4_49 : decode prog_11_method_2_code 49 = .ok (.iload 6, 2) := by decide +kernel
theorem d4_51 : decode prog_11_method_2_code 51 = .ok (.iload 7, 2) := by decide +kernel
theorem d4_53 : decode prog_11_method_2_code 53 = .ok (.isub, 1) := by decide +kernel
theorem d4_54 : decode prog_11_method_2_code 54 = .ok (.ishr, 1) := by decide +kernel
theorem d4_55 : decode prog_11_method_2_code 55 = .ok (.iconst 1, 1) := by decide +kernel
theorem d4_56 : decode prog_11_method_2_code 56 = .ok (.iload 7, 2) := by decide +kernel
theorem d4_58 : decode prog_11_method_2_code 58 = .ok (.ishl, 1) := by decide +kernel
theorem d4_59 : decode prog_11_method_2_code 59 = .ok (.iconst 1, 1) := by decide +kernel
theorem d4_60 : decode prog_11_method_2_code 60 = .ok (.isub, 1) := by decide +kernel
theorem d4_61 : decode prog_11_method_2_code 61 = .ok (.iand, 1) := by decide +kernel
theorem d4_62 : decode prog_11_method_2_code 62 = .ok (.istore 8, 2) := by decide +kernel
theorem d4_64 : decode prog_11_method_2_code 64 = .ok (.lload_n 2, 1) := by decide +kernel
theorem d4_65 : decode prog_11_method_2_code 65 = .ok (.iload 7, 2) := by decide +kernel
theorem d4_67 : decode prog_11_method_2_code 67 = .ok (.lshl, 1) := by decide +kernel
theorem d4_68 : decode prog_11_method_2_code 68 = .ok (.iload 8, 2) := by decide +kernel
theorem d4_70 : decode prog_11_method_2_code 70 = .ok (.i2l, 1) := by decide +kernel
theorem d4_71 : decode prog_11_method_2_code 71 = .ok (.lor, 1) := by decide +kernel
theorem d4_72 : decode prog_11_method_2_code 72 = .ok (.lstore_n 2, 1) := by decide +kernel
theorem d4_73 : decode prog_11_method_2_code 73 = .ok (.aload_n 0, 1) := by decide +kernel
theorem d4_74 : decode prog_11_method_2_code 74 = .ok (.dup, 1) := by decide +kernel
theorem d4_75 : decode prog_11_method_2_code 75 = .ok (.getfield 13, 3) := by decide +kernel
theorem d4_78 : decode prog_11_method_2_code 78 = .ok (.iload 7, 2) := by decide +kernel
theorem d4_80 : decode prog_11_method_2_code 80 = .ok (.i2l, 1) := by decide +kernel
theorem d4_81 : decode prog_11_method_2_code 81 = .ok (.ladd, 1) := by decide +kernel
theorem d4_82 : decode prog_11_method_2_code 82 = .ok (.putfield 13, 3) := by decide +kernel
theorem d4_85 : decode prog_11_method_2_code 85 = .ok (.iload 4, 2) := by decide +kernel
theorem d4_87 : decode prog_11_method_2_code 87 = .ok (.iload 7, 2) := by decide +kernel
theorem d4_89 : decode prog_11_method_2_code 89 = .ok (.isub, 1) := by decide +kernel
theorem d4_90 : decode prog_11_method_2_code 90 = .ok (.istore 4, 2) := by decide +kernel
theorem d4_92 : decode prog_11_method_2_code 92 = .ok (.goto (-87), 3) := by decide +kernel
def own_idx (pos : Int64) : Int32 := (((pos.toUInt64 >>> ((3 : Int32) &&& 0x3f).toInt64.toUInt64).toInt64).toInt32)
def own_val (f : Int32 → Int32) (pos : Int64) (left : Int32) (val : Int64) : Int64 := ((val <<< ((if left < ((8 : Int32) - ((pos &&& (7 : Int64)).toInt32)) then left else ((8 : Int32) - ((pos &&& (7 : Int64)).toInt32))) &&& 0x3f).toInt64) ||| ((((f (((pos.toUInt64 >>> ((3 : Int32) &&& 0x3f).toInt64.toUInt64).toInt64).toInt32)) >>> ((((8 : Int32) - ((pos &&& (7 : Int64)).toInt32)) - (if left < ((8 : Int32) - ((pos &&& (7 : Int64)).toInt32)) then left else ((8 : Int32) - ((pos &&& (7 : Int64)).toInt32)))) &&& 31)) &&& (((1 : Int32) <<< ((if left < ((8 : Int32) - ((pos &&& (7 : Int64)).toInt32)) then left else ((8 : Int32) - ((pos &&& (7 : Int64)).toInt32))) &&& 31)) - (1 : Int32))).toInt64))
def own_left (pos : Int64) (left : Int32) : Int32 := (left - (if left < ((8 : Int32) - ((pos &&& (7 : Int64)).toInt32)) then left else ((8 : Int32) - ((pos &&& (7 : Int64)).toInt32))))
def own_pos (pos : Int64) (left : Int32) : Int64 := (pos + ((if left < ((8 : Int32) - ((pos &&& (7 : Int64)).toInt32)) then left else ((8 : Int32) - ((pos &&& (7 : Int64)).toInt32))).toInt64))
set_option maxRecDepth 65536 in
set_option maxHeartbeats 40000000 in
theorem own_turn {p : Program} {l : Launch} {e : Env} {s : State} {m : MethodId} {args : Array Value} {below : List Frame} {meth : Method} {c : Code} {Z : State} {a0 : Array Value} {n0 : Nat} (a b : Addr) (cnt left : Int32) (val pos : Int64) (f : Int32 → Int32) (s5 s6 s7 s8 : Slot) (T0 : State) (locs : List Loc) (h0 : Heap) (hx : p.tables.exec = Jvm.exec) (hZ : Z.Warmed39 s.vm) (hw : ∀ d ∈ tables_1, d.before a0 Z = true) (hby : c.code = prog_11_method_2_code) (hml : c.maxLocals = 9) (hown : s.vm.findClass "com/example/telemetree/telemetree/storage/BitReader" = some m.cls)
    (X0 : Stand p l e ({ frames := 1, cells := 0, slots := 0, locals := 13 } : Room) s m args below meth c T0 locs 0 0) (N0 : Fr n0 locs) (e0 : T0.heap = h0) (Z0 : n0 ≤ h0.size) (g_a : n0 ≤ a) (ne_ba : b ≠ a) (hs5 : One s5) (hs6 : One s6) (hs7 : One s7) (hs8 : One s8)
    (E_a : Exa Z h0 a "com/example/telemetree/telemetree/storage/BitReader") (F_bytes : Fld Z h0 a "com/example/telemetree/telemetree/storage/BitReader" "bytes" "[B" (.ref b)) (F_pos : Fld Z h0 a "com/example/telemetree/telemetree/storage/BitReader" "position" "J" (.long pos)) (B_b : Bya Z h0 b (24 : Int32) f) (hleft : (0 : Int32) < left) (hix : ¬ own_idx pos < 0 ∧ own_idx pos < (24 : Int32)) :
    ∃ (T' : State) (locs' : List Loc) (h' : Heap) (s5' s6' s7' s8' : Slot), Stand p l e ({ frames := 1, cells := 0, slots := 0, locals := 13 } : Room) s m args below meth c T' locs' 0 0 ∧ Fr n0 locs' ∧ T'.heap = h' ∧ Keep h0 h' [a] ∧ One s5' ∧ One s6' ∧ One s7' ∧ One s8' ∧ Exa Z h' a "com/example/telemetree/telemetree/storage/BitReader" ∧ Fld Z h' a "com/example/telemetree/telemetree/storage/BitReader" "bytes" "[B" (.ref b) ∧ Fld Z h' a "com/example/telemetree/telemetree/storage/BitReader" "position" "J" (.long (own_pos pos left)) ∧ Bya Z h' b (24 : Int32) f ∧
      ∀ t, Steps p.tables e below (T'.setTop (mkF m 5 #[.val (.ref a), .val (.int cnt), .val (.long (own_val f pos left val)), .second, .val (.int (own_left pos left)), s5', s6', s7', s8'] [])) t → Steps p.tables e below (T0.setTop (mkF m 5 #[.val (.ref a), .val (.int cnt), .val (.long val), .second, .val (.int left), s5, s6, s7, s8] [])) t := by
  obtain ⟨T1, X1, e1, st1⟩ := getF X0 hx hZ hown (host := "") (Or.inl (ow23 hw)) Via.refl e0 F_pos (g := (mkF m 11 #[.val (.ref a), .val (.int cnt), .val (.long val), .second, .val (.int left), s5, s6, s7, s8] [(.ref a)])) rfl rfl (hb hby d4_11)
  obtain ⟨x2, hx2⟩ : ∃ z : Int32, z = (((pos.toUInt64 >>> ((3 : Int32) &&& 0x3f).toInt64.toUInt64).toInt64).toInt32) := ⟨_, rfl⟩
  obtain ⟨T3, X3, e3, st3⟩ := getF X1 hx hZ hown (host := "") (Or.inl (ow23 hw)) Via.refl e1 F_pos (g := (mkF m 22 #[.val (.ref a), .val (.int cnt), .val (.long val), .second, .val (.int left), .val (.int x2), s6, s7, s8] [(.ref a), (.int (8 : Int32))])) rfl rfl (hb hby d4_22)
  obtain ⟨x4, hx4⟩ : ∃ z : Int32, z = ((8 : Int32) - ((pos &&& (7 : Int64)).toInt32)) := ⟨_, rfl⟩
  obtain ⟨_, _, ⟨T5, L5, k5, n5⟩, -, X5, ⟨Lc5, hQ5, l5, y5, z5⟩, st5⟩ := Jvm.LawKit.callS X3 hx (y := (⟨"java/lang/Math", "min", "(II)I"⟩ : MethodName)) hown (mvT hZ (ow26 hw)) (mvT hZ (ow27 hw)) (mvT hZ (ow28 hw)) (mvT hZ (ow29 hw)) (by decide) (backOf (W := 0) (rm5 l Z a0 hw [] x4 left h0 n0 Z0 ) hZ (ow29 hw) (ow28 hw) (by decide) (by decide)) (g := (mkF m 37 #[.val (.ref a), .val (.int cnt), .val (.long val), .second, .val (.int left), .val (.int x2), .val (.int x4), s7, s8] [(.int left), (.int x4)])) rfl (by rw [hml]; rfl) (argsL := [(.int x4), (.int left)]) (rest := []) (lenOf pd__II_I rfl) rfl (by show 2 * 0 + _ ≤ _; exact Nat.le_of_eq rfl) (hb hby d4_37) (fun _ _ => ⟨rfl, e3, (by decide : 0 + 0 ≤ _), (by decide : 0 + 0 ≤ _)⟩)
  dsimp only [Pt.U, Pt.locs, Pt.cells, Pt.slots] at X5 l5 y5 z5 st5 hQ5
  subst l5 y5 z5
  obtain ⟨rfl, Nq5, e5⟩ := hQ5
  have N5 := Fr.app N0 Nq5
  obtain ⟨x6, hx6⟩ : ∃ z : Int32, z = (if left < x4 then left else x4) := ⟨_, rfl⟩
  obtain ⟨T7, X7, e7, st7⟩ := getF X5 hx hZ hown (host := "") (Or.inl (ow16 hw)) Via.refl e5 F_bytes (g := (mkF m 43 #[.val (.ref a), .val (.int cnt), .val (.long val), .second, .val (.int left), .val (.int x2), .val (.int x4), .val (.int x6), s8] [(.ref a)])) rfl rfl (hb hby d4_43)
  obtain ⟨cl8, Ar8, Sz8, Hh8⟩ := id B_b
  obtain ⟨x9, hx9⟩ : ∃ z : Int32, z = (((f x2) >>> ((x4 - x6) &&& 31)) &&& (((1 : Int32) <<< (x6 &&& 31)) - (1 : Int32))) := ⟨_, rfl⟩
  obtain ⟨x10, hx10⟩ : ∃ z : Int64, z = ((val <<< (x6 &&& 0x3f).toInt64) ||| (x9.toInt64)) := ⟨_, rfl⟩
  obtain ⟨T11, X11, e11, st11⟩ := getF X7 hx hZ hown (host := "") (Or.inl (ow23 hw)) Via.refl e7 F_pos (g := (mkF m 75 #[.val (.ref a), .val (.int cnt), .val (.long x10), .second, .val (.int left), .val (.int x2), .val (.int x4), .val (.int x6), .val (.int x9)] [(.ref a), (.ref a)])) rfl rfl (hb hby d4_75)
  obtain ⟨T12, h12, X12, e12, W12, st12⟩ := putF X11 hx hZ hown (host := "") (Or.inl (ow23 hw)) Via.refl e11 F_pos E_a (Or.inl (ow24 hw)) (ow8 hw) (ty := .long) (by decide) rfl rfl (g := (mkF m 82 #[.val (.ref a), .val (.int cnt), .val (.long x10), .second, .val (.int left), .val (.int x2), .val (.int x4), .val (.int x6), .val (.int x9)] [(.long (pos + (x6.toInt64))), (.ref a)])) rfl rfl (hb hby d4_82)
  have F12 := F_pos.same W12
  have K12 : Keep h0 h12 [a] := (Keep.refl h0 [a]).wr W12 (Or.inl (List.mem_of_getElem? (i := 0) rfl))
  have Z12 : n0 ≤ h12.size := Nat.le_trans Z0 K12.1
  have N12 := Fr.snoc X12 N5 g_a
  have G13 : ∀ t, Steps p.tables e below (T12.setTop (mkF m 5 #[.val (.ref a), .val (.int cnt), .val (.long x10), .second, .val (.int (left - x6)), .val (.int x2), .val (.int x4), .val (.int x6), .val (.int x9)] [])) t → Steps p.tables e below (T0.setTop (mkF m 5 #[.val (.ref a), .val (.int cnt), .val (.long val), .second, .val (.int left), s5, s6, s7, s8] [])) t := by
    intro t k
    show Steps p.tables e below (T0.setTop (mkF m 5 #[.val (.ref a), .val (.int cnt), .val (.long val), .second, .val (.int left), s5, s6, s7, s8] [])) _
    refine XS.iload X0.here hx rfl (hb hby d4_5) rfl ?_
    show Steps p.tables e below (T0.setTop (mkF m 7 #[.val (.ref a), .val (.int cnt), .val (.long val), .second, .val (.int left), s5, s6, s7, s8] [(.int left)])) _
    refine XS.ifNo X0.here hx rfl (hb hby d4_7) rfl ((if0 _ _).trans (tlt hleft).2.2.2) ?_
    show Steps p.tables e below (T0.setTop (mkF m 10 #[.val (.ref a), .val (.int cnt), .val (.long val), .second, .val (.int left), s5, s6, s7, s8] [])) _
    refine XS.aloadN X0.here hx rfl (hb hby d4_10) rfl rfl ?_
    show Steps p.tables e below (T0.setTop (mkF m 11 #[.val (.ref a), .val (.int cnt), .val (.long val), .second, .val (.int left), s5, s6, s7, s8] [(.ref a)])) _
    refine st1 _ ?_
    show Steps p.tables e below (T1.setTop (mkF m 14 #[.val (.ref a), .val (.int cnt), .val (.long val), .second, .val (.int left), s5, s6, s7, s8] [(.long pos)])) _
    refine XS.iconst X1.here hx rfl (hb hby d4_14) ?_
    show Steps p.tables e below (T1.setTop (mkF m 15 #[.val (.ref a), .val (.int cnt), .val (.long val), .second, .val (.int left), s5, s6, s7, s8] [(.int (3 : Int32)), (.long pos)])) _
    refine XS.lushr X1.here hx rfl (hb hby d4_15) rfl ?_
    show Steps p.tables e below (T1.setTop (mkF m 16 #[.val (.ref a), .val (.int cnt), .val (.long val), .second, .val (.int left), s5, s6, s7, s8] [(.long ((pos.toUInt64 >>> ((3 : Int32) &&& 0x3f).toInt64.toUInt64).toInt64))])) _
    refine XS.l2i X1.here hx rfl (hb hby d4_16) rfl ?_
    show Steps p.tables e below (T1.setTop (mkF m 17 #[.val (.ref a), .val (.int cnt), .val (.long val), .second, .val (.int left), s5, s6, s7, s8] [(.int (((pos.toUInt64 >>> ((3 : Int32) &&& 0x3f).toInt64.toUInt64).toInt64).toInt32))])) _
    refine XS.istore X1.here hx rfl (hb hby d4_17) rfl (l' := #[.val (.ref a), .val (.int cnt), .val (.long val), .second, .val (.int left), .val (.int (((pos.toUInt64 >>> ((3 : Int32) &&& 0x3f).toInt64.toUInt64).toInt64).toInt32)), s6, s7, s8]) (os_rd_17 hs5) ?_
    show Steps p.tables e below (T1.setTop (mkF m 19 #[.val (.ref a), .val (.int cnt), .val (.long val), .second, .val (.int left), .val (.int (((pos.toUInt64 >>> ((3 : Int32) &&& 0x3f).toInt64.toUInt64).toInt64).toInt32)), s6, s7, s8] [])) _
    rw [← hx2]
    show Steps p.tables e below (T1.setTop (mkF m 19 #[.val (.ref a), .val (.int cnt), .val (.long val), .second, .val (.int left), .val (.int x2), s6, s7, s8] [])) _
    refine XS.bipush X1.here hx rfl (hb hby d4_19) ?_
    show Steps p.tables e below (T1.setTop (mkF m 21 #[.val (.ref a), .val (.int cnt), .val (.long val), .second, .val (.int left), .val (.int x2), s6, s7, s8] [(.int (8 : Int32))])) _
    refine XS.aloadN X1.here hx rfl (hb hby d4_21) rfl rfl ?_
    show Steps p.tables e below (T1.setTop (mkF m 22 #[.val (.ref a), .val (.int cnt), .val (.long val), .second, .val (.int left), .val (.int x2), s6, s7, s8] [(.ref a), (.int (8 : Int32))])) _
    refine st3 _ ?_
    show Steps p.tables e below (T3.setTop (mkF m 25 #[.val (.ref a), .val (.int cnt), .val (.long val), .second, .val (.int left), .val (.int x2), s6, s7, s8] [(.long pos), (.int (8 : Int32))])) _
    refine X3.ldc2Long hx hown (mvT hZ (ow25 hw)) (g := (mkF m 25 #[.val (.ref a), .val (.int cnt), .val (.long val), .second, .val (.int left), .val (.int x2), s6, s7, s8] [(.long pos), (.int (8 : Int32))])) rfl (hb hby d4_25) _ ?_
    show Steps p.tables e below (T3.setTop (mkF m 28 #[.val (.ref a), .val (.int cnt), .val (.long val), .second, .val (.int left), .val (.int x2), s6, s7, s8] [(.long (7 : Int64)), (.long pos), (.int (8 : Int32))])) _
    refine XS.land X3.here hx rfl (hb hby d4_28) rfl ?_
    show Steps p.tables e below (T3.setTop (mkF m 29 #[.val (.ref a), .val (.int cnt), .val (.long val), .second, .val (.int left), .val (.int x2), s6, s7, s8] [(.long (pos &&& (7 : Int64))), (.int (8 : Int32))])) _
    refine XS.l2i X3.here hx rfl (hb hby d4_29) rfl ?_
    show Steps p.tables e below (T3.setTop (mkF m 30 #[.val (.ref a), .val (.int cnt), .val (.long val), .second, .val (.int left), .val (.int x2), s6, s7, s8] [(.int ((pos &&& (7 : Int64)).toInt32)), (.int (8 : Int32))])) _
    refine XS.isub X3.here hx rfl (hb hby d4_30) rfl ?_
    show Steps p.tables e below (T3.setTop (mkF m 31 #[.val (.ref a), .val (.int cnt), .val (.long val), .second, .val (.int left), .val (.int x2), s6, s7, s8] [(.int ((8 : Int32) - ((pos &&& (7 : Int64)).toInt32)))])) _
    refine XS.istore X3.here hx rfl (hb hby d4_31) rfl (l' := #[.val (.ref a), .val (.int cnt), .val (.long val), .second, .val (.int left), .val (.int x2), .val (.int ((8 : Int32) - ((pos &&& (7 : Int64)).toInt32))), s7, s8]) (os_rd_31 hs6) ?_
    show Steps p.tables e below (T3.setTop (mkF m 33 #[.val (.ref a), .val (.int cnt), .val (.long val), .second, .val (.int left), .val (.int x2), .val (.int ((8 : Int32) - ((pos &&& (7 : Int64)).toInt32))), s7, s8] [])) _
    rw [← hx4]
    show Steps p.tables e below (T3.setTop (mkF m 33 #[.val (.ref a), .val (.int cnt), .val (.long val), .second, .val (.int left), .val (.int x2), .val (.int x4), s7, s8] [])) _
    refine XS.iload X3.here hx rfl (hb hby d4_33) rfl ?_
    show Steps p.tables e below (T3.setTop (mkF m 35 #[.val (.ref a), .val (.int cnt), .val (.long val), .second, .val (.int left), .val (.int x2), .val (.int x4), s7, s8] [(.int x4)])) _
    refine XS.iload X3.here hx rfl (hb hby d4_35) rfl ?_
    show Steps p.tables e below (T3.setTop (mkF m 37 #[.val (.ref a), .val (.int cnt), .val (.long val), .second, .val (.int left), .val (.int x2), .val (.int x4), s7, s8] [(.int left), (.int x4)])) _
    refine st5 _ ?_
    show Steps p.tables e below (T5.setTop (mkF m 40 #[.val (.ref a), .val (.int cnt), .val (.long val), .second, .val (.int left), .val (.int x2), .val (.int x4), s7, s8] [(.int (if left < x4 then left else x4))])) _
    rw [← hx6]
    show Steps p.tables e below (T5.setTop (mkF m 40 #[.val (.ref a), .val (.int cnt), .val (.long val), .second, .val (.int left), .val (.int x2), .val (.int x4), s7, s8] [(.int x6)])) _
    refine XS.istore X5.here hx rfl (hb hby d4_40) rfl (l' := #[.val (.ref a), .val (.int cnt), .val (.long val), .second, .val (.int left), .val (.int x2), .val (.int x4), .val (.int x6), s8]) (os_rd_40 hs7) ?_
    show Steps p.tables e below (T5.setTop (mkF m 42 #[.val (.ref a), .val (.int cnt), .val (.long val), .second, .val (.int left), .val (.int x2), .val (.int x4), .val (.int x6), s8] [])) _
    refine XS.aloadN X5.here hx rfl (hb hby d4_42) rfl rfl ?_
    show Steps p.tables e below (T5.setTop (mkF m 43 #[.val (.ref a), .val (.int cnt), .val (.long val), .second, .val (.int left), .val (.int x2), .val (.int x4), .val (.int x6), s8] [(.ref a)])) _
    refine st7 _ ?_
    show Steps p.tables e below (T7.setTop (mkF m 46 #[.val (.ref a), .val (.int cnt), .val (.long val), .second, .val (.int left), .val (.int x2), .val (.int x4), .val (.int x6), s8] [(.ref b)])) _
    refine XS.iload X7.here hx rfl (hb hby d4_46) rfl ?_
    show Steps p.tables e below (T7.setTop (mkF m 48 #[.val (.ref a), .val (.int cnt), .val (.long val), .second, .val (.int left), .val (.int x2), .val (.int x4), .val (.int x6), s8] [(.int x2), (.ref b)])) _
    refine X7.baloadBytes hx (j := x2) (v := (.int (f x2))) (by rw [e7]; exact Ar8.1) (State.isArrayOf_alike hZ.alike Ar8.2.1) Ar8.2.2 (inb_of Sz8 (show ¬ x2 < 0 ∧ x2 < (24 : Int32) from by rw [hx2]; exact hix)) (Hh8 _ (show ¬ x2 < 0 ∧ x2 < (24 : Int32) from by rw [hx2]; exact hix).1 (show ¬ x2 < 0 ∧ x2 < (24 : Int32) from by rw [hx2]; exact hix).2) (g := (mkF m 48 #[.val (.ref a), .val (.int cnt), .val (.long val), .second, .val (.int left), .val (.int x2), .val (.int x4), .val (.int x6), s8] [(.int x2), (.ref b)])) rfl rfl (hb hby d4_48) _ ?_
    show Steps p.tables e below (T7.setTop (mkF m 49 #[.val (.ref a), .val (.int cnt), .val (.long val), .second, .val (.int left), .val (.int x2), .val (.int x4), .val (.int x6), s8] [(.int (f x2))])) _
    refine XS.iload X7.here hx rfl (hb hby d4_49) rfl ?_
    show Steps p.tables e below (T7.setTop (mkF m 51 #[.val (.ref a), .val (.int cnt), .val (.long val), .second, .val (.int left), .val (.int x2), .val (.int x4), .val (.int x6), s8] [(.int x4), (.int (f x2))])) _
    refine XS.iload X7.here hx rfl (hb hby d4_51) rfl ?_
    show Steps p.tables e below (T7.setTop (mkF m 53 #[.val (.ref a), .val (.int cnt), .val (.long val), .second, .val (.int left), .val (.int x2), .val (.int x4), .val (.int x6), s8] [(.int x6), (.int x4), (.int (f x2))])) _
    refine XS.isub X7.here hx rfl (hb hby d4_53) rfl ?_
    show Steps p.tables e below (T7.setTop (mkF m 54 #[.val (.ref a), .val (.int cnt), .val (.long val), .second, .val (.int left), .val (.int x2), .val (.int x4), .val (.int x6), s8] [(.int (x4 - x6)), (.int (f x2))])) _
    refine XS.ishr X7.here hx rfl (hb hby d4_54) rfl ?_
    show Steps p.tables e below (T7.setTop (mkF m 55 #[.val (.ref a), .val (.int cnt), .val (.long val), .second, .val (.int left), .val (.int x2), .val (.int x4), .val (.int x6), s8] [(.int ((f x2) >>> ((x4 - x6) &&& 31)))])) _
    refine XS.iconst X7.here hx rfl (hb hby d4_55) ?_
    show Steps p.tables e below (T7.setTop (mkF m 56 #[.val (.ref a), .val (.int cnt), .val (.long val), .second, .val (.int left), .val (.int x2), .val (.int x4), .val (.int x6), s8] [(.int (1 : Int32)), (.int ((f x2) >>> ((x4 - x6) &&& 31)))])) _
    refine XS.iload X7.here hx rfl (hb hby d4_56) rfl ?_
    show Steps p.tables e below (T7.setTop (mkF m 58 #[.val (.ref a), .val (.int cnt), .val (.long val), .second, .val (.int left), .val (.int x2), .val (.int x4), .val (.int x6), s8] [(.int x6), (.int (1 : Int32)), (.int ((f x2) >>> ((x4 - x6) &&& 31)))])) _
    refine XS.ishl X7.here hx rfl (hb hby d4_58) rfl ?_
    show Steps p.tables e below (T7.setTop (mkF m 59 #[.val (.ref a), .val (.int cnt), .val (.long val), .second, .val (.int left), .val (.int x2), .val (.int x4), .val (.int x6), s8] [(.int ((1 : Int32) <<< (x6 &&& 31))), (.int ((f x2) >>> ((x4 - x6) &&& 31)))])) _
    refine XS.iconst X7.here hx rfl (hb hby d4_59) ?_
    show Steps p.tables e below (T7.setTop (mkF m 60 #[.val (.ref a), .val (.int cnt), .val (.long val), .second, .val (.int left), .val (.int x2), .val (.int x4), .val (.int x6), s8] [(.int (1 : Int32)), (.int ((1 : Int32) <<< (x6 &&& 31))), (.int ((f x2) >>> ((x4 - x6) &&& 31)))])) _
    refine XS.isub X7.here hx rfl (hb hby d4_60) rfl ?_
    show Steps p.tables e below (T7.setTop (mkF m 61 #[.val (.ref a), .val (.int cnt), .val (.long val), .second, .val (.int left), .val (.int x2), .val (.int x4), .val (.int x6), s8] [(.int (((1 : Int32) <<< (x6 &&& 31)) - (1 : Int32))), (.int ((f x2) >>> ((x4 - x6) &&& 31)))])) _
    refine XS.iand X7.here hx rfl (hb hby d4_61) rfl ?_
    show Steps p.tables e below (T7.setTop (mkF m 62 #[.val (.ref a), .val (.int cnt), .val (.long val), .second, .val (.int left), .val (.int x2), .val (.int x4), .val (.int x6), s8] [(.int (((f x2) >>> ((x4 - x6) &&& 31)) &&& (((1 : Int32) <<< (x6 &&& 31)) - (1 : Int32))))])) _
    refine XS.istore X7.here hx rfl (hb hby d4_62) rfl (l' := #[.val (.ref a), .val (.int cnt), .val (.long val), .second, .val (.int left), .val (.int x2), .val (.int x4), .val (.int x6), .val (.int (((f x2) >>> ((x4 - x6) &&& 31)) &&& (((1 : Int32) <<< (x6 &&& 31)) - (1 : Int32))))]) (os_rd_62 hs8) ?_
    show Steps p.tables e below (T7.setTop (mkF m 64 #[.val (.ref a), .val (.int cnt), .val (.long val), .second, .val (.int left), .val (.int x2), .val (.int x4), .val (.int x6), .val (.int (((f x2) >>> ((x4 - x6) &&& 31)) &&& (((1 : Int32) <<< (x6 &&& 31)) - (1 : Int32))))] [])) _
    rw [← hx9]
    show Steps p.tables e below (T7.setTop (mkF m 64 #[.val (.ref a), .val (.int cnt), .val (.long val), .second, .val (.int left), .val (.int x2), .val (.int x4), .val (.int x6), .val (.int x9)] [])) _
    refine XS.lloadN X7.here hx rfl (hb hby d4_64) rfl ?_
    show Steps p.tables e below (T7.setTop (mkF m 65 #[.val (.ref a), .val (.int cnt), .val (.long val), .second, .val (.int left), .val (.int x2), .val (.int x4), .val (.int x6), .val (.int x9)] [(.long val)])) _
    refine XS.iload X7.here hx rfl (hb hby d4_65) rfl ?_
    show Steps p.tables e below (T7.setTop (mkF m 67 #[.val (.ref a), .val (.int cnt), .val (.long val), .second, .val (.int left), .val (.int x2), .val (.int x4), .val (.int x6), .val (.int x9)] [(.int x6), (.long val)])) _
    refine XS.lshl X7.here hx rfl (hb hby d4_67) rfl ?_
    show Steps p.tables e below (T7.setTop (mkF m 68 #[.val (.ref a), .val (.int cnt), .val (.long val), .second, .val (.int left), .val (.int x2), .val (.int x4), .val (.int x6), .val (.int x9)] [(.long (val <<< (x6 &&& 0x3f).toInt64))])) _
    refine XS.iload X7.here hx rfl (hb hby d4_68) rfl ?_
    show Steps p.tables e below (T7.setTop (mkF m 70 #[.val (.ref a), .val (.int cnt), .val (.long val), .second, .val (.int left), .val (.int x2), .val (.int x4), .val (.int x6), .val (.int x9)] [(.int x9), (.long (val <<< (x6 &&& 0x3f).toInt64))])) _
    refine XS.i2l X7.here hx rfl (hb hby d4_70) rfl ?_
    show Steps p.tables e below (T7.setTop (mkF m 71 #[.val (.ref a), .val (.int cnt), .val (.long val), .second, .val (.int left), .val (.int x2), .val (.int x4), .val (.int x6), .val (.int x9)] [(.long (x9.toInt64)), (.long (val <<< (x6 &&& 0x3f).toInt64))])) _
    refine XS.lor X7.here hx rfl (hb hby d4_71) rfl ?_
    show Steps p.tables e below (T7.setTop (mkF m 72 #[.val (.ref a), .val (.int cnt), .val (.long val), .second, .val (.int left), .val (.int x2), .val (.int x4), .val (.int x6), .val (.int x9)] [(.long ((val <<< (x6 &&& 0x3f).toInt64) ||| (x9.toInt64)))])) _
    refine XS.lstoreN X7.here hx rfl (hb hby d4_72) rfl (l' := #[.val (.ref a), .val (.int cnt), .val (.long ((val <<< (x6 &&& 0x3f).toInt64) ||| (x9.toInt64))), .second, .val (.int left), .val (.int x2), .val (.int x4), .val (.int x6), .val (.int x9)]) rfl ?_
    show Steps p.tables e below (T7.setTop (mkF m 73 #[.val (.ref a), .val (.int cnt), .val (.long ((val <<< (x6 &&& 0x3f).toInt64) ||| (x9.toInt64))), .second, .val (.int left), .val (.int x2), .val (.int x4), .val (.int x6), .val (.int x9)] [])) _
    rw [← hx10]
    show Steps p.tables e below (T7.setTop (mkF m 73 #[.val (.ref a), .val (.int cnt), .val (.long x10), .second, .val (.int left), .val (.int x2), .val (.int x4), .val (.int x6), .val (.int x9)] [])) _
    refine XS.aloadN X7.here hx rfl (hb hby d4_73) rfl rfl ?_
    show Steps p.tables e below (T7.setTop (mkF m 74 #[.val (.ref a), .val (.int cnt), .val (.long x10), .second, .val (.int left), .val (.int x2), .val (.int x4), .val (.int x6), .val (.int x9)] [(.ref a)])) _
    refine XS.dup X7.here hx rfl (hb hby d4_74) rfl rfl ?_
    show Steps p.tables e below (T7.setTop (mkF m 75 #[.val (.ref a), .val (.int cnt), .val (.long x10), .second, .val (.int left), .val (.int x2), .val (.int x4), .val (.int x6), .val (.int x9)] [(.ref a), (.ref a)])) _
    refine st11 _ ?_
    show Steps p.tables e below (T11.setTop (mkF m 78 #[.val (.ref a), .val (.int cnt), .val (.long x10), .second, .val (.int left), .val (.int x2), .val (.int x4), .val (.int x6), .val (.int x9)] [(.long pos), (.ref a)])) _
    refine XS.iload X11.here hx rfl (hb hby d4_78) rfl ?_
    show Steps p.tables e below (T11.setTop (mkF m 80 #[.val (.ref a), .val (.int cnt), .val (.long x10), .second, .val (.int left), .val (.int x2), .val (.int x4), .val (.int x6), .val (.int x9)] [(.int x6), (.long pos), (.ref a)])) _
    refine XS.i2l X11.here hx rfl (hb hby d4_80) rfl ?_
    show Steps p.tables e below (T11.setTop (mkF m 81 #[.val (.ref a), .val (.int cnt), .val (.long x10), .second, .val (.int left), .val (.int x2), .val (.int x4), .val (.int x6), .val (.int x9)] [(.long (x6.toInt64)), (.long pos), (.ref a)])) _
    refine XS.ladd X11.here hx rfl (hb hby d4_81) rfl ?_
    show Steps p.tables e below (T11.setTop (mkF m 82 #[.val (.ref a), .val (.int cnt), .val (.long x10), .second, .val (.int left), .val (.int x2), .val (.int x4), .val (.int x6), .val (.int x9)] [(.long (pos + (x6.toInt64))), (.ref a)])) _
    refine st12 _ ?_
    show Steps p.tables e below (T12.setTop (mkF m 85 #[.val (.ref a), .val (.int cnt), .val (.long x10), .second, .val (.int left), .val (.int x2), .val (.int x4), .val (.int x6), .val (.int x9)] [])) _
    refine XS.iload X12.here hx rfl (hb hby d4_85) rfl ?_
    show Steps p.tables e below (T12.setTop (mkF m 87 #[.val (.ref a), .val (.int cnt), .val (.long x10), .second, .val (.int left), .val (.int x2), .val (.int x4), .val (.int x6), .val (.int x9)] [(.int left)])) _
    refine XS.iload X12.here hx rfl (hb hby d4_87) rfl ?_
    show Steps p.tables e below (T12.setTop (mkF m 89 #[.val (.ref a), .val (.int cnt), .val (.long x10), .second, .val (.int left), .val (.int x2), .val (.int x4), .val (.int x6), .val (.int x9)] [(.int x6), (.int left)])) _
    refine XS.isub X12.here hx rfl (hb hby d4_89) rfl ?_
    show Steps p.tables e below (T12.setTop (mkF m 90 #[.val (.ref a), .val (.int cnt), .val (.long x10), .second, .val (.int left), .val (.int x2), .val (.int x4), .val (.int x6), .val (.int x9)] [(.int (left - x6))])) _
    refine XS.istore X12.here hx rfl (hb hby d4_90) rfl (l' := #[.val (.ref a), .val (.int cnt), .val (.long x10), .second, .val (.int (left - x6)), .val (.int x2), .val (.int x4), .val (.int x6), .val (.int x9)]) rfl ?_
    show Steps p.tables e below (T12.setTop (mkF m 92 #[.val (.ref a), .val (.int cnt), .val (.long x10), .second, .val (.int (left - x6)), .val (.int x2), .val (.int x4), .val (.int x6), .val (.int x9)] [])) _
    refine XS.goto X12.here hx rfl (pc0 := 92) (pc' := 5) rfl (hb hby d4_92) (by decide) (by decide) ?_
    exact k
  have f14 := (E_a.wr W12)
  have f15 := (F_bytes.other W12 (Or.inr (slot_ne (Or.inr (ow17 hw)) (Or.inl (ow24 hw)) (by decide) (t := (.array .byte)) (t' := .long) (by decide) (by decide))))
  have f16 := (B_b.other W12 ne_ba)
  subst hx10
  subst hx9
  subst hx6
  subst hx4
  subst hx2
  exact ⟨T12, _, h12, (.val (.int (((pos.toUInt64 >>> ((3 : Int32) &&& 0x3f).toInt64.toUInt64).toInt64).toInt32))), (.val (.int ((8 : Int32) - ((pos &&& (7 : Int64)).toInt32)))), (.val (.int (if left < ((8 : Int32) - ((pos &&& (7 : Int64)).toInt32)) then left else ((8 : Int32) - ((pos &&& (7 : Int64)).toInt32))))), (.val (.int (((f (((pos.toUInt64 >>> ((3 : Int32) &&& 0x3f).toInt64.toUInt64).toInt64).toInt32)) >>> ((((8 : Int32) - ((pos &&& (7 : Int64)).toInt32)) - (if left < ((8 : Int32) - ((pos &&& (7 : Int64)).toInt32)) then left else ((8 : Int32) - ((pos &&& (7 : Int64)).toInt32)))) &&& 31)) &&& (((1 : Int32) <<< ((if left < ((8 : Int32) - ((pos &&& (7 : Int64)).toInt32)) then left else ((8 : Int32) - ((pos &&& (7 : Int64)).toInt32))) &&& 31)) - (1 : Int32))))), X12, N12, e12, K12, One.val rfl, One.val rfl, One.val rfl, One.val rfl, f14, f15, F12, f16, fun t k => (G13 _ k)⟩
def own_rd (f : Int32 → Int32) : Nat → Int64 → Int32 → Int64 → Int64 × Int64
  | 0, pos, _, val => (val, pos)
  | n + 1, pos, left, val => if (0 : Int32) < left then own_rd f n (own_pos pos left) (own_left pos left) (own_val f pos left val) else (val, pos)
def own_good (n : Nat) (pos : Int64) (left : Int32) : Prop := 0 ≤ pos.toInt ∧ 0 ≤ left.toInt ∧ left.toInt ≤ n ∧ pos.toInt + left.toInt ≤ 192
theorem own_pos0 {left : Int32} : (0 : Int32) < left ↔ 0 < left.toInt := by rw [Int32.lt_iff_toInt_lt]; rfl
def own_tk (pos : Int64) (left : Int32) : Int32 := (if left < ((8 : Int32) - ((pos &&& (7 : Int64)).toInt32)) then left else ((8 : Int32) - ((pos &&& (7 : Int64)).toInt32)))
/-- what is taken in a turn -/
theorem own_tk_int {pos : Int64} {left : Int32} (h1 : 0 ≤ pos.toInt) (h2 : 0 < left.toInt) : ((8 : Int32) - ((pos &&& (7 : Int64)).toInt32)).toInt = 8 - pos.toInt % 8 ∧ (own_tk pos left).toInt = min left.toInt (8 - pos.toInt % 8) := by
  have m := c_maskL pos 7 3 (by decide) (by decide)
  have q := c_l2i (pos &&& (7 : Int64))
  have r := rng32 ((pos &&& (7 : Int64)).toInt32)
  have d := c_isub (8 : Int32) ((pos &&& (7 : Int64)).toInt32)
  have r2 := rng32 ((8 : Int32) - ((pos &&& (7 : Int64)).toInt32))
  rw [show (8 : Int32).toInt = 8 from by decide] at d
  have e : ((8 : Int32) - ((pos &&& (7 : Int64)).toInt32)).toInt = 8 - pos.toInt % 8 := by omega
  refine ⟨e, ?_⟩
  unfold own_tk
  by_cases h : left < ((8 : Int32) - ((pos &&& (7 : Int64)).toInt32))
  · rw [if_pos h]; rw [Int32.lt_iff_toInt_lt] at h; omega
  · rw [if_neg h]; rw [Int32.lt_iff_toInt_lt] at h; omega
theorem own_idx_int {pos : Int64} (h1 : 0 ≤ pos.toInt) (h2 : pos.toInt < 192) : (own_idx pos).toInt = pos.toInt / 8 := by
  have q := c_lushr pos (3 : Int32) 3 (by decide) (by decide)
  have r := c_l2i ((pos.toUInt64 >>> ((3 : Int32) &&& 0x3f).toInt64.toUInt64).toInt64)
  have s := rng32 (((pos.toUInt64 >>> ((3 : Int32) &&& 0x3f).toInt64.toUInt64).toInt64).toInt32)
  unfold own_idx
  omega
theorem own_step {n : Nat} {pos : Int64} {left : Int32} (g : own_good (n + 1) pos left) (h : (0 : Int32) < left) : (¬ own_idx pos < 0 ∧ own_idx pos < (24 : Int32)) ∧ own_good n (own_pos pos left) (own_left pos left) ∧ (own_pos pos left).toInt = pos.toInt + (own_tk pos left).toInt ∧ (own_left pos left).toInt = left.toInt - (own_tk pos left).toInt := by
  obtain ⟨g1, g2, g3, g4⟩ := g
  have h' := own_pos0.mp h
  have i := own_idx_int g1 (by omega)
  have t := (own_tk_int g1 h').2
  have e1 : own_pos pos left = pos + ((own_tk pos left).toInt64) := rfl
  have e2 : own_left pos left = left - (own_tk pos left) := rfl
  have a1 := c_ladd pos ((own_tk pos left).toInt64)
  have a2 := c_i2l (own_tk pos left)
  have a3 := rng64 (pos + ((own_tk pos left).toInt64))
  have a4 := c_isub left (own_tk pos left)
  have a5 := rng32 (left - (own_tk pos left))
  have p1 : (own_pos pos left).toInt = pos.toInt + (own_tk pos left).toInt := by rw [e1]; omega
  have p2 : (own_left pos left).toInt = left.toInt - (own_tk pos left).toInt := by rw [e2]; omega
  refine ⟨⟨?_, ?_⟩, ⟨?_, ?_, ?_, ?_⟩, p1, p2⟩
  · rw [Int32.lt_iff_toInt_lt, show (0 : Int32).toInt = 0 from by decide]; omega
  · rw [Int32.lt_iff_toInt_lt, show (24 : Int32).toInt = 24 from by decide]; omega
  · omega
  · omega
  · omega
  · omega
set_option maxRecDepth 65536 in
set_option maxHeartbeats 40000000 in
theorem own_loop {p : Program} {l : Launch} {e : Env} {s : State} {m : MethodId} {args : Array Value} {below : List Frame} {meth : Method} {c : Code} {Z : State} {a0 : Array Value} {n0 : Nat} (a b : Addr) (cnt : Int32) (f : Int32 → Int32) (hx : p.tables.exec = Jvm.exec) (hZ : Z.Warmed39 s.vm) (hw : ∀ d ∈ tables_1, d.before a0 Z = true) (hby : c.code = prog_11_method_2_code) (hml : c.maxLocals = 9) (hown : s.vm.findClass "com/example/telemetree/telemetree/storage/BitReader" = some m.cls) (g_a : n0 ≤ a) (ne_ba : b ≠ a) :
    ∀ (n : Nat) (left : Int32) (val pos : Int64) (s5 s6 s7 s8 : Slot) (T0 : State) (locs : List Loc) (h0 : Heap), own_good n pos left → Stand p l e ({ frames := 1, cells := 0, slots := 0, locals := 13 } : Room) s m args below meth c T0 locs 0 0 → Fr n0 locs → T0.heap = h0 → n0 ≤ h0.size → One s5 → One s6 → One s7 → One s8 → Exa Z h0 a "com/example/telemetree/telemetree/storage/BitReader" ∧ Fld Z h0 a "com/example/telemetree/telemetree/storage/BitReader" "bytes" "[B" (.ref b) ∧ Fld Z h0 a "com/example/telemetree/telemetree/storage/BitReader" "position" "J" (.long pos) ∧ Bya Z h0 b (24 : Int32) f →
    ∃ (T' : State) (locs' : List Loc) (h' : Heap) (z : Int32) (s5' s6' s7' s8' : Slot), Stand p l e ({ frames := 1, cells := 0, slots := 0, locals := 13 } : Room) s m args below meth c T' locs' 0 0 ∧ Fr n0 locs' ∧ T'.heap = h' ∧ Keep h0 h' [a] ∧ Exa Z h' a "com/example/telemetree/telemetree/storage/BitReader" ∧ Fld Z h' a "com/example/telemetree/telemetree/storage/BitReader" "bytes" "[B" (.ref b) ∧ Fld Z h' a "com/example/telemetree/telemetree/storage/BitReader" "position" "J" (.long (own_rd f n pos left val).2) ∧ Bya Z h' b (24 : Int32) f ∧
      ∀ t, Steps p.tables e below (T'.setTop (mkF m 95 #[.val (.ref a), .val (.int cnt), .val (.long (own_rd f n pos left val).1), .second, .val (.int z), s5', s6', s7', s8'] [])) t → Steps p.tables e below (T0.setTop (mkF m 5 #[.val (.ref a), .val (.int cnt), .val (.long val), .second, .val (.int left), s5, s6, s7, s8] [])) t := by
  have out : ∀ (left : Int32) (val : Int64) (s5 s6 s7 s8 : Slot) (T0 : State) (locs : List Loc), ¬ (0 : Int32) < left → Stand p l e ({ frames := 1, cells := 0, slots := 0, locals := 13 } : Room) s m args below meth c T0 locs 0 0 → ∀ t, Steps p.tables e below (T0.setTop (mkF m 95 #[.val (.ref a), .val (.int cnt), .val (.long val), .second, .val (.int left), s5, s6, s7, s8] [])) t → Steps p.tables e below (T0.setTop (mkF m 5 #[.val (.ref a), .val (.int cnt), .val (.long val), .second, .val (.int left), s5, s6, s7, s8] [])) t := by
    intro left val s5 s6 s7 s8 T0 locs h X0 t k
    refine XS.iload X0.here hx rfl (hb hby d4_5) rfl ?_
    show Steps p.tables e below (T0.setTop (mkF m 7 #[.val (.ref a), .val (.int cnt), .val (.long val), .second, .val (.int left), s5, s6, s7, s8] [(.int left)])) _
    refine XS.ifYes X0.here hx rfl (pc0 := 7) (pc' := 95) rfl (hb hby d4_7) rfl ((if0 _ _).trans (flt h).2.2.2) (by decide) (by decide) ?_
    exact k
  intro n
  induction n with
  | zero =>
    intro left val pos s5 s6 s7 s8 T0 locs h0 g X0 N0 e0 Z0 o5 o6 o7 o8 hF
    have hl : ¬ (0 : Int32) < left := by
      rw [own_pos0]; have := g.2.2.1; omega
    exact ⟨T0, locs, h0, left, s5, s6, s7, s8, X0, N0, e0, Keep.refl _ _, hF.1, hF.2.1, hF.2.2.1, hF.2.2.2, out left val s5 s6 s7 s8 T0 locs hl X0⟩
  | succ n ih =>
    intro left val pos s5 s6 s7 s8 T0 locs h0 g X0 N0 e0 Z0 o5 o6 o7 o8 hF
    by_cases h : (0 : Int32) < left
    · obtain ⟨hi, g', -⟩ := own_step g h
      obtain ⟨T1, locs1, h1, t5, t6, t7, t8, X1, N1, e1, K1, q5, q6, q7, q8, E1, B1, P1, V1, G1⟩ := own_turn a b cnt left val pos f s5 s6 s7 s8 T0 locs h0 hx hZ hw hby hml hown X0 N0 e0 Z0 g_a ne_ba o5 o6 o7 o8 hF.1 hF.2.1 hF.2.2.1 hF.2.2.2 h hi
      obtain ⟨T2, locs2, h2, z, u5, u6, u7, u8, X2, N2, e2, K2, E2, B2, P2, V2, G2⟩ := ih (own_left pos left) (own_val f pos left val) (own_pos pos left) t5 t6 t7 t8 T1 locs1 h1 g' X1 N1 e1 (Nat.le_trans Z0 K1.1) q5 q6 q7 q8 ⟨E1, B1, P1, V1⟩
      have er : own_rd f (n + 1) pos left val = own_rd f n (own_pos pos left) (own_left pos left) (own_val f pos left val) := if_pos h
      rw [er]
      exact ⟨T2, locs2, h2, z, u5, u6, u7, u8, X2, N2, e2, K1.trans K2 (fun x hx => Or.inl hx), E2, B2, P2, V2, fun t k => G1 t (G2 t k)⟩
    · have er : own_rd f (n + 1) pos left val = (val, pos) := if_neg h
      rw [er]
      exact ⟨T0, locs, h0, left, s5, s6, s7, s8, X0, N0, e0, Keep.refl _ _, hF.1, hF.2.1, hF.2.2.1, hF.2.2.2, out left val s5 s6 s7 s8 T0 locs h X0⟩
theorem d4_0 : decode prog_11_method_2_code 0 = .ok (.lconst 0, 1) := by decide +kernel
theorem d4_1 : decode prog_11_method_2_code 1 = .ok (.lstore_n 2, 1) := by decide +kernel
theorem d4_2 : decode prog_11_method_2_code 2 = .ok (.iload_n 1, 1) := by decide +kernel
theorem d4_3 : decode prog_11_method_2_code 3 = .ok (.istore 4, 2) := by decide +kernel
theorem d4_95 : decode prog_11_method_2_code 95 = .ok (.lload_n 2, 1) := by decide +kernel
theorem d4_96 : decode prog_11_method_2_code 96 = .ok (.lreturn, 1) := by decide +kernel
theorem pn_4 : plainName "com/example/telemetree/telemetree/storage/BitReader" = true := by first | (simp [plainName, overriddenIn]; done) | decide +kernel
theorem ef_rm4 (m : MethodId) (y0 : Addr) (y1 : Int32) : entryFrame m #[(.ref y0), (.int y1)] 9 = mkF m 0 #[.val (.ref y0), .val (.int y1), .unset, .unset, .unset, .unset, .unset, .unset, .unset] [] := by first | (simp [entryFrame, mkF, argsToLocals, Value.category]; done) | rfl
def Q_rm4 (Z : State) (a4_0 : Addr) (p4_1 : Int32) (w_bytes_a4_0 : Addr) (w_position_a4_0 : Int64) (f_w_bytes_a4_0 : Int32 → Int32) (h0 : Heap) (n0 : Nat) (v : Option Value) (h : Heap) (L : List Loc) : Prop := v = some (.long (own_rd f_w_bytes_a4_0 64 w_position_a4_0 p4_1 (0 : Int64)).1) ∧ Fr n0 L ∧ Keep h0 h [a4_0] ∧ Exa Z h a4_0 "com/example/telemetree/telemetree/storage/BitReader" ∧ Fld Z h a4_0 "com/example/telemetree/telemetree/storage/BitReader" "bytes" "[B" (.ref w_bytes_a4_0) ∧ Fld Z h a4_0 "com/example/telemetree/telemetree/storage/BitReader" "position" "J" (.long (own_rd f_w_bytes_a4_0 64 w_position_a4_0 p4_1 (0 : Int64)).2)
set_option maxRecDepth 65536 in
set_option maxHeartbeats 40000000 in
theorem rm4 (l : Launch) (Z : State) (a0 : Array Value) (hw : ∀ d ∈ tables_1, d.before a0 Z = true) (ws : List Jvm.Cond) (a4_0 : Addr) (p4_1 : Int32) (w_bytes_a4_0 : Addr) (w_position_a4_0 : Int64) (f_w_bytes_a4_0 : Int32 → Int32) (h0 : Heap) (n0 : Nat) (Z0 : n0 ≤ h0.size) (hgood : own_good 64 w_position_a4_0 p4_1) (E_a4_0 : Exa Z h0 a4_0 "com/example/telemetree/telemetree/storage/BitReader") (F_bytes_a4_0 : Fld Z h0 a4_0 "com/example/telemetree/telemetree/storage/BitReader" "bytes" "[B" (.ref w_bytes_a4_0)) (F_position_a4_0 : Fld Z h0 a4_0 "com/example/telemetree/telemetree/storage/BitReader" "position" "J" (.long w_position_a4_0)) (B_w_bytes_a4_0 : Bya Z h0 w_bytes_a4_0 (24 : Int32) f_w_bytes_a4_0) (g_a4_0 : n0 ≤ a4_0) (ne_w_bytes_a4_0_a4_0 : w_bytes_a4_0 ≠ a4_0) :
    MetFree l (⟨"com/example/telemetree/telemetree/storage/BitReader", "read", "(I)J"⟩ : MethodName) (head1 (Jvm.Cond.code (⟨"com/example/telemetree/telemetree/storage/BitReader", "read", "(I)J"⟩ : MethodName) prog_11_method_2_code 9 (some .long) :: ws) ({ frames := 1, cells := 0, slots := 0, locals := 13 } : Room)) (fun a U => a = #[(.ref a4_0), (.int p4_1)] ∧ Z.Warmed39 U.vm ∧ U.heap = h0) (fun _ _ _ _ _ => True) (fun _ U o U' => ∃ v L, o = .returned v ∧ Q_rm4 Z a4_0 p4_1 w_bytes_a4_0 w_position_a4_0 f_w_bytes_a4_0 h0 n0 v U'.heap L ∧ FrameEnd U o U' L ({ frames := 1, cells := 0, slots := 0, locals := 13 } : Room).cells ({ frames := 1, cells := 0, slots := 0, locals := 13 } : Room).slots) := by
  refine MetFree.of_bodySF (plainFor_of_name pn_4) hisR ?_
  intro p e s m args below meth c s₁ Bd hml0 hP hK
  obtain ⟨rfl, hZ, hh⟩ := hP
  have hx := Bd.exec
  have hby := Bd.bytes
  have hml : c.maxLocals = 9 := hml0
  have hown : s.vm.findClass "com/example/telemetree/telemetree/storage/BitReader" = some m.cls := findClass_of_methodNamed Bd.named
  have hnm := (name_of_methodNamed Bd.named Bd.method).1
  have X0 : Stand p l e ({ frames := 1, cells := 0, slots := 0, locals := 13 } : Room) s m #[(.ref a4_0), (.int p4_1)] below meth c s₁ [] 0 0 := Stand.of_body Bd
  have e0 : s₁.heap = h0 := by rw [← hh, Bd.state]; rfl
  have N0 := Fr.nil n0
  have pre0 : ∀ t, Steps p.tables e below (s₁.setTop (mkF m 0 #[.val (.ref a4_0), .val (.int p4_1), .unset, .unset, .unset, .unset, .unset, .unset, .unset] [])) t → Steps p.tables e below (s₁.setTop (entryFrame m #[(.ref a4_0), (.int p4_1)] 9)) t := fun t k => castTop (ef_rm4 m a4_0 p4_1) k
  have G1 : ∀ t, Steps p.tables e below (s₁.setTop (mkF m 5 #[.val (.ref a4_0), .val (.int p4_1), .val (.long (0 : Int64)), .second, .val (.int p4_1), .unset, .unset, .unset, .unset] [])) t → Steps p.tables e below (s₁.setTop (mkF m 0 #[.val (.ref a4_0), .val (.int p4_1), .unset, .unset, .unset, .unset, .unset, .unset, .unset] [])) t := by
    intro t k
    show Steps p.tables e below (s₁.setTop (mkF m 0 #[.val (.ref a4_0), .val (.int p4_1), .unset, .unset, .unset, .unset, .unset, .unset, .unset] [])) _
    refine XS.lconst X0.here hx rfl (hb hby d4_0) ?_
    show Steps p.tables e below (s₁.setTop (mkF m 1 #[.val (.ref a4_0), .val (.int p4_1), .unset, .unset, .unset, .unset, .unset, .unset, .unset] [(.long (0 : Int64))])) _
    refine XS.lstoreN X0.here hx rfl (hb hby d4_1) rfl (l' := #[.val (.ref a4_0), .val (.int p4_1), .val (.long (0 : Int64)), .second, .unset, .unset, .unset, .unset, .unset]) rfl ?_
    show Steps p.tables e below (s₁.setTop (mkF m 2 #[.val (.ref a4_0), .val (.int p4_1), .val (.long (0 : Int64)), .second, .unset, .unset, .unset, .unset, .unset] [])) _
    refine XS.iloadN X0.here hx rfl (hb hby d4_2) rfl ?_
    show Steps p.tables e below (s₁.setTop (mkF m 3 #[.val (.ref a4_0), .val (.int p4_1), .val (.long (0 : Int64)), .second, .unset, .unset, .unset, .unset, .unset] [(.int p4_1)])) _
    refine XS.istore X0.here hx rfl (hb hby d4_3) rfl (l' := #[.val (.ref a4_0), .val (.int p4_1), .val (.long (0 : Int64)), .second, .val (.int p4_1), .unset, .unset, .unset, .unset]) rfl ?_
    show Steps p.tables e below (s₁.setTop (mkF m 5 #[.val (.ref a4_0), .val (.int p4_1), .val (.long (0 : Int64)), .second, .val (.int p4_1), .unset, .unset, .unset, .unset] [])) _
    exact k
  obtain ⟨T2, Lo2, h2, z2, u5, u6, u7, u8, X2, N2, e2, Kc2, P2e, P2b, P2p, P2B, G2⟩ := own_loop a4_0 w_bytes_a4_0 p4_1 f_w_bytes_a4_0 hx hZ hw hby hml hown g_a4_0 ne_w_bytes_a4_0_a4_0 64 p4_1 (0 : Int64) w_position_a4_0 .unset .unset .unset .unset s₁ _ h0 hgood X0 N0 e0 Z0 One.u One.u One.u One.u ⟨E_a4_0, F_bytes_a4_0, F_position_a4_0, B_w_bytes_a4_0⟩
  have K2 : Keep h0 h2 [a4_0] := Kc2
  obtain ⟨fs, hr, hrun, hended, hW, hsame⟩ := X2.leave (v := some (.long (own_rd f_w_bytes_a4_0 64 w_position_a4_0 p4_1 (0 : Int64)).1)) (fun h => by rw [Bd.returns] at h; cases h)
  refine ⟨_, _, pre0 _ ?_, hrun, hended, _, _, rfl, ?_, ⟨_, rfl⟩, hW, hsame.mono (by decide) (by decide)⟩
  · refine G1 _ ?_
    refine G2 _ ?_
    show Steps p.tables e below (T2.setTop (mkF m 95 #[.val (.ref a4_0), .val (.int p4_1), .val (.long (own_rd f_w_bytes_a4_0 64 w_position_a4_0 p4_1 (0 : Int64)).1), .second, .val (.int z2), u5, u6, u7, u8] [])) _
    refine XS.lloadN X2.here hx rfl (hb hby d4_95) rfl ?_
    show Steps p.tables e below (T2.setTop (mkF m 96 #[.val (.ref a4_0), .val (.int p4_1), .val (.long (own_rd f_w_bytes_a4_0 64 w_position_a4_0 p4_1 (0 : Int64)).1), .second, .val (.int z2), u5, u6, u7, u8] [(.long (own_rd f_w_bytes_a4_0 64 w_position_a4_0 p4_1 (0 : Int64)).1)])) _
    exact own_retJ X2 hx Bd.returns (hb hby d4_96) hr
  · show Q_rm4 Z a4_0 p4_1 w_bytes_a4_0 w_position_a4_0 f_w_bytes_a4_0 h0 n0 _ T2.heap _
    rw [e2]
    exact ⟨rfl, N2, K2, P2e, P2b, P2p⟩
def own_w4 (x0 x1 x2 x3 : Int64) (j : Int32) : Int64 := [x0, x1, x2, x3].getD j.toNatClampNeg 0
theorem own_w4_at (x0 x1 x2 x3 : Int64) (i : Nat) : ([.long x0, .long x1, .long x2, .long x3] : List Value).getD i (.long (0 : Int64)) = .long ([x0, x1, x2, x3].getD i 0) := by
  match i with
  | 0 => rfl
  | 1 => rfl
  | 2 => rfl
  | 3 => rfl
  | n + 4 => rfl
theorem own_q1 {q : Int32} (h : ¬ q < 0 ∧ q < 3) : (¬ q < 0 ∧ q < 4) ∧ (¬ (q + (1 : Int32)) < 0 ∧ (q + (1 : Int32)) < 4) := by
  obtain ⟨h1, h2⟩ := h
  rw [Int32.lt_iff_toInt_lt, show (0 : Int32).toInt = 0 from by decide] at h1
  rw [Int32.lt_iff_toInt_lt, show (3 : Int32).toInt = 3 from by decide] at h2
  have a := c_iadd q (1 : Int32)
  have r := rng32 (q + (1 : Int32))
  rw [show (1 : Int32).toInt = 1 from by decide] at a
  simp only [Int32.lt_iff_toInt_lt, show (0 : Int32).toInt = 0 from by decide, show (4 : Int32).toInt = 4 from by decide]
  omega
theorem d6_0 : decode method_4_code 0 = .ok (.iload_n 2, 1) := by decide +kernel
theorem d6_1 : decode method_4_code 1 = .ok (.ifCond .ne 5, 3) := by decide +kernel
theorem d6_4 : decode method_4_code 4 = .ok (.lconst 0, 1) := by decide +kernel
theorem d6_5 : decode method_4_code 5 = .ok (.lreturn, 1) := by decide +kernel
theorem d6_6 : decode method_4_code 6 = .ok (.iload_n 1, 1) := by decide +kernel
theorem d6_7 : decode method_4_code 7 = .ok (.bipush 6, 2) := by decide +kernel
theorem d6_9 : decode method_4_code 9 = .ok (.iushr, 1) := by decide +kernel
theorem d6_10 : decode method_4_code 10 = .ok (.istore_n 3, 1) := by decide +kernel
theorem d6_11 : decode method_4_code 11 = .ok (.iload_n 1, 1) := by decide +kernel
theorem d6_12 : decode method_4_code 12 = .ok (.bipush 63, 2) := by decide +kernel
theorem d6_14 : decode method_4_code 14 = .ok (.iand, 1) := by decide +kernel
theorem d6_15 : decode method_4_code 15 = .ok (.istore 4, 2) := by decide +kernel
theorem d6_17 : decode method_4_code 17 = .ok (.iload 4, 2) := by decide +kernel
theorem d6_19 : decode method_4_code 19 = .ok (.ifCond .ne 11, 3) := by decide +kernel
theorem d6_22 : decode method_4_code 22 = .ok (.aload_n 0, 1) := by decide +kernel
theorem d6_23 : decode method_4_code 23 = .ok (.iload_n 3, 1) := by decide +kernel
theorem d6_24 : decode method_4_code 24 = .ok (.laload, 1) := by decide +kernel
theorem d6_25 : decode method_4_code 25 = .ok (.lstore 5, 2) := by decide +kernel
theorem d6_27 : decode method_4_code 27 = .ok (.goto 23, 3) := by decide +kernel
theorem d6_30 : decode method_4_code 30 = .ok (.aload_n 0, 1) := by decide +kernel
theorem d6_31 : decode method_4_code 31 = .ok (.iload_n 3, 1) := by decide +kernel
theorem d6_32 : decode method_4_code 32 = .ok (.laload, 1) := by decide +kernel
theorem d6_33 : decode method_4_code 33 = .ok (.iload 4, 2) := by decide +kernel
theorem d6_35 : decode method_4_code 35 = .ok (.lshl, 1) := by decide +kernel
theorem d6_36 : decode method_4_code 36 = .ok (.aload_n 0, 1) := by decide +kernel
theorem d6_37 : decode method_4_code 37 = .ok (.iload_n 3, 1) := by decide +kernel
theorem d6_38 : decode method_4_code 38 = .ok (.iconst 1, 1) := by decide +kernel
theorem d6_39 : decode method_4_code 39 = .ok (.iadd, 1) := by decide +kernel
theorem d6_40 : decode method_4_code 40 = .ok (.laload, 1) := by decide +kernel
theorem d6_41 : decode method_4_code 41 = .ok (.bipush 64, 2) := by decide +kernel
theorem d6_43 : decode method_4_code 43 = .ok (.iload 4, 2) := by decide +kernel
theorem d6_45 : decode method_4_code 45 = .ok (.isub, 1) := by decide +kernel
theorem d6_46 : decode method_4_code 46 = .ok (.lushr, 1) := by decide +kernel
theorem d6_47 : decode method_4_code 47 = .ok (.lor, 1) := by decide +kernel
theorem d6_48 : decode method_4_code 48 = .ok (.lstore 5, 2) := by decide +kernel
theorem d6_50 : decode method_4_code 50 = .ok (.lload 5, 2) := by decide +kernel
theorem d6_52 : decode method_4_code 52 = .ok (.bipush 64, 2) := by decide +kernel
theorem d6_54 : decode method_4_code 54 = .ok (.iload_n 2, 1) := by decide +kernel
theorem d6_55 : decode method_4_code 55 = .ok (.isub, 1) := by decide +kernel
theorem d6_56 : decode method_4_code 56 = .ok (.lushr, 1) := by decide +kernel
theorem d6_57 : decode method_4_code 57 = .ok (.lreturn, 1) := by decide +kernel
theorem pn_6 : plainName "com/example/telemetree/telemetree/storage/BitReaderReadPinLaw" = true := by first | (simp [plainName, overriddenIn]; done) | decide +kernel
theorem ef_rm6 (m : MethodId) (y0 : Addr) (y1 : Int32) (y2 : Int32) : entryFrame m #[(.ref y0), (.int y1), (.int y2)] 7 = mkF m 0 #[.val (.ref y0), .val (.int y1), .val (.int y2), .unset, .unset, .unset, .unset] [] := by first | (simp [entryFrame, mkF, argsToLocals, Value.category]; done) | rfl
def Q_rm6 (Z : State) (a6_0 : Addr) (p6_1 : Int32) (p6_2 : Int32) (kc_a6_0 : ClassId) (t_a6_0_0 : Int64) (t_a6_0_1 : Int64) (t_a6_0_2 : Int64) (t_a6_0_3 : Int64) (kc_a6_0 : ClassId) (t_a6_0_0 : Int64) (t_a6_0_1 : Int64) (t_a6_0_2 : Int64) (t_a6_0_3 : Int64) (h0 : Heap) (n0 : Nat) (v : Option Value) (h : Heap) (L : List Loc) : Prop := v = some (.long (if p6_2 = (0 : Int32) then (0 : Int64) else (((if (p6_1 &&& (63 : Int32)) = (0 : Int32) then (own_w4 t_a6_0_0 t_a6_0_1 t_a6_0_2 t_a6_0_3 ((p6_1.toUInt32 >>> ((6 : Int32) &&& 31).toUInt32).toInt32)) else (((own_w4 t_a6_0_0 t_a6_0_1 t_a6_0_2 t_a6_0_3 ((p6_1.toUInt32 >>> ((6 : Int32) &&& 31).toUInt32).toInt32)) <<< ((p6_1 &&& (63 : Int32)) &&& 0x3f).toInt64) ||| (((own_w4 t_a6_0_0 t_a6_0_1 t_a6_0_2 t_a6_0_3 (((p6_1.toUInt32 >>> ((6 : Int32) &&& 31).toUInt32).toInt32) + (1 : Int32))).toUInt64 >>> (((64 : Int32) - (p6_1 &&& (63 : Int32))) &&& 0x3f).toInt64.toUInt64).toInt64))).toUInt64 >>> (((64 : Int32) - p6_2) &&& 0x3f).toInt64.toUInt64).toInt64))) ∧ Fr n0 L ∧ h = h0
set_option maxRecDepth 65536 in
set_option maxHeartbeats 40000000 in
theorem rm6 (l : Launch) (Z : State) (a0 : Array Value) (hw : ∀ d ∈ tables_1, d.before a0 Z = true) (ws : List Jvm.Cond) (a6_0 : Addr) (p6_1 : Int32) (p6_2 : Int32) (kc_a6_0 : ClassId) (t_a6_0_0 : Int64) (t_a6_0_1 : Int64) (t_a6_0_2 : Int64) (t_a6_0_3 : Int64) (kc_a6_0 : ClassId) (t_a6_0_0 : Int64) (t_a6_0_1 : Int64) (t_a6_0_2 : Int64) (t_a6_0_3 : Int64) (h0 : Heap) (n0 : Nat) (Z0 : n0 ≤ h0.size) (hq : ¬ (p6_2 = (0 : Int32)) → ¬ ((p6_1.toUInt32 >>> ((6 : Int32) &&& 31).toUInt32).toInt32) < 0 ∧ ((p6_1.toUInt32 >>> ((6 : Int32) &&& 31).toUInt32).toInt32) < 3) (V_a6_0 : Arv Z h0 a6_0 kc_a6_0 .long (4 : Int32) [(.long t_a6_0_0), (.long t_a6_0_1), (.long t_a6_0_2), (.long t_a6_0_3)] (.long (0 : Int64))) :
    MetFree l (⟨"com/example/telemetree/telemetree/storage/BitReaderReadPinLaw", "ref", "([JII)J"⟩ : MethodName) (head1 (Jvm.Cond.code (⟨"com/example/telemetree/telemetree/storage/BitReaderReadPinLaw", "ref", "([JII)J"⟩ : MethodName) method_4_code 7 (some .long) :: ws) ({ frames := 0, cells := 0, slots := 0, locals := 0 } : Room)) (fun a U => a = #[(.ref a6_0), (.int p6_1), (.int p6_2)] ∧ Z.Warmed39 U.vm ∧ U.heap = h0) (fun _ _ _ _ _ => True) (fun _ U o U' => ∃ v L, o = .returned v ∧ Q_rm6 Z a6_0 p6_1 p6_2 kc_a6_0 t_a6_0_0 t_a6_0_1 t_a6_0_2 t_a6_0_3 kc_a6_0 t_a6_0_0 t_a6_0_1 t_a6_0_2 t_a6_0_3 h0 n0 v U'.heap L ∧ FrameEnd U o U' L ({ frames := 0, cells := 0, slots := 0, locals := 0 } : Room).cells ({ frames := 0, cells := 0, slots := 0, locals := 0 } : Room).slots) := by
  refine MetFree.of_bodySF (plainFor_of_name pn_6) hisR ?_
  intro p e s m args below meth c s₁ Bd hml0 hP hK
  obtain ⟨rfl, hZ, hh⟩ := hP
  have hx := Bd.exec
  have hby := Bd.bytes
  have hml : c.maxLocals = 7 := hml0
  have hown : s.vm.findClass "com/example/telemetree/telemetree/storage/BitReaderReadPinLaw" = some m.cls := findClass_of_methodNamed Bd.named
  have hnm := (name_of_methodNamed Bd.named Bd.method).1
  have X0 : Stand p l e ({ frames := 0, cells := 0, slots := 0, locals := 0 } : Room) s m #[(.ref a6_0), (.int p6_1), (.int p6_2)] below meth c s₁ [] 0 0 := Stand.of_body Bd
  have e0 : s₁.heap = h0 := by rw [← hh, Bd.state]; rfl
  have N0 := Fr.nil n0
  have pre0 : ∀ t, Steps p.tables e below (s₁.setTop (mkF m 0 #[.val (.ref a6_0), .val (.int p6_1), .val (.int p6_2), .unset, .unset, .unset, .unset] [])) t → Steps p.tables e below (s₁.setTop (entryFrame m #[(.ref a6_0), (.int p6_1), (.int p6_2)] 7)) t := fun t k => castTop (ef_rm6 m a6_0 p6_1 p6_2) k
  have G1 : ∀ t, Steps p.tables e below (s₁.setTop (mkF m 1 #[.val (.ref a6_0), .val (.int p6_1), .val (.int p6_2), .unset, .unset, .unset, .unset] [(.int p6_2)])) t → Steps p.tables e below (s₁.setTop (mkF m 0 #[.val (.ref a6_0), .val (.int p6_1), .val (.int p6_2), .unset, .unset, .unset, .unset] [])) t := by
    intro t k
    show Steps p.tables e below (s₁.setTop (mkF m 0 #[.val (.ref a6_0), .val (.int p6_1), .val (.int p6_2), .unset, .unset, .unset, .unset] [])) _
    refine XS.iloadN X0.here hx rfl (hb hby d6_0) rfl ?_
    exact k
  by_cases h1_2 : p6_2 = (0 : Int32)
  · obtain ⟨fs, hr, hrun, hended, hW, hsame⟩ := X0.leave (v := some (.long (0 : Int64))) (fun h => by rw [Bd.returns] at h; cases h)
    refine ⟨_, _, pre0 _ ?_, hrun, hended, _, _, rfl, ?_, ⟨_, rfl⟩, hW, hsame.mono (by decide) (by decide)⟩
    · refine G1 _ ?_
      show Steps p.tables e below (s₁.setTop (mkF m 1 #[.val (.ref a6_0), .val (.int p6_1), .val (.int p6_2), .unset, .unset, .unset, .unset] [(.int p6_2)])) _
      refine XS.ifNo X0.here hx rfl (hb hby d6_1) rfl ((if0 _ _).trans (teq h1_2).2) ?_
      show Steps p.tables e below (s₁.setTop (mkF m 4 #[.val (.ref a6_0), .val (.int p6_1), .val (.int p6_2), .unset, .unset, .unset, .unset] [])) _
      refine XS.lconst X0.here hx rfl (hb hby d6_4) ?_
      show Steps p.tables e below (s₁.setTop (mkF m 5 #[.val (.ref a6_0), .val (.int p6_1), .val (.int p6_2), .unset, .unset, .unset, .unset] [(.long (0 : Int64))])) _
      exact own_retJ X0 hx Bd.returns (hb hby d6_5) hr
    · show Q_rm6 Z a6_0 p6_1 p6_2 kc_a6_0 t_a6_0_0 t_a6_0_1 t_a6_0_2 t_a6_0_3 kc_a6_0 t_a6_0_0 t_a6_0_1 t_a6_0_2 t_a6_0_3 h0 n0 _ s₁.heap _
      rw [e0]
      exact ⟨(congrArg (fun z => some (Value.long z)) (if_pos h1_2).symm), N0, rfl⟩
  · have G3 : ∀ t, Steps p.tables e below (s₁.setTop (mkF m 19 #[.val (.ref a6_0), .val (.int p6_1), .val (.int p6_2), .val (.int ((p6_1.toUInt32 >>> ((6 : Int32) &&& 31).toUInt32).toInt32)), .val (.int (p6_1 &&& (63 : Int32))), .unset, .unset] [(.int (p6_1 &&& (63 : Int32)))])) t → Steps p.tables e below (s₁.setTop (mkF m 1 #[.val (.ref a6_0), .val (.int p6_1), .val (.int p6_2), .unset, .unset, .unset, .unset] [(.int p6_2)])) t := by
      intro t k
      show Steps p.tables e below (s₁.setTop (mkF m 1 #[.val (.ref a6_0), .val (.int p6_1), .val (.int p6_2), .unset, .unset, .unset, .unset] [(.int p6_2)])) _
      refine XS.ifYes X0.here hx rfl (pc0 := 1) (pc' := 6) rfl (hb hby d6_1) rfl ((if0 _ _).trans (feq h1_2).2) (by decide) (by decide) ?_
      show Steps p.tables e below (s₁.setTop (mkF m 6 #[.val (.ref a6_0), .val (.int p6_1), .val (.int p6_2), .unset, .unset, .unset, .unset] [])) _
      refine XS.iloadN X0.here hx rfl (hb hby d6_6) rfl ?_
      show Steps p.tables e below (s₁.setTop (mkF m 7 #[.val (.ref a6_0), .val (.int p6_1), .val (.int p6_2), .unset, .unset, .unset, .unset] [(.int p6_1)])) _
      refine XS.bipush X0.here hx rfl (hb hby d6_7) ?_
      show Steps p.tables e below (s₁.setTop (mkF m 9 #[.val (.ref a6_0), .val (.int p6_1), .val (.int p6_2), .unset, .unset, .unset, .unset] [(.int (6 : Int32)), (.int p6_1)])) _
      refine XS.iushr X0.here hx rfl (hb hby d6_9) rfl ?_
      show Steps p.tables e below (s₁.setTop (mkF m 10 #[.val (.ref a6_0), .val (.int p6_1), .val (.int p6_2), .unset, .unset, .unset, .unset] [(.int ((p6_1.toUInt32 >>> ((6 : Int32) &&& 31).toUInt32).toInt32))])) _
      refine XS.istoreN X0.here hx rfl (hb hby d6_10) rfl (l' := #[.val (.ref a6_0), .val (.int p6_1), .val (.int p6_2), .val (.int ((p6_1.toUInt32 >>> ((6 : Int32) &&& 31).toUInt32).toInt32)), .unset, .unset, .unset]) rfl ?_
      show Steps p.tables e below (s₁.setTop (mkF m 11 #[.val (.ref a6_0), .val (.int p6_1), .val (.int p6_2), .val (.int ((p6_1.toUInt32 >>> ((6 : Int32) &&& 31).toUInt32).toInt32)), .unset, .unset, .unset] [])) _
      refine XS.iloadN X0.here hx rfl (hb hby d6_11) rfl ?_
      show Steps p.tables e below (s₁.setTop (mkF m 12 #[.val (.ref a6_0), .val (.int p6_1), .val (.int p6_2), .val (.int ((p6_1.toUInt32 >>> ((6 : Int32) &&& 31).toUInt32).toInt32)), .unset, .unset, .unset] [(.int p6_1)])) _
      refine XS.bipush X0.here hx rfl (hb hby d6_12) ?_
      show Steps p.tables e below (s₁.setTop (mkF m 14 #[.val (.ref a6_0), .val (.int p6_1), .val (.int p6_2), .val (.int ((p6_1.toUInt32 >>> ((6 : Int32) &&& 31).toUInt32).toInt32)), .unset, .unset, .unset] [(.int (63 : Int32)), (.int p6_1)])) _
      refine XS.iand X0.here hx rfl (hb hby d6_14) rfl ?_
      show Steps p.tables e below (s₁.setTop (mkF m 15 #[.val (.ref a6_0), .val (.int p6_1), .val (.int p6_2), .val (.int ((p6_1.toUInt32 >>> ((6 : Int32) &&& 31).toUInt32).toInt32)), .unset, .unset, .unset] [(.int (p6_1 &&& (63 : Int32)))])) _
      refine XS.istore X0.here hx rfl (hb hby d6_15) rfl (l' := #[.val (.ref a6_0), .val (.int p6_1), .val (.int p6_2), .val (.int ((p6_1.toUInt32 >>> ((6 : Int32) &&& 31).toUInt32).toInt32)), .val (.int (p6_1 &&& (63 : Int32))), .unset, .unset]) rfl ?_
      show Steps p.tables e below (s₁.setTop (mkF m 17 #[.val (.ref a6_0), .val (.int p6_1), .val (.int p6_2), .val (.int ((p6_1.toUInt32 >>> ((6 : Int32) &&& 31).toUInt32).toInt32)), .val (.int (p6_1 &&& (63 : Int32))), .unset, .unset] [])) _
      refine XS.iload X0.here hx rfl (hb hby d6_17) rfl ?_
      exact k
    obtain ⟨v8, hv8⟩ : ∃ z : Int64, z = (if (p6_1 &&& (63 : Int32)) = (0 : Int32) then (own_w4 t_a6_0_0 t_a6_0_1 t_a6_0_2 t_a6_0_3 ((p6_1.toUInt32 >>> ((6 : Int32) &&& 31).toUInt32).toInt32)) else (((own_w4 t_a6_0_0 t_a6_0_1 t_a6_0_2 t_a6_0_3 ((p6_1.toUInt32 >>> ((6 : Int32) &&& 31).toUInt32).toInt32)) <<< ((p6_1 &&& (63 : Int32)) &&& 0x3f).toInt64) ||| (((own_w4 t_a6_0_0 t_a6_0_1 t_a6_0_2 t_a6_0_3 (((p6_1.toUInt32 >>> ((6 : Int32) &&& 31).toUInt32).toInt32) + (1 : Int32))).toUInt64 >>> (((64 : Int32) - (p6_1 &&& (63 : Int32))) &&& 0x3f).toInt64.toUInt64).toInt64))) := ⟨_, rfl⟩
    obtain ⟨T9, Lo9, X9, N9, e9, G9⟩ := own_join X0 N0 (h := h0) (mkF m 19 #[.val (.ref a6_0), .val (.int p6_1), .val (.int p6_2), .val (.int ((p6_1.toUInt32 >>> ((6 : Int32) &&& 31).toUInt32).toInt32)), .val (.int (p6_1 &&& (63 : Int32))), .unset, .unset] [(.int (p6_1 &&& (63 : Int32)))]) (mkF m 50 #[.val (.ref a6_0), .val (.int p6_1), .val (.int p6_2), .val (.int ((p6_1.toUInt32 >>> ((6 : Int32) &&& 31).toUInt32).toInt32)), .val (.int (p6_1 &&& (63 : Int32))), .val (.long v8), .second] []) (by
      by_cases h19_4 : (p6_1 &&& (63 : Int32)) = (0 : Int32)
      · obtain ⟨cl5, Ar5, qk5, Sz5, Nz5, Hh5, Gf5⟩ := id V_a6_0
        refine ⟨s₁, _, X0, N0, e0, fun t k => ?_⟩
        rw [show v8 = (own_w4 t_a6_0_0 t_a6_0_1 t_a6_0_2 t_a6_0_3 ((p6_1.toUInt32 >>> ((6 : Int32) &&& 31).toUInt32).toInt32)) from hv8.trans (if_pos h19_4)] at k
        show Steps p.tables e below (s₁.setTop (mkF m 19 #[.val (.ref a6_0), .val (.int p6_1), .val (.int p6_2), .val (.int ((p6_1.toUInt32 >>> ((6 : Int32) &&& 31).toUInt32).toInt32)), .val (.int (p6_1 &&& (63 : Int32))), .unset, .unset] [(.int (p6_1 &&& (63 : Int32)))])) _
        refine XS.ifNo X0.here hx rfl (hb hby d6_19) rfl ((if0 _ _).trans (teq h19_4).2) ?_
        show Steps p.tables e below (s₁.setTop (mkF m 22 #[.val (.ref a6_0), .val (.int p6_1), .val (.int p6_2), .val (.int ((p6_1.toUInt32 >>> ((6 : Int32) &&& 31).toUInt32).toInt32)), .val (.int (p6_1 &&& (63 : Int32))), .unset, .unset] [])) _
        refine XS.aloadN X0.here hx rfl (hb hby d6_22) rfl rfl ?_
        show Steps p.tables e below (s₁.setTop (mkF m 23 #[.val (.ref a6_0), .val (.int p6_1), .val (.int p6_2), .val (.int ((p6_1.toUInt32 >>> ((6 : Int32) &&& 31).toUInt32).toInt32)), .val (.int (p6_1 &&& (63 : Int32))), .unset, .unset] [(.ref a6_0)])) _
        refine XS.iloadN X0.here hx rfl (hb hby d6_23) rfl ?_
        show Steps p.tables e below (s₁.setTop (mkF m 24 #[.val (.ref a6_0), .val (.int p6_1), .val (.int p6_2), .val (.int ((p6_1.toUInt32 >>> ((6 : Int32) &&& 31).toUInt32).toInt32)), .val (.int (p6_1 &&& (63 : Int32))), .unset, .unset] [(.int ((p6_1.toUInt32 >>> ((6 : Int32) &&& 31).toUInt32).toInt32)), (.ref a6_0)])) _
        refine X0.laload hx (j := ((p6_1.toUInt32 >>> ((6 : Int32) &&& 31).toUInt32).toInt32)) (v := (.long (own_w4 t_a6_0_0 t_a6_0_1 t_a6_0_2 t_a6_0_3 ((p6_1.toUInt32 >>> ((6 : Int32) &&& 31).toUInt32).toInt32)))) (by rw [e0]; exact Ar5.1) (State.isArrayOf_alike hZ.alike Ar5.2.1) Ar5.2.2 (inb_of Sz5 (own_q1 (hq h1_2)).1) (Hh5.at (inb_of Sz5 (own_q1 (hq h1_2)).1) (own_w4_at t_a6_0_0 t_a6_0_1 t_a6_0_2 t_a6_0_3 _)) (g := (mkF m 24 #[.val (.ref a6_0), .val (.int p6_1), .val (.int p6_2), .val (.int ((p6_1.toUInt32 >>> ((6 : Int32) &&& 31).toUInt32).toInt32)), .val (.int (p6_1 &&& (63 : Int32))), .unset, .unset] [(.int ((p6_1.toUInt32 >>> ((6 : Int32) &&& 31).toUInt32).toInt32)), (.ref a6_0)])) rfl rfl (hb hby d6_24) _ ?_
        show Steps p.tables e below (s₁.setTop (mkF m 25 #[.val (.ref a6_0), .val (.int p6_1), .val (.int p6_2), .val (.int ((p6_1.toUInt32 >>> ((6 : Int32) &&& 31).toUInt32).toInt32)), .val (.int (p6_1 &&& (63 : Int32))), .unset, .unset] [(.long (own_w4 t_a6_0_0 t_a6_0_1 t_a6_0_2 t_a6_0_3 ((p6_1.toUInt32 >>> ((6 : Int32) &&& 31).toUInt32).toInt32)))])) _
        refine XS.lstore X0.here hx rfl (hb hby d6_25) rfl (l' := #[.val (.ref a6_0), .val (.int p6_1), .val (.int p6_2), .val (.int ((p6_1.toUInt32 >>> ((6 : Int32) &&& 31).toUInt32).toInt32)), .val (.int (p6_1 &&& (63 : Int32))), .val (.long (own_w4 t_a6_0_0 t_a6_0_1 t_a6_0_2 t_a6_0_3 ((p6_1.toUInt32 >>> ((6 : Int32) &&& 31).toUInt32).toInt32))), .second]) rfl ?_
        show Steps p.tables e below (s₁.setTop (mkF m 27 #[.val (.ref a6_0), .val (.int p6_1), .val (.int p6_2), .val (.int ((p6_1.toUInt32 >>> ((6 : Int32) &&& 31).toUInt32).toInt32)), .val (.int (p6_1 &&& (63 : Int32))), .val (.long (own_w4 t_a6_0_0 t_a6_0_1 t_a6_0_2 t_a6_0_3 ((p6_1.toUInt32 >>> ((6 : Int32) &&& 31).toUInt32).toInt32))), .second] [])) _
        refine XS.goto X0.here hx rfl (pc0 := 27) (pc' := 50) rfl (hb hby d6_27) (by decide) (by decide) ?_
        exact k
      · obtain ⟨cl6, Ar6, qk6, Sz6, Nz6, Hh6, Gf6⟩ := id V_a6_0
        obtain ⟨cl7, Ar7, qk7, Sz7, Nz7, Hh7, Gf7⟩ := id V_a6_0
        refine ⟨s₁, _, X0, N0, e0, fun t k => ?_⟩
        rw [show v8 = (((own_w4 t_a6_0_0 t_a6_0_1 t_a6_0_2 t_a6_0_3 ((p6_1.toUInt32 >>> ((6 : Int32) &&& 31).toUInt32).toInt32)) <<< ((p6_1 &&& (63 : Int32)) &&& 0x3f).toInt64) ||| (((own_w4 t_a6_0_0 t_a6_0_1 t_a6_0_2 t_a6_0_3 (((p6_1.toUInt32 >>> ((6 : Int32) &&& 31).toUInt32).toInt32) + (1 : Int32))).toUInt64 >>> (((64 : Int32) - (p6_1 &&& (63 : Int32))) &&& 0x3f).toInt64.toUInt64).toInt64)) from hv8.trans (if_neg h19_4)] at k
        show Steps p.tables e below (s₁.setTop (mkF m 19 #[.val (.ref a6_0), .val (.int p6_1), .val (.int p6_2), .val (.int ((p6_1.toUInt32 >>> ((6 : Int32) &&& 31).toUInt32).toInt32)), .val (.int (p6_1 &&& (63 : Int32))), .unset, .unset] [(.int (p6_1 &&& (63 : Int32)))])) _
        refine XS.ifYes X0.here hx rfl (pc0 := 19) (pc' := 30) rfl (hb hby d6_19) rfl ((if0 _ _).trans (feq h19_4).2) (by decide) (by decide) ?_
        show Steps p.tables e below (s₁.setTop (mkF m 30 #[.val (.ref a6_0), .val (.int p6_1), .val (.int p6_2), .val (.int ((p6_1.toUInt32 >>> ((6 : Int32) &&& 31).toUInt32).toInt32)), .val (.int (p6_1 &&& (63 : Int32))), .unset, .unset] [])) _
        refine XS.aloadN X0.here hx rfl (hb hby d6_30) rfl rfl ?_
        show Steps p.tables e below (s₁.setTop (mkF m 31 #[.val (.ref a6_0), .val (.int p6_1), .val (.int p6_2), .val (.int ((p6_1.toUInt32 >>> ((6 : Int32) &&& 31).toUInt32).toInt32)), .val (.int (p6_1 &&& (63 : Int32))), .unset, .unset] [(.ref a6_0)])) _
        refine XS.iloadN X0.here hx rfl (hb hby d6_31) rfl ?_
        show Steps p.tables e below (s₁.setTop (mkF m 32 #[.val (.ref a6_0), .val (.int p6_1), .val (.int p6_2), .val (.int ((p6_1.toUInt32 >>> ((6 : Int32) &&& 31).toUInt32).toInt32)), .val (.int (p6_1 &&& (63 : Int32))), .unset, .unset] [(.int ((p6_1.toUInt32 >>> ((6 : Int32) &&& 31).toUInt32).toInt32)), (.ref a6_0)])) _
        refine X0.laload hx (j := ((p6_1.toUInt32 >>> ((6 : Int32) &&& 31).toUInt32).toInt32)) (v := (.long (own_w4 t_a6_0_0 t_a6_0_1 t_a6_0_2 t_a6_0_3 ((p6_1.toUInt32 >>> ((6 : Int32) &&& 31).toUInt32).toInt32)))) (by rw [e0]; exact Ar6.1) (State.isArrayOf_alike hZ.alike Ar6.2.1) Ar6.2.2 (inb_of Sz6 (own_q1 (hq h1_2)).1) (Hh6.at (inb_of Sz6 (own_q1 (hq h1_2)).1) (own_w4_at t_a6_0_0 t_a6_0_1 t_a6_0_2 t_a6_0_3 _)) (g := (mkF m 32 #[.val (.ref a6_0), .val (.int p6_1), .val (.int p6_2), .val (.int ((p6_1.toUInt32 >>> ((6 : Int32) &&& 31).toUInt32).toInt32)), .val (.int (p6_1 &&& (63 : Int32))), .unset, .unset] [(.int ((p6_1.toUInt32 >>> ((6 : Int32) &&& 31).toUInt32).toInt32)), (.ref a6_0)])) rfl rfl (hb hby d6_32) _ ?_
        show Steps p.tables e below (s₁.setTop (mkF m 33 #[.val (.ref a6_0), .val (.int p6_1), .val (.int p6_2), .val (.int ((p6_1.toUInt32 >>> ((6 : Int32) &&& 31).toUInt32).toInt32)), .val (.int (p6_1 &&& (63 : Int32))), .unset, .unset] [(.long (own_w4 t_a6_0_0 t_a6_0_1 t_a6_0_2 t_a6_0_3 ((p6_1.toUInt32 >>> ((6 : Int32) &&& 31).toUInt32).toInt32)))])) _
        refine XS.iload X0.here hx rfl (hb hby d6_33) rfl ?_
        show Steps p.tables e below (s₁.setTop (mkF m 35 #[.val (.ref a6_0), .val (.int p6_1), .val (.int p6_2), .val (.int ((p6_1.toUInt32 >>> ((6 : Int32) &&& 31).toUInt32).toInt32)), .val (.int (p6_1 &&& (63 : Int32))), .unset, .unset] [(.int (p6_1 &&& (63 : Int32))), (.long (own_w4 t_a6_0_0 t_a6_0_1 t_a6_0_2 t_a6_0_3 ((p6_1.toUInt32 >>> ((6 : Int32) &&& 31).toUInt32).toInt32)))])) _
        refine XS.lshl X0.here hx rfl (hb hby d6_35) rfl ?_
        show Steps p.tables e below (s₁.setTop (mkF m 36 #[.val (.ref a6_0), .val (.int p6_1), .val (.int p6_2), .val (.int ((p6_1.toUInt32 >>> ((6 : Int32) &&& 31).toUInt32).toInt32)), .val (.int (p6_1 &&& (63 : Int32))), .unset, .unset] [(.long ((own_w4 t_a6_0_0 t_a6_0_1 t_a6_0_2 t_a6_0_3 ((p6_1.toUInt32 >>> ((6 : Int32) &&& 31).toUInt32).toInt32)) <<< ((p6_1 &&& (63 : Int32)) &&& 0x3f).toInt64))])) _
        refine XS.aloadN X0.here hx rfl (hb hby d6_36) rfl rfl ?_
        show Steps p.tables e below (s₁.setTop (mkF m 37 #[.val (.ref a6_0), .val (.int p6_1), .val (.int p6_2), .val (.int ((p6_1.toUInt32 >>> ((6 : Int32) &&& 31).toUInt32).toInt32)), .val (.int (p6_1 &&& (63 : Int32))), .unset, .unset] [(.ref a6_0), (.long ((own_w4 t_a6_0_0 t_a6_0_1 t_a6_0_2 t_a6_0_3 ((p6_1.toUInt32 >>> ((6 : Int32) &&& 31).toUInt32).toInt32)) <<< ((p6_1 &&& (63 : Int32)) &&& 0x3f).toInt64))])) _
        refine XS.iloadN X0.here hx rfl (hb hby d6_37) rfl ?_
        show Steps p.tables e below (s₁.setTop (mkF m 38 #[.val (.ref a6_0), .val (.int p6_1), .val (.int p6_2), .val (.int ((p6_1.toUInt32 >>> ((6 : Int32) &&& 31).toUInt32).toInt32)), .val (.int (p6_1 &&& (63 : Int32))), .unset, .unset] [(.int ((p6_1.toUInt32 >>> ((6 : Int32) &&& 31).toUInt32).toInt32)), (.ref a6_0), (.long ((own_w4 t_a6_0_0 t_a6_0_1 t_a6_0_2 t_a6_0_3 ((p6_1.toUInt32 >>> ((6 : Int32) &&& 31).toUInt32).toInt32)) <<< ((p6_1 &&& (63 : Int32)) &&& 0x3f).toInt64))])) _
        refine XS.iconst X0.here hx rfl (hb hby d6_38) ?_
        show Steps p.tables e below (s₁.setTop (mkF m 39 #[.val (.ref a6_0), .val (.int p6_1), .val (.int p6_2), .val (.int ((p6_1.toUInt32 >>> ((6 : Int32) &&& 31).toUInt32).toInt32)), .val (.int (p6_1 &&& (63 : Int32))), .unset, .unset] [(.int (1 : Int32)), (.int ((p6_1.toUInt32 >>> ((6 : Int32) &&& 31).toUInt32).toInt32)), (.ref a6_0), (.long ((own_w4 t_a6_0_0 t_a6_0_1 t_a6_0_2 t_a6_0_3 ((p6_1.toUInt32 >>> ((6 : Int32) &&& 31).toUInt32).toInt32)) <<< ((p6_1 &&& (63 : Int32)) &&& 0x3f).toInt64))])) _
        refine XS.iadd X0.here hx rfl (hb hby d6_39) rfl ?_
        show Steps p.tables e below (s₁.setTop (mkF m 40 #[.val (.ref a6_0), .val (.int p6_1), .val (.int p6_2), .val (.int ((p6_1.toUInt32 >>> ((6 : Int32) &&& 31).toUInt32).toInt32)), .val (.int (p6_1 &&& (63 : Int32))), .unset, .unset] [(.int (((p6_1.toUInt32 >>> ((6 : Int32) &&& 31).toUInt32).toInt32) + (1 : Int32))), (.ref a6_0), (.long ((own_w4 t_a6_0_0 t_a6_0_1 t_a6_0_2 t_a6_0_3 ((p6_1.toUInt32 >>> ((6 : Int32) &&& 31).toUInt32).toInt32)) <<< ((p6_1 &&& (63 : Int32)) &&& 0x3f).toInt64))])) _
        refine X0.laload hx (j := (((p6_1.toUInt32 >>> ((6 : Int32) &&& 31).toUInt32).toInt32) + (1 : Int32))) (v := (.long (own_w4 t_a6_0_0 t_a6_0_1 t_a6_0_2 t_a6_0_3 (((p6_1.toUInt32 >>> ((6 : Int32) &&& 31).toUInt32).toInt32) + (1 : Int32))))) (by rw [e0]; exact Ar7.1) (State.isArrayOf_alike hZ.alike Ar7.2.1) Ar7.2.2 (inb_of Sz7 (own_q1 (hq h1_2)).2) (Hh7.at (inb_of Sz7 (own_q1 (hq h1_2)).2) (own_w4_at t_a6_0_0 t_a6_0_1 t_a6_0_2 t_a6_0_3 _)) (g := (mkF m 40 #[.val (.ref a6_0), .val (.int p6_1), .val (.int p6_2), .val (.int ((p6_1.toUInt32 >>> ((6 : Int32) &&& 31).toUInt32).toInt32)), .val (.int (p6_1 &&& (63 : Int32))), .unset, .unset] [(.int (((p6_1.toUInt32 >>> ((6 : Int32) &&& 31).toUInt32).toInt32) + (1 : Int32))), (.ref a6_0), (.long ((own_w4 t_a6_0_0 t_a6_0_1 t_a6_0_2 t_a6_0_3 ((p6_1.toUInt32 >>> ((6 : Int32) &&& 31).toUInt32).toInt32)) <<< ((p6_1 &&& (63 : Int32)) &&& 0x3f).toInt64))])) rfl rfl (hb hby d6_40) _ ?_
        show Steps p.tables e below (s₁.setTop (mkF m 41 #[.val (.ref a6_0), .val (.int p6_1), .val (.int p6_2), .val (.int ((p6_1.toUInt32 >>> ((6 : Int32) &&& 31).toUInt32).toInt32)), .val (.int (p6_1 &&& (63 : Int32))), .unset, .unset] [(.long (own_w4 t_a6_0_0 t_a6_0_1 t_a6_0_2 t_a6_0_3 (((p6_1.toUInt32 >>> ((6 : Int32) &&& 31).toUInt32).toInt32) + (1 : Int32)))), (.long ((own_w4 t_a6_0_0 t_a6_0_1 t_a6_0_2 t_a6_0_3 ((p6_1.toUInt32 >>> ((6 : Int32) &&& 31).toUInt32).toInt32)) <<< ((p6_1 &&& (63 : Int32)) &&& 0x3f).toInt64))])) _
        refine XS.bipush X0.here hx rfl (hb hby d6_41) ?_
        show Steps p.tables e below (s₁.setTop (mkF m 43 #[.val (.ref a6_0), .val (.int p6_1), .val (.int p6_2), .val (.int ((p6_1.toUInt32 >>> ((6 : Int32) &&& 31).toUInt32).toInt32)), .val (.int (p6_1 &&& (63 : Int32))), .unset, .unset] [(.int (64 : Int32)), (.long (own_w4 t_a6_0_0 t_a6_0_1 t_a6_0_2 t_a6_0_3 (((p6_1.toUInt32 >>> ((6 : Int32) &&& 31).toUInt32).toInt32) + (1 : Int32)))), (.long ((own_w4 t_a6_0_0 t_a6_0_1 t_a6_0_2 t_a6_0_3 ((p6_1.toUInt32 >>> ((6 : Int32) &&& 31).toUInt32).toInt32)) <<< ((p6_1 &&& (63 : Int32)) &&& 0x3f).toInt64))])) _
        refine XS.iload X0.here hx rfl (hb hby d6_43) rfl ?_
        show Steps p.tables e below (s₁.setTop (mkF m 45 #[.val (.ref a6_0), .val (.int p6_1), .val (.int p6_2), .val (.int ((p6_1.toUInt32 >>> ((6 : Int32) &&& 31).toUInt32).toInt32)), .val (.int (p6_1 &&& (63 : Int32))), .unset, .unset] [(.int (p6_1 &&& (63 : Int32))), (.int (64 : Int32)), (.long (own_w4 t_a6_0_0 t_a6_0_1 t_a6_0_2 t_a6_0_3 (((p6_1.toUInt32 >>> ((6 : Int32) &&& 31).toUInt32).toInt32) + (1 : Int32)))), (.long ((own_w4 t_a6_0_0 t_a6_0_1 t_a6_0_2 t_a6_0_3 ((p6_1.toUInt32 >>> ((6 : Int32) &&& 31).toUInt32).toInt32)) <<< ((p6_1 &&& (63 : Int32)) &&& 0x3f).toInt64))])) _
        refine XS.isub X0.here hx rfl (hb hby d6_45) rfl ?_
        show Steps p.tables e below (s₁.setTop (mkF m 46 #[.val (.ref a6_0), .val (.int p6_1), .val (.int p6_2), .val (.int ((p6_1.toUInt32 >>> ((6 : Int32) &&& 31).toUInt32).toInt32)), .val (.int (p6_1 &&& (63 : Int32))), .unset, .unset] [(.int ((64 : Int32) - (p6_1 &&& (63 : Int32)))), (.long (own_w4 t_a6_0_0 t_a6_0_1 t_a6_0_2 t_a6_0_3 (((p6_1.toUInt32 >>> ((6 : Int32) &&& 31).toUInt32).toInt32) + (1 : Int32)))), (.long ((own_w4 t_a6_0_0 t_a6_0_1 t_a6_0_2 t_a6_0_3 ((p6_1.toUInt32 >>> ((6 : Int32) &&& 31).toUInt32).toInt32)) <<< ((p6_1 &&& (63 : Int32)) &&& 0x3f).toInt64))])) _
        refine XS.lushr X0.here hx rfl (hb hby d6_46) rfl ?_
        show Steps p.tables e below (s₁.setTop (mkF m 47 #[.val (.ref a6_0), .val (.int p6_1), .val (.int p6_2), .val (.int ((p6_1.toUInt32 >>> ((6 : Int32) &&& 31).toUInt32).toInt32)), .val (.int (p6_1 &&& (63 : Int32))), .unset, .unset] [(.long (((own_w4 t_a6_0_0 t_a6_0_1 t_a6_0_2 t_a6_0_3 (((p6_1.toUInt32 >>> ((6 : Int32) &&& 31).toUInt32).toInt32) + (1 : Int32))).toUInt64 >>> (((64 : Int32) - (p6_1 &&& (63 : Int32))) &&& 0x3f).toInt64.toUInt64).toInt64)), (.long ((own_w4 t_a6_0_0 t_a6_0_1 t_a6_0_2 t_a6_0_3 ((p6_1.toUInt32 >>> ((6 : Int32) &&& 31).toUInt32).toInt32)) <<< ((p6_1 &&& (63 : Int32)) &&& 0x3f).toInt64))])) _
        refine XS.lor X0.here hx rfl (hb hby d6_47) rfl ?_
        show Steps p.tables e below (s₁.setTop (mkF m 48 #[.val (.ref a6_0), .val (.int p6_1), .val (.int p6_2), .val (.int ((p6_1.toUInt32 >>> ((6 : Int32) &&& 31).toUInt32).toInt32)), .val (.int (p6_1 &&& (63 : Int32))), .unset, .unset] [(.long (((own_w4 t_a6_0_0 t_a6_0_1 t_a6_0_2 t_a6_0_3 ((p6_1.toUInt32 >>> ((6 : Int32) &&& 31).toUInt32).toInt32)) <<< ((p6_1 &&& (63 : Int32)) &&& 0x3f).toInt64) ||| (((own_w4 t_a6_0_0 t_a6_0_1 t_a6_0_2 t_a6_0_3 (((p6_1.toUInt32 >>> ((6 : Int32) &&& 31).toUInt32).toInt32) + (1 : Int32))).toUInt64 >>> (((64 : Int32) - (p6_1 &&& (63 : Int32))) &&& 0x3f).toInt64.toUInt64).toInt64)))])) _
        refine XS.lstore X0.here hx rfl (hb hby d6_48) rfl (l' := #[.val (.ref a6_0), .val (.int p6_1), .val (.int p6_2), .val (.int ((p6_1.toUInt32 >>> ((6 : Int32) &&& 31).toUInt32).toInt32)), .val (.int (p6_1 &&& (63 : Int32))), .val (.long (((own_w4 t_a6_0_0 t_a6_0_1 t_a6_0_2 t_a6_0_3 ((p6_1.toUInt32 >>> ((6 : Int32) &&& 31).toUInt32).toInt32)) <<< ((p6_1 &&& (63 : Int32)) &&& 0x3f).toInt64) ||| (((own_w4 t_a6_0_0 t_a6_0_1 t_a6_0_2 t_a6_0_3 (((p6_1.toUInt32 >>> ((6 : Int32) &&& 31).toUInt32).toInt32) + (1 : Int32))).toUInt64 >>> (((64 : Int32) - (p6_1 &&& (63 : Int32))) &&& 0x3f).toInt64.toUInt64).toInt64))), .second]) rfl ?_
        exact k)
    obtain ⟨fs, hr, hrun, hended, hW, hsame⟩ := X9.leave (v := some (.long ((v8.toUInt64 >>> (((64 : Int32) - p6_2) &&& 0x3f).toInt64.toUInt64).toInt64))) (fun h => by rw [Bd.returns] at h; cases h)
    refine ⟨_, _, pre0 _ ?_, hrun, hended, _, _, rfl, ?_, ⟨_, rfl⟩, hW, hsame.mono (by decide) (by decide)⟩
    · refine G1 _ ?_
      refine G3 _ ?_
      refine G9 _ ?_
      show Steps p.tables e below (T9.setTop (mkF m 50 #[.val (.ref a6_0), .val (.int p6_1), .val (.int p6_2), .val (.int ((p6_1.toUInt32 >>> ((6 : Int32) &&& 31).toUInt32).toInt32)), .val (.int (p6_1 &&& (63 : Int32))), .val (.long v8), .second] [])) _
      refine XS.lload X9.here hx rfl (hb hby d6_50) rfl ?_
      show Steps p.tables e below (T9.setTop (mkF m 52 #[.val (.ref a6_0), .val (.int p6_1), .val (.int p6_2), .val (.int ((p6_1.toUInt32 >>> ((6 : Int32) &&& 31).toUInt32).toInt32)), .val (.int (p6_1 &&& (63 : Int32))), .val (.long v8), .second] [(.long v8)])) _
      refine XS.bipush X9.here hx rfl (hb hby d6_52) ?_
      show Steps p.tables e below (T9.setTop (mkF m 54 #[.val (.ref a6_0), .val (.int p6_1), .val (.int p6_2), .val (.int ((p6_1.toUInt32 >>> ((6 : Int32) &&& 31).toUInt32).toInt32)), .val (.int (p6_1 &&& (63 : Int32))), .val (.long v8), .second] [(.int (64 : Int32)), (.long v8)])) _
      refine XS.iloadN X9.here hx rfl (hb hby d6_54) rfl ?_
      show Steps p.tables e below (T9.setTop (mkF m 55 #[.val (.ref a6_0), .val (.int p6_1), .val (.int p6_2), .val (.int ((p6_1.toUInt32 >>> ((6 : Int32) &&& 31).toUInt32).toInt32)), .val (.int (p6_1 &&& (63 : Int32))), .val (.long v8), .second] [(.int p6_2), (.int (64 : Int32)), (.long v8)])) _
      refine XS.isub X9.here hx rfl (hb hby d6_55) rfl ?_
      show Steps p.tables e below (T9.setTop (mkF m 56 #[.val (.ref a6_0), .val (.int p6_1), .val (.int p6_2), .val (.int ((p6_1.toUInt32 >>> ((6 : Int32) &&& 31).toUInt32).toInt32)), .val (.int (p6_1 &&& (63 : Int32))), .val (.long v8), .second] [(.int ((64 : Int32) - p6_2)), (.long v8)])) _
      refine XS.lushr X9.here hx rfl (hb hby d6_56) rfl ?_
      show Steps p.tables e below (T9.setTop (mkF m 57 #[.val (.ref a6_0), .val (.int p6_1), .val (.int p6_2), .val (.int ((p6_1.toUInt32 >>> ((6 : Int32) &&& 31).toUInt32).toInt32)), .val (.int (p6_1 &&& (63 : Int32))), .val (.long v8), .second] [(.long ((v8.toUInt64 >>> (((64 : Int32) - p6_2) &&& 0x3f).toInt64.toUInt64).toInt64))])) _
      exact own_retJ X9 hx Bd.returns (hb hby d6_57) hr
    · show Q_rm6 Z a6_0 p6_1 p6_2 kc_a6_0 t_a6_0_0 t_a6_0_1 t_a6_0_2 t_a6_0_3 kc_a6_0 t_a6_0_0 t_a6_0_1 t_a6_0_2 t_a6_0_3 h0 n0 _ T9.heap _
      rw [e9]
      subst hv8
      exact ⟨(congrArg (fun z => some (Value.long z)) (if_neg h1_2).symm), N9, rfl⟩
theorem own_c65 (p x : Int32) (hx : x = ((p &&& (2147483647 : Int32)) % (65 : Int32))) : 0 ≤ x.toInt ∧ x.toInt ≤ 64 := by
  have h1 := c_and p (2147483647 : Int32) (by decide)
  have h2 := (c_iremV (p &&& (2147483647 : Int32)) (65 : Int32)).1 h1.1 (by decide)
  rw [← hx, show (65 : Int32).toInt = 65 from by decide] at h2
  omega
theorem own_rd_pos (f : Int32 → Int32) : ∀ (n : Nat) (pos : Int64) (left : Int32) (val : Int64), own_good n pos left → (own_rd f n pos left val).2.toInt = pos.toInt + left.toInt := by
  intro n
  induction n with
  | zero => intro pos left val g; show pos.toInt = _; have := g.2.1; have := g.2.2.1; omega
  | succ n ih =>
    intro pos left val g
    by_cases h : (0 : Int32) < left
    · obtain ⟨-, g', p1, p2⟩ := own_step g h
      rw [show own_rd f (n + 1) pos left val = own_rd f n (own_pos pos left) (own_left pos left) (own_val f pos left val) from if_pos h, ih _ _ _ g', p1, p2]
      omega
    · rw [show own_rd f (n + 1) pos left val = (val, pos) from if_neg h]
      rw [own_pos0] at h; have := g.2.1; show pos.toInt = _; omega
theorem own_gd (pos : Int64) (x : Int32) (h : 0 ≤ x.toInt ∧ x.toInt ≤ 64) (h1 : 0 ≤ pos.toInt) (h2 : pos.toInt ≤ 128) : own_good 64 pos x := ⟨h1, h.1, by have := h.2; omega, by have := h.2; omega⟩
theorem own_gd1 {f : Int32 → Int32} {x1 x2 : Int32} {y1 : Int64} (h1 : 0 ≤ x1.toInt ∧ x1.toInt ≤ 64) (h2 : 0 ≤ x2.toInt ∧ x2.toInt ≤ 64) (hy : y1 = (own_rd f 64 (0 : Int64) x1 (0 : Int64)).2) : own_good 64 y1 x2 ∧ y1.toInt = x1.toInt := by
  have q := own_rd_pos f 64 (0 : Int64) x1 (0 : Int64) (own_gd _ _ h1 (by decide) (by decide))
  rw [← hy, show (0 : Int64).toInt = 0 from by decide] at q
  exact ⟨own_gd _ _ h2 (by omega) (by omega), by omega⟩
theorem own_gd2 {f g : Int32 → Int32} {x1 x2 x3 : Int32} {y1 y2 : Int64} (h1 : 0 ≤ x1.toInt ∧ x1.toInt ≤ 64) (h2 : 0 ≤ x2.toInt ∧ x2.toInt ≤ 64) (h3 : 0 ≤ x3.toInt ∧ x3.toInt ≤ 64) (hy : y1 = (own_rd f 64 (0 : Int64) x1 (0 : Int64)).2) (hy2 : y2 = (own_rd g 64 y1 x2 (0 : Int64)).2) : own_good 64 y2 x3 ∧ y2.toInt = x1.toInt + x2.toInt := by
  obtain ⟨a, b⟩ := own_gd1 h1 h2 hy
  have q := own_rd_pos g 64 y1 x2 (0 : Int64) a
  rw [← hy2] at q
  exact ⟨own_gd _ _ h3 (by omega) (by omega), by omega⟩
theorem own_hq {p : Int32} (h1 : 0 ≤ p.toInt) (h2 : p.toInt ≤ 191) : ¬ ((p.toUInt32 >>> ((6 : Int32) &&& 31).toUInt32).toInt32) < 0 ∧ ((p.toUInt32 >>> ((6 : Int32) &&& 31).toUInt32).toInt32) < 3 := by
  have q := c_iushr p (6 : Int32) 6 (by decide) (by decide)
  rw [Int32.lt_iff_toInt_lt, Int32.lt_iff_toInt_lt, show (0 : Int32).toInt = 0 from by decide, show (3 : Int32).toInt = 3 from by decide]
  omega
theorem own_add64 {x1 x2 : Int32} (h1 : 0 ≤ x1.toInt ∧ x1.toInt ≤ 64) (h2 : 0 ≤ x2.toInt ∧ x2.toInt ≤ 64) : (x1 + x2).toInt = x1.toInt + x2.toInt := by
  have q := c_iadd x1 x2
  have r := rng32 (x1 + x2)
  omega
def own_U (x : Int64) : Nat := x.toBitVec.toNat
theorem own_U_int (x : Int64) : (own_U x : Int) = x.toInt % 18446744073709551616 := by
  have h := x.toBitVec.isLt
  show ((x.toBitVec.toNat : Nat) : Int) = x.toBitVec.toInt % 18446744073709551616
  rw [BitVec.toInt_eq_toNat_cond]
  split <;> omega
theorem own_U_lt (x : Int64) : own_U x < 18446744073709551616 := x.toBitVec.isLt
theorem own_U_inj {x y : Int64} (h : own_U x = own_U y) : x = y := Int64.toBitVec_inj.mp (BitVec.eq_of_toNat_eq h)
def own_N (a b d : Int64) : Nat := own_U a * 2 ^ 128 + own_U b * 2 ^ 64 + own_U d
def own_bits (M p c : Nat) : Nat := M / 2 ^ (192 - p - c) % 2 ^ c
theorem own_split (M p t r : Nat) (h : p + t + r ≤ 192) : own_bits M p (t + r) = own_bits M p t * 2 ^ r + own_bits M (p + t) r := by
  unfold own_bits
  have e1 : 192 - (p + t) - r = 192 - p - (t + r) := by omega
  have e2 : 192 - p - t = (192 - p - (t + r)) + r := by omega
  rw [e1, e2, Nat.pow_add 2 (192 - p - (t + r)) r, ← Nat.div_div_eq_div_mul]
  generalize M / 2 ^ (192 - p - (t + r)) = Q
  rw [Nat.add_comm t r, Nat.pow_add, Nat.mod_mul, Nat.mul_comm (2 ^ r), Nat.add_comm]
theorem own_by0 (x : Int64) : (nar .byte ((x.toInt32).toInt8.toInt32)).toInt % 256 = ((own_U x % 256 : Nat) : Int) := by
  have h1 := c_i2b (x.toInt32)
  have h2 := c_i2b ((x.toInt32).toInt8.toInt32)
  have h3 := c_l2i x
  have h4 := own_U_int x
  show (((x.toInt32).toInt8.toInt32).toInt8.toInt32).toInt % 256 = _
  omega
theorem own_by (x : Int64) (q : Int32) (k : Nat) (hk : q.toBitVec.toNat % 64 = k) (h0 : 0 < k) : (nar .byte ((((x.toUInt64 >>> (q &&& 0x3f).toInt64.toUInt64).toInt64).toInt32).toInt8.toInt32)).toInt % 256 = ((own_U x / 2 ^ k % 256 : Nat) : Int) := by
  have h5 := c_lushr x q k hk h0
  generalize (x.toUInt64 >>> (q &&& 0x3f).toInt64.toUInt64).toInt64 = y at *
  have h1 := c_i2b (y.toInt32)
  have h2 := c_i2b ((y.toInt32).toInt8.toInt32)
  have h3 := c_l2i y
  rw [← own_U_int x] at h5
  have h6 : y.toInt = ((own_U x / 2 ^ k : Nat) : Int) := by rw [h5]; exact (Int.natCast_ediv _ _).symm
  generalize own_U x / 2 ^ k = D at *
  show (((y.toInt32).toInt8.toInt32).toInt8.toInt32).toInt % 256 = _
  omega
/-- the turn's own part, the place and the number of bits fixed -/
theorem own_part (v : Int32) (Q : Nat) (s t : Nat) (S T : Int32) (hv : v.toInt % 256 = ((Q % 256 : Nat) : Int)) (hS : S.toBitVec.toNat % 32 = s) (hm : (((1 : Int32) <<< (T &&& 31)) - (1 : Int32)).toBitVec.toNat = 2 ^ t - 1) (ht : t ≤ 8) (hd : (256 : Nat) = 2 ^ s * (2 ^ t * 2 ^ (8 - s - t))) :
    ((v >>> (S &&& 31)) &&& (((1 : Int32) <<< (T &&& 31)) - (1 : Int32))).toInt = ((Q / 2 ^ s % 2 ^ t : Nat) : Int) := by
  rw [c_mask _ _ t (by omega) hm, c_ishr v S s hS]
  have e : v.toInt = 256 * (v.toInt / 256) + ((Q % 256 : Nat) : Int) := by omega
  have e2 : (Q : Int) = 256 * ((Q / 256 : Nat) : Int) + ((Q % 256 : Nat) : Int) := by omega
  rw [Int.natCast_emod, Int.natCast_ediv]
  have hd' : (256 : Int) = ((2 ^ s : Nat) : Int) * (((2 ^ t : Nat) : Int) * ((2 ^ (8 - s - t) : Nat) : Int)) := by
    have q := congrArg (fun z : Nat => (z : Int)) hd
    rw [Int.natCast_mul, Int.natCast_mul] at q
    exact q
  have p1 : ((2 ^ s : Nat) : Int) ≠ 0 := by have := Nat.two_pow_pos s; omega
  rw [e, e2]
  rw [hd']
  generalize ((2 ^ s : Nat) : Int) = A at *
  generalize ((2 ^ t : Nat) : Int) = B at *
  generalize ((2 ^ (8 - s - t) : Nat) : Int) = C at *
  rw [Int.mul_assoc A (B * C), Int.mul_assoc A (B * C), Int.add_comm (A * _), Int.add_comm (A * _), Int.add_mul_ediv_left _ _ p1, Int.add_mul_ediv_left _ _ p1, Int.mul_assoc B C, Int.mul_assoc B C, Int.add_mul_emod_self_left, Int.add_mul_emod_self_left]
theorem own_pow {t : Nat} (h : t ≤ 64) : ((2 ^ t : Nat) : Int) * ((2 ^ (64 - t) : Nat) : Int) = 18446744073709551616 := by
  rw [← Int.natCast_mul, ← Nat.pow_add, show t + (64 - t) = 64 from by omega]; rfl
theorem own_mulz {X c : Int} {t : Nat} (h : t ≤ 64) (v : Int) (q : (X - v * ((2 ^ t : Nat) : Int)) % 18446744073709551616 = 0) : X % ((2 ^ t : Nat) : Int) = 0 := by
  have e : X = v * ((2 ^ t : Nat) : Int) + 18446744073709551616 * ((X - v * ((2 ^ t : Nat) : Int)) / 18446744073709551616) := by
    have := Int.mul_ediv_add_emod (X - v * ((2 ^ t : Nat) : Int)) 18446744073709551616
    omega
  rw [e, ← own_pow h, Int.mul_assoc, Int.mul_comm v, ← Int.mul_add]
  exact Int.mul_emod_right _ _
theorem own_val_lit (v : Int32) (val : Int64) (Q : Nat) (A T : Int32) (s t : Nat) (hv : v.toInt % 256 = ((Q % 256 : Nat) : Int)) (hS : (A - T).toBitVec.toNat % 32 = s) (hm : (((1 : Int32) <<< (T &&& 31)) - (1 : Int32)).toBitVec.toNat = 2 ^ t - 1) (hT : T.toBitVec.toNat % 64 = t) (ht : t ≤ 8) (hd : (256 : Nat) = 2 ^ s * (2 ^ t * 2 ^ (8 - s - t))) :
    ∃ k : Int, ((val <<< (T &&& 0x3f).toInt64) ||| (((v >>> ((A - T) &&& 31)) &&& (((1 : Int32) <<< (T &&& 31)) - (1 : Int32))).toInt64)).toInt = val.toInt * ((2 ^ t : Nat) : Int) + ((Q / 2 ^ s % 2 ^ t : Nat) : Int) + k * 18446744073709551616 := by
  have p := own_part v Q s t (A - T) T hv hS hm ht hd
  generalize (v >>> ((A - T) &&& 31)) &&& (((1 : Int32) <<< (T &&& 31)) - (1 : Int32)) = part at *
  have b1 := c_i2l part
  have a1 := c_lshl val T t hT
  have lt : Q / 2 ^ s % 2 ^ t < 2 ^ t := Nat.mod_lt _ (Nat.two_pow_pos t)
  generalize val <<< (T &&& 0x3f).toInt64 = X at *
  have dv := own_mulz (c := 0) (by omega) val.toInt a1
  have o := c_orL X part.toInt64 t (by omega) ((2 ^ t : Nat) : Int) rfl dv (by omega) (by omega)
  generalize Q / 2 ^ s % 2 ^ t = B at *
  generalize val.toInt * ((2 ^ t : Nat) : Int) = Y at *
  exact ⟨((X ||| part.toInt64).toInt - (Y + (B : Int))) / 18446744073709551616, by omega⟩
theorem own_lit {x : Int32} {n : Int} (h : x.toInt = n) (y : Int32) (hy : y.toInt = n) : x = y := Int32.toInt_inj.mp (h.trans hy.symm)
theorem own_bits_at (M P t : Nat) (h : P % 8 + t ≤ 8) (hP : P < 192) : own_bits M P t = M / 2 ^ (184 - 8 * (P / 8)) / 2 ^ (8 - P % 8 - t) % 2 ^ t := by
  unfold own_bits
  rw [Nat.div_div_eq_div_mul, ← Nat.pow_add, show 184 - 8 * (P / 8) + (8 - P % 8 - t) = 192 - P - t from by omega]
theorem own_val_int (f : Int32 → Int32) (M : Nat) (hf : ∀ j : Nat, j < 24 → (f (Int32.ofNat j)).toInt % 256 = ((own_bits M (8 * j) 8 : Nat) : Int)) {pos : Int64} {left : Int32} (val : Int64) (h1 : 0 ≤ pos.toInt) (h2 : 0 < left.toInt) (h3 : pos.toInt + left.toInt ≤ 192) :
    ∃ k : Int, (own_val f pos left val).toInt = val.toInt * ((2 ^ (own_tk pos left).toInt.toNat : Nat) : Int) + ((own_bits M pos.toInt.toNat (own_tk pos left).toInt.toNat : Nat) : Int) + k * 18446744073709551616 := by
  obtain ⟨ha, ht⟩ := own_tk_int (left := left) h1 h2
  have hi : own_idx pos = Int32.ofNat (pos.toInt.toNat / 8) := by
    apply Int32.toInt_inj.mp
    rw [own_idx_int h1 (by omega), Int32.toInt_ofNat_of_lt (by omega)]; omega
  have hv := hf (pos.toInt.toNat / 8) (by omega)
  rw [← hi] at hv
  have hv' : (f (own_idx pos)).toInt % 256 = ((M / 2 ^ (184 - 8 * (pos.toInt.toNat / 8)) % 256 : Nat) : Int) := by
    rw [hv]; unfold own_bits
    rw [show 192 - 8 * (pos.toInt.toNat / 8) - 8 = 184 - 8 * (pos.toInt.toNat / 8) from by omega]
  show ∃ k : Int, ((val <<< ((own_tk pos left) &&& 0x3f).toInt64) ||| ((((f (own_idx pos)) >>> ((((8 : Int32) - ((pos &&& (7 : Int64)).toInt32)) - (own_tk pos left)) &&& 31)) &&& (((1 : Int32) <<< ((own_tk pos left) &&& 31)) - (1 : Int32))).toInt64)).toInt = _
  rw [own_bits_at M pos.toInt.toNat _ (by omega) (by omega)]
  generalize M / 2 ^ (184 - 8 * (pos.toInt.toNat / 8)) = Q at *
  generalize f (own_idx pos) = v at *
  generalize ((8 : Int32) - ((pos &&& (7 : Int64)).toInt32)) = A at *
  generalize own_tk pos left = T at *
  have hr : pos.toInt.toNat % 8 = 8 - A.toInt.toNat := by omega
  rw [hr]
  have cA : A.toInt = 1 ∨ A.toInt = 2 ∨ A.toInt = 3 ∨ A.toInt = 4 ∨ A.toInt = 5 ∨ A.toInt = 6 ∨ A.toInt = 7 ∨ A.toInt = 8 := by omega
  have cT : T.toInt = 1 ∨ T.toInt = 2 ∨ T.toInt = 3 ∨ T.toInt = 4 ∨ T.toInt = 5 ∨ T.toInt = 6 ∨ T.toInt = 7 ∨ T.toInt = 8 := by omega
  have le : T.toInt ≤ A.toInt := by omega
  clear ht ha hr hi hv h3 h2 h1
  rcases cA with cA | cA | cA | cA | cA | cA | cA | cA <;> rcases cT with cT | cT | cT | cT | cT | cT | cT | cT
  · obtain rfl := own_lit cA (1 : Int32) (by decide); obtain rfl := own_lit cT (1 : Int32) (by decide); exact own_val_lit v val Q (1 : Int32) (1 : Int32) 0 1 hv' (by decide) (by decide) (by decide) (by decide) (by decide)
  · omega
  · omega
  · omega
  · omega
  · omega
  · omega
  · omega
  · obtain rfl := own_lit cA (2 : Int32) (by decide); obtain rfl := own_lit cT (1 : Int32) (by decide); exact own_val_lit v val Q (2 : Int32) (1 : Int32) 1 1 hv' (by decide) (by decide) (by decide) (by decide) (by decide)
  · obtain rfl := own_lit cA (2 : Int32) (by decide); obtain rfl := own_lit cT (2 : Int32) (by decide); exact own_val_lit v val Q (2 : Int32) (2 : Int32) 0 2 hv' (by decide) (by decide) (by decide) (by decide) (by decide)
  · omega
  · omega
  · omega
  · omega
  · omega
  · omega
  · obtain rfl := own_lit cA (3 : Int32) (by decide); obtain rfl := own_lit cT (1 : Int32) (by decide); exact own_val_lit v val Q (3 : Int32) (1 : Int32) 2 1 hv' (by decide) (by decide) (by decide) (by decide) (by decide)
  · obtain rfl := own_lit cA (3 : Int32) (by decide); obtain rfl := own_lit cT (2 : Int32) (by decide); exact own_val_lit v val Q (3 : Int32) (2 : Int32) 1 2 hv' (by decide) (by decide) (by decide) (by decide) (by decide)
  · obtain rfl := own_lit cA (3 : Int32) (by decide); obtain rfl := own_lit cT (3 : Int32) (by decide); exact own_val_lit v val Q (3 : Int32) (3 : Int32) 0 3 hv' (by decide) (by decide) (by decide) (by decide) (by decide)
  · omega
  · omega
  · omega
  · omega
  · omega
  · obtain rfl := own_lit cA (4 : Int32) (by decide); obtain rfl := own_lit cT (1 : Int32) (by decide); exact own_val_lit v val Q (4 : Int32) (1 : Int32) 3 1 hv' (by decide) (by decide) (by decide) (by decide) (by decide)
  · obtain rfl := own_lit cA (4 : Int32) (by decide); obtain rfl := own_lit cT (2 : Int32) (by decide); exact own_val_lit v val Q (4 : Int32) (2 : Int32) 2 2 hv' (by decide) (by decide) (by decide) (by decide) (by decide)
  · obtain rfl := own_lit cA (4 : Int32) (by decide); obtain rfl := own_lit cT (3 : Int32) (by decide); exact own_val_lit v val Q (4 : Int32) (3 : Int32) 1 3 hv' (by decide) (by decide) (by decide) (by decide) (by decide)
  · obtain rfl := own_lit cA (4 : Int32) (by decide); obtain rfl := own_lit cT (4 : Int32) (by decide); exact own_val_lit v val Q (4 : Int32) (4 : Int32) 0 4 hv' (by decide) (by decide) (by decide) (by decide) (by decide)
  · omega
  · omega
  · omega
  · omega
  · obtain rfl := own_lit cA (5 : Int32) (by decide); obtain rfl := own_lit cT (1 : Int32) (by decide); exact own_val_lit v val Q (5 : Int32) (1 : Int32) 4 1 hv' (by decide) (by decide) (by decide) (by decide) (by decide)
  · obtain rfl := own_lit cA (5 : Int32) (by decide); obtain rfl := own_lit cT (2 : Int32) (by decide); exact own_val_lit v val Q (5 : Int32) (2 : Int32) 3 2 hv' (by decide) (by decide) (by decide) (by decide) (by decide)
  · obtain rfl := own_lit cA (5 : Int32) (by decide); obtain rfl := own_lit cT (3 : Int32) (by decide); exact own_val_lit v val Q (5 : Int32) (3 : Int32) 2 3 hv' (by decide) (by decide) (by decide) (by decide) (by decide)
  · obtain rfl := own_lit cA (5 : Int32) (by decide); obtain rfl := own_lit cT (4 : Int32) (by decide); exact own_val_lit v val Q (5 : Int32) (4 : Int32) 1 4 hv' (by decide) (by decide) (by decide) (by decide) (by decide)
  · obtain rfl := own_lit cA (5 : Int32) (by decide); obtain rfl := own_lit cT (5 : Int32) (by decide); exact own_val_lit v val Q (5 : Int32) (5 : Int32) 0 5 hv' (by decide) (by decide) (by decide) (by decide) (by decide)
  · omega
  · omega
  · omega
  · obtain rfl := own_lit cA (6 : Int32) (by decide); obtain rfl := own_lit cT (1 : Int32) (by decide); exact own_val_lit v val Q (6 : Int32) (1 : Int32) 5 1 hv' (by decide) (by decide) (by decide) (by decide) (by decide)
  · obtain rfl := own_lit cA (6 : Int32) (by decide); obtain rfl := own_lit cT (2 : Int32) (by decide); exact own_val_lit v val Q (6 : Int32) (2 : Int32) 4 2 hv' (by decide) (by decide) (by decide) (by decide) (by decide)
  · obtain rfl := own_lit cA (6 : Int32) (by decide); obtain rfl := own_lit cT (3 : Int32) (by decide); exact own_val_lit v val Q (6 : Int32) (3 : Int32) 3 3 hv' (by decide) (by decide) (by decide) (by decide) (by decide)
  · obtain rfl := own_lit cA (6 : Int32) (by decide); obtain rfl := own_lit cT (4 : Int32) (by decide); exact own_val_lit v val Q (6 : Int32) (4 : Int32) 2 4 hv' (by decide) (by decide) (by decide) (by decide) (by decide)
  · obtain rfl := own_lit cA (6 : Int32) (by decide); obtain rfl := own_lit cT (5 : Int32) (by decide); exact own_val_lit v val Q (6 : Int32) (5 : Int32) 1 5 hv' (by decide) (by decide) (by decide) (by decide) (by decide)
  · obtain rfl := own_lit cA (6 : Int32) (by decide); obtain rfl := own_lit cT (6 : Int32) (by decide); exact own_val_lit v val Q (6 : Int32) (6 : Int32) 0 6 hv' (by decide) (by decide) (by decide) (by decide) (by decide)
  · omega
  · omega
  · obtain rfl := own_lit cA (7 : Int32) (by decide); obtain rfl := own_lit cT (1 : Int32) (by decide); exact own_val_lit v val Q (7 : Int32) (1 : Int32) 6 1 hv' (by decide) (by decide) (by decide) (by decide) (by decide)
  · obtain rfl := own_lit cA (7 : Int32) (by decide); obtain rfl := own_lit cT (2 : Int32) (by decide); exact own_val_lit v val Q (7 : Int32) (2 : Int32) 5 2 hv' (by decide) (by decide) (by decide) (by decide) (by decide)
  · obtain rfl := own_lit cA (7 : Int32) (by decide); obtain rfl := own_lit cT (3 : Int32) (by decide); exact own_val_lit v val Q (7 : Int32) (3 : Int32) 4 3 hv' (by decide) (by decide) (by decide) (by decide) (by decide)
  · obtain rfl := own_lit cA (7 : Int32) (by decide); obtain rfl := own_lit cT (4 : Int32) (by decide); exact own_val_lit v val Q (7 : Int32) (4 : Int32) 3 4 hv' (by decide) (by decide) (by decide) (by decide) (by decide)
  · obtain rfl := own_lit cA (7 : Int32) (by decide); obtain rfl := own_lit cT (5 : Int32) (by decide); exact own_val_lit v val Q (7 : Int32) (5 : Int32) 2 5 hv' (by decide) (by decide) (by decide) (by decide) (by decide)
  · obtain rfl := own_lit cA (7 : Int32) (by decide); obtain rfl := own_lit cT (6 : Int32) (by decide); exact own_val_lit v val Q (7 : Int32) (6 : Int32) 1 6 hv' (by decide) (by decide) (by decide) (by decide) (by decide)
  · obtain rfl := own_lit cA (7 : Int32) (by decide); obtain rfl := own_lit cT (7 : Int32) (by decide); exact own_val_lit v val Q (7 : Int32) (7 : Int32) 0 7 hv' (by decide) (by decide) (by decide) (by decide) (by decide)
  · omega
  · obtain rfl := own_lit cA (8 : Int32) (by decide); obtain rfl := own_lit cT (1 : Int32) (by decide); exact own_val_lit v val Q (8 : Int32) (1 : Int32) 7 1 hv' (by decide) (by decide) (by decide) (by decide) (by decide)
  · obtain rfl := own_lit cA (8 : Int32) (by decide); obtain rfl := own_lit cT (2 : Int32) (by decide); exact own_val_lit v val Q (8 : Int32) (2 : Int32) 6 2 hv' (by decide) (by decide) (by decide) (by decide) (by decide)
  · obtain rfl := own_lit cA (8 : Int32) (by decide); obtain rfl := own_lit cT (3 : Int32) (by decide); exact own_val_lit v val Q (8 : Int32) (3 : Int32) 5 3 hv' (by decide) (by decide) (by decide) (by decide) (by decide)
  · obtain rfl := own_lit cA (8 : Int32) (by decide); obtain rfl := own_lit cT (4 : Int32) (by decide); exact own_val_lit v val Q (8 : Int32) (4 : Int32) 4 4 hv' (by decide) (by decide) (by decide) (by decide) (by decide)
  · obtain rfl := own_lit cA (8 : Int32) (by decide); obtain rfl := own_lit cT (5 : Int32) (by decide); exact own_val_lit v val Q (8 : Int32) (5 : Int32) 3 5 hv' (by decide) (by decide) (by decide) (by decide) (by decide)
  · obtain rfl := own_lit cA (8 : Int32) (by decide); obtain rfl := own_lit cT (6 : Int32) (by decide); exact own_val_lit v val Q (8 : Int32) (6 : Int32) 2 6 hv' (by decide) (by decide) (by decide) (by decide) (by decide)
  · obtain rfl := own_lit cA (8 : Int32) (by decide); obtain rfl := own_lit cT (7 : Int32) (by decide); exact own_val_lit v val Q (8 : Int32) (7 : Int32) 1 7 hv' (by decide) (by decide) (by decide) (by decide) (by decide)
  · obtain rfl := own_lit cA (8 : Int32) (by decide); obtain rfl := own_lit cT (8 : Int32) (by decide); exact own_val_lit v val Q (8 : Int32) (8 : Int32) 0 8 hv' (by decide) (by decide) (by decide) (by decide) (by decide)
theorem own_rd_val (f : Int32 → Int32) (M : Nat) (hf : ∀ j : Nat, j < 24 → (f (Int32.ofNat j)).toInt % 256 = ((own_bits M (8 * j) 8 : Nat) : Int)) : ∀ (n : Nat) (pos : Int64) (left : Int32) (val : Int64), own_good n pos left → ∃ k : Int, (own_rd f n pos left val).1.toInt = val.toInt * ((2 ^ left.toInt.toNat : Nat) : Int) + ((own_bits M pos.toInt.toNat left.toInt.toNat : Nat) : Int) + k * 18446744073709551616 := by
  have z : ∀ (pos : Int64) (left : Int32) (val : Int64), left.toInt = 0 → ∃ k : Int, val.toInt = val.toInt * ((2 ^ left.toInt.toNat : Nat) : Int) + ((own_bits M pos.toInt.toNat left.toInt.toNat : Nat) : Int) + k * 18446744073709551616 := by
    intro pos left val h
    refine ⟨0, ?_⟩
    rw [h]
    show val.toInt = val.toInt * ((2 ^ 0 : Nat) : Int) + ((own_bits M pos.toInt.toNat 0 : Nat) : Int) + 0 * 18446744073709551616
    unfold own_bits
    simp [Nat.mod_one]
  intro n
  induction n with
  | zero => intro pos left val g; exact z pos left val (by have := g.2.1; have := g.2.2.1; omega)
  | succ n ih =>
    intro pos left val g
    by_cases h : (0 : Int32) < left
    · obtain ⟨-, g', p1, p2⟩ := own_step g h
      have h' := own_pos0.mp h
      obtain ⟨k1, e1⟩ := own_val_int f M hf val g.1 h' g.2.2.2
      obtain ⟨k2, e2⟩ := ih _ _ (own_val f pos left val) g'
      have t0 := (own_tk_int (left := left) g.1 h').2
      rw [show own_rd f (n + 1) pos left val = own_rd f n (own_pos pos left) (own_left pos left) (own_val f pos left val) from if_pos h, e2, e1, p1, p2]
      have g1 := g.1; have g4 := g.2.2.2
      have sp := own_split M pos.toInt.toNat (own_tk pos left).toInt.toNat (left.toInt - (own_tk pos left).toInt).toNat (by omega)
      rw [show (own_tk pos left).toInt.toNat + (left.toInt - (own_tk pos left).toInt).toNat = left.toInt.toNat from by omega] at sp
      rw [sp, show (pos.toInt + (own_tk pos left).toInt).toNat = pos.toInt.toNat + (own_tk pos left).toInt.toNat from by omega]
      rw [show ((2 ^ left.toInt.toNat : Nat) : Int) = ((2 ^ (own_tk pos left).toInt.toNat : Nat) : Int) * ((2 ^ (left.toInt - (own_tk pos left).toInt).toNat : Nat) : Int) from by rw [← Int.natCast_mul, ← Nat.pow_add, show (own_tk pos left).toInt.toNat + (left.toInt - (own_tk pos left).toInt).toNat = left.toInt.toNat from by omega]]
      rw [Int.natCast_add, Int.natCast_mul]
      generalize ((2 ^ (own_tk pos left).toInt.toNat : Nat) : Int) = A
      generalize ((2 ^ (left.toInt - (own_tk pos left).toInt).toNat : Nat) : Int) = B
      generalize ((own_bits M pos.toInt.toNat (own_tk pos left).toInt.toNat : Nat) : Int) = C
      generalize ((own_bits M (pos.toInt.toNat + (own_tk pos left).toInt.toNat) (left.toInt - (own_tk pos left).toInt).toNat : Nat) : Int) = E
      exact ⟨k1 * B + k2, by grind⟩
    · rw [show own_rd f (n + 1) pos left val = (val, pos) from if_neg h]
      exact z pos left val (by rw [own_pos0] at h; have := g.2.1; omega)
theorem own_rd_U (f : Int32 → Int32) (M : Nat) (hf : ∀ j : Nat, j < 24 → (f (Int32.ofNat j)).toInt % 256 = ((own_bits M (8 * j) 8 : Nat) : Int)) {pos : Int64} {left : Int32} (g : own_good 64 pos left) : own_U (own_rd f 64 pos left (0 : Int64)).1 = own_bits M pos.toInt.toNat left.toInt.toNat := by
  obtain ⟨k, e⟩ := own_rd_val f M hf 64 pos left (0 : Int64) g
  have u := own_U_int (own_rd f 64 pos left (0 : Int64)).1
  rw [show (0 : Int64).toInt = 0 from by decide, Int.zero_mul, Int.zero_add] at e
  have b : own_bits M pos.toInt.toNat left.toInt.toNat < 2 ^ left.toInt.toNat := Nat.mod_lt _ (Nat.two_pow_pos _)
  have b2 : 2 ^ left.toInt.toNat ≤ 2 ^ 64 := Nat.pow_le_pow_right (by decide) (by have := g.2.2.1; omega)
  have b3 : (2 : Nat) ^ 64 = 18446744073709551616 := by decide
  omega
def own_t64 (x0 x1 x2 x3 : Int64) (p : Int32) : Int64 := (if (p &&& (63 : Int32)) = (0 : Int32) then (own_w4 x0 x1 x2 x3 ((p.toUInt32 >>> ((6 : Int32) &&& 31).toUInt32).toInt32)) else (((own_w4 x0 x1 x2 x3 ((p.toUInt32 >>> ((6 : Int32) &&& 31).toUInt32).toInt32)) <<< ((p &&& (63 : Int32)) &&& 0x3f).toInt64) ||| (((own_w4 x0 x1 x2 x3 (((p.toUInt32 >>> ((6 : Int32) &&& 31).toUInt32).toInt32) + (1 : Int32))).toUInt64 >>> (((64 : Int32) - (p &&& (63 : Int32))) &&& 0x3f).toInt64.toUInt64).toInt64)))
def own_ref (x0 x1 x2 x3 : Int64) (p c : Int32) : Int64 := (if c = (0 : Int32) then (0 : Int64) else (((own_t64 x0 x1 x2 x3 p).toUInt64 >>> (((64 : Int32) - c) &&& 0x3f).toInt64.toUInt64).toInt64))
theorem own_nat_of {x : Int32} {n : Nat} (h : x.toInt = (n : Int)) : x.toBitVec.toNat = n := by
  have l := x.toBitVec.isLt
  have h' : x.toBitVec.toInt = (n : Int) := h
  rw [BitVec.toInt_eq_toNat_cond] at h'
  split at h' <;> omega
/-- two words, moved by s, as one -/
theorem own_two (X Y : Int64) (S : Int32) (s : Nat) (hs : S.toInt = (s : Int)) (h1 : 0 < s) (h2 : s < 64) : own_U ((X <<< (S &&& 0x3f).toInt64) ||| ((Y.toUInt64 >>> (((64 : Int32) - S) &&& 0x3f).toInt64.toUInt64).toInt64)) = (own_U X * 2 ^ s + own_U Y / 2 ^ (64 - s)) % 18446744073709551616 := by
  have n1 := own_nat_of hs
  have d := c_isub (64 : Int32) S
  rw [show (64 : Int32).toInt = 64 from by decide] at d
  have r := rng32 ((64 : Int32) - S)
  have n2 : ((64 : Int32) - S).toBitVec.toNat = 64 - s := own_nat_of (by omega)
  have a1 := c_lshl X S s (by rw [n1]; omega)
  have b1 := c_lushr Y ((64 : Int32) - S) (64 - s) (by rw [n2]; omega) (by omega)
  generalize X <<< (S &&& 0x3f).toInt64 = P at *
  generalize (Y.toUInt64 >>> (((64 : Int32) - S) &&& 0x3f).toInt64.toUInt64).toInt64 = R at *
  rw [← own_U_int Y, ← Int.natCast_ediv] at b1
  have lt : own_U Y / 2 ^ (64 - s) < 2 ^ s := by
    rw [Nat.div_lt_iff_lt_mul (Nat.two_pow_pos _), ← Nat.pow_add, show s + (64 - s) = 64 from by omega]
    exact own_U_lt Y
  have dv := own_mulz (c := 0) (by omega) X.toInt a1
  have b0 : 0 ≤ R.toInt := by rw [b1]; exact Int.natCast_nonneg _
  have b2 : R.toInt < ((2 ^ s : Nat) : Int) := by rw [b1]; exact Int.ofNat_lt.mpr lt
  have o := c_orL P R s (by omega) ((2 ^ s : Nat) : Int) rfl dv b0 b2
  have u := own_U_int (P ||| R)
  have ux := own_U_int X
  have e : (X.toInt * ((2 ^ s : Nat) : Int) - (own_U X : Int) * ((2 ^ s : Nat) : Int)) % 18446744073709551616 = 0 := by
    rw [← Int.sub_mul, ux]
    have : (X.toInt - X.toInt % 18446744073709551616) % 18446744073709551616 = 0 := by omega
    rw [Int.mul_emod, this, Int.zero_mul]; rfl
  have e2 : ((own_U X * 2 ^ s : Nat) : Int) = (own_U X : Int) * ((2 ^ s : Nat) : Int) := Int.natCast_mul _ _
  rw [← e2] at e
  generalize X.toInt * ((2 ^ s : Nat) : Int) = A at *
  generalize own_U X * 2 ^ s = B at *
  generalize own_U Y / 2 ^ (64 - s) = C at *
  omega
theorem own_cut (H X Y s : Nat) (h2 : s ≤ 64) : (H * 2 ^ 128 + X * 2 ^ 64 + Y) / 2 ^ (64 - s) % 18446744073709551616 = (X * 2 ^ s + Y / 2 ^ (64 - s)) % 18446744073709551616 := by
  have e : H * 2 ^ 128 + X * 2 ^ 64 + Y = Y + 2 ^ (64 - s) * (H * 2 ^ s * 18446744073709551616 + X * 2 ^ s) := by
    have q : (2 : Nat) ^ 64 = 2 ^ (64 - s) * 2 ^ s := by rw [← Nat.pow_add, show 64 - s + s = 64 from by omega]
    have q2 : (2 : Nat) ^ 128 = 2 ^ 64 * 18446744073709551616 := by decide
    rw [q2, q]
    generalize (2 : Nat) ^ (64 - s) = A
    generalize (2 : Nat) ^ s = B
    grind
  rw [e, Nat.add_mul_div_left _ _ (Nat.two_pow_pos _), ← Nat.add_assoc, Nat.add_right_comm, Nat.add_mul_mod_self_right, Nat.add_comm]
theorem own_w4_0 (x0 x1 x2 x3 : Int64) {j : Int32} (h : j.toInt = 0) : own_w4 x0 x1 x2 x3 j = x0 := by rw [own_lit h 0 (by decide)]; rfl
theorem own_w4_1 (x0 x1 x2 x3 : Int64) {j : Int32} (h : j.toInt = 1) : own_w4 x0 x1 x2 x3 j = x1 := by rw [own_lit h 1 (by decide)]; rfl
theorem own_w4_2 (x0 x1 x2 x3 : Int64) {j : Int32} (h : j.toInt = 2) : own_w4 x0 x1 x2 x3 j = x2 := by rw [own_lit h 2 (by decide)]; rfl
theorem own_w4_3 (x0 x1 x2 x3 : Int64) {j : Int32} (h : j.toInt = 3) : own_w4 x0 x1 x2 x3 j = x3 := by rw [own_lit h 3 (by decide)]; rfl
theorem own_t64_U (a b d : Int64) (p : Int32) (P : Nat) (hp : p.toInt = (P : Int)) (h : P < 192) : own_U (own_t64 a b d (0 : Int64) p) = own_N a b d * 2 ^ 64 / 2 ^ (192 - P) % 18446744073709551616 := by
  have q6 := c_iushr p (6 : Int32) 6 (by decide) (by decide)
  have m6 := c_mask p (63 : Int32) 6 (by decide) (by decide)
  have rq := rng32 (((p.toUInt32 >>> ((6 : Int32) &&& 31).toUInt32).toInt32) + (1 : Int32))
  have aq := c_iadd ((p.toUInt32 >>> ((6 : Int32) &&& 31).toUInt32).toInt32) (1 : Int32)
  rw [show (1 : Int32).toInt = 1 from by decide] at aq
  have la := own_U_lt a; have lb := own_U_lt b; have ld := own_U_lt d
  have z0 : own_U (0 : Int64) = 0 := by decide
  unfold own_t64
  have cut : ∀ (X Y : Int64) (H : Nat) (e : own_N a b d * 2 ^ 64 / 2 ^ (64 * (2 - P / 64)) = H * 2 ^ 128 + own_U X * 2 ^ 64 + own_U Y), own_U (if (p &&& (63 : Int32)) = (0 : Int32) then X else ((X <<< ((p &&& (63 : Int32)) &&& 0x3f).toInt64) ||| ((Y.toUInt64 >>> (((64 : Int32) - (p &&& (63 : Int32))) &&& 0x3f).toInt64.toUInt64).toInt64))) = own_N a b d * 2 ^ 64 / 2 ^ (192 - P) % 18446744073709551616 := by
    intro X Y H e
    have e3 : own_N a b d * 2 ^ 64 / 2 ^ (192 - P) = (H * 2 ^ 128 + own_U X * 2 ^ 64 + own_U Y) / 2 ^ (64 - P % 64) := by
      rw [← e, Nat.div_div_eq_div_mul, ← Nat.pow_add, show 64 * (2 - P / 64) + (64 - P % 64) = 192 - P from by omega]
    rw [e3, own_cut _ _ _ _ (by omega)]
    have lx := own_U_lt X
    have ly := own_U_lt Y
    by_cases c : (p &&& (63 : Int32)) = (0 : Int32)
    · rw [if_pos c]
      have : P % 64 = 0 := by
        rw [c, show (0 : Int32).toInt = 0 from by decide] at m6; omega
      rw [this]
      show own_U X = (own_U X * 2 ^ 0 + own_U Y / 2 ^ 64) % 18446744073709551616
      rw [Nat.pow_zero, show (2 : Nat) ^ 64 = 18446744073709551616 from by decide]
      omega
    · rw [if_neg c]
      have : P % 64 ≠ 0 := fun q => c (own_lit (n := 0) (by omega) 0 (by decide))
      exact own_two X Y (p &&& (63 : Int32)) (P % 64) (by omega) (by omega) (by omega)
  have hN : own_N a b d = own_U a * 2 ^ 128 + own_U b * 2 ^ 64 + own_U d := rfl
  have cq : P / 64 = 0 ∨ P / 64 = 1 ∨ P / 64 = 2 := by omega
  rcases cq with cq | cq | cq
  · rw [own_w4_0 _ _ _ _ (by omega), own_w4_1 _ _ _ _ (by omega)]
    refine cut a b 0 ?_
    rw [cq, hN]
    show (own_U a * 2 ^ 128 + own_U b * 2 ^ 64 + own_U d) * 2 ^ 64 / 2 ^ 128 = _
    omega
  · rw [own_w4_1 _ _ _ _ (by omega), own_w4_2 _ _ _ _ (by omega)]
    refine cut b d (own_U a) ?_
    rw [cq, hN]
    show (own_U a * 2 ^ 128 + own_U b * 2 ^ 64 + own_U d) * 2 ^ 64 / 2 ^ 64 = _
    omega
  · rw [own_w4_2 _ _ _ _ (by omega), own_w4_3 _ _ _ _ (by omega)]
    refine cut d (0 : Int64) (own_U a * 2 ^ 64 + own_U b) ?_
    rw [cq, hN, z0]
    show (own_U a * 2 ^ 128 + own_U b * 2 ^ 64 + own_U d) * 2 ^ 64 / 2 ^ 0 = _
    omega
theorem own_ref_U (a b d : Int64) (p c : Int32) (P C : Nat) (hp : p.toInt = (P : Int)) (hc : c.toInt = (C : Int)) (h1 : P + C ≤ 192) (h2 : C ≤ 64) : own_U (own_ref a b d (0 : Int64) p c) = own_bits (own_N a b d) P C := by
  unfold own_ref
  by_cases z : c = (0 : Int32)
  · rw [if_pos z]
    have : C = 0 := by rw [z, show (0 : Int32).toInt = 0 from by decide] at hc; omega
    subst this
    unfold own_bits
    rw [Nat.pow_zero, Nat.mod_one]; decide
  · rw [if_neg z]
    have C0 : C ≠ 0 := fun q => z (own_lit (n := 0) (by omega) 0 (by decide))
    have t := own_t64_U a b d p P hp (by omega)
    generalize own_t64 a b d (0 : Int64) p = T at *
    have d1 := c_isub (64 : Int32) c
    rw [show (64 : Int32).toInt = 64 from by decide] at d1
    have r := rng32 ((64 : Int32) - c)
    have n2 : ((64 : Int32) - c).toBitVec.toNat = 64 - C := own_nat_of (by omega)
    have key : own_U T / 2 ^ (64 - C) = own_bits (own_N a b d) P C := by
      rw [t]; unfold own_bits
      rw [show (18446744073709551616 : Nat) = 2 ^ (64 - C) * 2 ^ C from by rw [← Nat.pow_add, show 64 - C + C = 64 from by omega], Nat.mod_mul_right_div_self, Nat.div_div_eq_div_mul, ← Nat.pow_add, show 192 - P + (64 - C) = 64 + (192 - P - C) from by omega, Nat.pow_add, ← Nat.div_div_eq_div_mul, Nat.mul_div_cancel _ (Nat.two_pow_pos 64)]
    rw [← key]
    by_cases c64 : C = 64
    · subst c64
      have : c = (64 : Int32) := own_lit hc 64 (by decide)
      subst this
      show own_U _ = own_U T / 2 ^ 0
      rw [Nat.pow_zero, Nat.div_one]
      show (T.toBitVec >>> (0 : Nat)).toNat = T.toBitVec.toNat
      simp
    · have b1 := c_lushr T ((64 : Int32) - c) (64 - C) (by rw [n2]; omega) (by omega)
      rw [← own_U_int T, ← Int.natCast_ediv] at b1
      have u := own_U_int (T.toUInt64 >>> (((64 : Int32) - c) &&& 0x3f).toInt64.toUInt64).toInt64
      have l := own_U_lt T
      have l2 : own_U T / 2 ^ (64 - C) ≤ own_U T := Nat.div_le_self _ _
      omega
theorem d1_0 : decode method_3_code 0 = .ok (.aload_n 0, 1) := by decide +kernel
theorem d1_1 : decode method_3_code 1 = .ok (.iload_n 1, 1) := by decide +kernel
theorem d1_2 : decode method_3_code 2 = .ok (.lload_n 2, 1) := by decide +kernel
theorem d1_3 : decode method_3_code 3 = .ok (.bipush 56, 2) := by decide +kernel
theorem d1_5 : decode method_3_code 5 = .ok (.lushr, 1) := by decide +kernel
theorem d1_6 : decode method_3_code 6 = .ok (.l2i, 1) := by decide +kernel
theorem d1_7 : decode method_3_code 7 = .ok (.i2b, 1) := by decide +kernel
theorem d1_8 : decode method_3_code 8 = .ok (.bastore, 1) := by decide +kernel
theorem d1_9 : decode method_3_code 9 = .ok (.aload_n 0, 1) := by decide +kernel
theorem d1_10 : decode method_3_code 10 = .ok (.iload_n 1, 1) := by decide +kernel
theorem d1_11 : decode method_3_code 11 = .ok (.iconst 1, 1) := by decide +kernel
theorem d1_12 : decode method_3_code 12 = .ok (.iadd, 1) := by decide +kernel
theorem d1_13 : decode method_3_code 13 = .ok (.lload_n 2, 1) := by decide +kernel
theorem d1_14 : decode method_3_code 14 = .ok (.bipush 48, 2) := by decide +kernel
theorem d1_16 : decode method_3_code 16 = .ok (.lushr, 1) := by decide +kernel
theorem d1_17 : decode method_3_code 17 = .ok (.l2i, 1) := by decide +kernel
theorem d1_18 : decode method_3_code 18 = .ok (.i2b, 1) := by decide +kernel
theorem d1_19 : decode method_3_code 19 = .ok (.bastore, 1) := by decide +kernel
theorem d1_20 : decode method_3_code 20 = .ok (.aload_n 0, 1) := by decide +kernel
theorem d1_21 : decode method_3_code 21 = .ok (.iload_n 1, 1) := by decide +kernel
theorem d1_22 : decode method_3_code 22 = .ok (.iconst 2, 1) := by decide +kernel
theorem d1_23 : decode method_3_code 23 = .ok (.iadd, 1) := by decide +kernel
theorem d1_24 : decode method_3_code 24 = .ok (.lload_n 2, 1) := by decide +kernel
theorem d1_25 : decode method_3_code 25 = .ok (.bipush 40, 2) := by decide +kernel
theorem d1_27 : decode method_3_code 27 = .ok (.lushr, 1) := by decide +kernel
theorem d1_28 : decode method_3_code 28 = .ok (.l2i, 1) := by decide +kernel
theorem d1_29 : decode method_3_code 29 = .ok (.i2b, 1) := by decide +kernel
theorem d1_30 : decode method_3_code 30 = .ok (.bastore, 1) := by decide +kernel
theorem d1_31 : decode method_3_code 31 = .ok (.aload_n 0, 1) := by decide +kernel
theorem d1_32 : decode method_3_code 32 = .ok (.iload_n 1, 1) := by decide +kernel
theorem d1_33 : decode method_3_code 33 = .ok (.iconst 3, 1) := by decide +kernel
theorem d1_34 : decode method_3_code 34 = .ok (.iadd, 1) := by decide +kernel
theorem d1_35 : decode method_3_code 35 = .ok (.lload_n 2, 1) := by decide +kernel
theorem d1_36 : decode method_3_code 36 = .ok (.bipush 32, 2) := by decide +kernel
theorem d1_38 : decode method_3_code 38 = .ok (.lushr, 1) := by decide +kernel
theorem d1_39 : decode method_3_code 39 = .ok (.l2i, 1) := by decide +kernel
theorem d1_40 : decode method_3_code 40 = .ok (.i2b, 1) := by decide +kernel
theorem d1_41 : decode method_3_code 41 = .ok (.bastore, 1) := by decide +kernel
theorem d1_42 : decode method_3_code 42 = .ok (.aload_n 0, 1) := by decide +kernel
theorem d1_43 : decode method_3_code 43 = .ok (.iload_n 1, 1) := by decide +kernel
theorem d1_44 : decode method_3_code 44 = .ok (.iconst 4, 1) := by decide +kernel
theorem d1_45 : decode method_3_code 45 = .ok (.iadd, 1) := by decide +kernel
theorem d1_46 : decode method_3_code 46 = .ok (.lload_n 2, 1) := by decide +kernel
theorem d1_47 : decode method_3_code 47 = .ok (.bipush 24, 2) := by decide +kernel
theorem d1_49 : decode method_3_code 49 = .ok (.lushr, 1) := by decide +kernel
theorem d1_50 : decode method_3_code 50 = .ok (.l2i, 1) := by decide +kernel
theorem d1_51 : decode method_3_code 51 = .ok (.i2b, 1) := by decide +kernel
theorem d1_52 : decode method_3_code 52 = .ok (.bastore, 1) := by decide +kernel
theorem d1_53 : decode method_3_code 53 = .ok (.aload_n 0, 1) := by decide +kernel
theorem d1_54 : decode method_3_code 54 = .ok (.iload_n 1, 1) := by decide +kernel
theorem d1_55 : decode method_3_code 55 = .ok (.iconst 5, 1) := by decide +kernel
theorem d1_56 : decode method_3_code 56 = .ok (.iadd, 1) := by decide +kernel
theorem d1_57 : decode method_3_code 57 = .ok (.lload_n 2, 1) := by decide +kernel
theorem d1_58 : decode method_3_code 58 = .ok (.bipush 16, 2) := by decide +kernel
theorem d1_60 : decode method_3_code 60 = .ok (.lushr, 1) := by decide +kernel
theorem d1_61 : decode method_3_code 61 = .ok (.l2i, 1) := by decide +kernel
theorem d1_62 : decode method_3_code 62 = .ok (.i2b, 1) := by decide +kernel
theorem d1_63 : decode method_3_code 63 = .ok (.bastore, 1) := by decide +kernel
theorem d1_64 : decode method_3_code 64 = .ok (.aload_n 0, 1) := by decide +kernel
theorem d1_65 : decode method_3_code 65 = .ok (.iload_n 1, 1) := by decide +kernel
theorem d1_66 : decode method_3_code 66 = .ok (.bipush 6, 2) := by decide +kernel
theorem d1_68 : decode method_3_code 68 = .ok (.iadd, 1) := by decide +kernel
theorem d1_69 : decode method_3_code 69 = .ok (.lload_n 2, 1) := by decide +kernel
theorem d1_70 : decode method_3_code 70 = .ok (.bipush 8, 2) := by decide +kernel
theorem d1_72 : decode method_3_code 72 = .ok (.lushr, 1) := by decide +kernel
theorem d1_73 : decode method_3_code 73 = .ok (.l2i, 1) := by decide +kernel
theorem d1_74 : decode method_3_code 74 = .ok (.i2b, 1) := by decide +kernel
theorem d1_75 : decode method_3_code 75 = .ok (.bastore, 1) := by decide +kernel
theorem d1_76 : decode method_3_code 76 = .ok (.aload_n 0, 1) := by decide +kernel
theorem d1_77 : decode method_3_code 77 = .ok (.iload_n 1, 1) := by decide +kernel
theorem d1_78 : decode method_3_code 78 = .ok (.bipush 7, 2) := by decide +kernel
theorem d1_80 : decode method_3_code 80 = .ok (.iadd, 1) := by decide +kernel
theorem d1_81 : decode method_3_code 81 = .ok (.lload_n 2, 1) := by decide +kernel
theorem d1_82 : decode method_3_code 82 = .ok (.l2i, 1) := by decide +kernel
theorem d1_83 : decode method_3_code 83 = .ok (.i2b, 1) := by decide +kernel
theorem d1_84 : decode method_3_code 84 = .ok (.bastore, 1) := by decide +kernel
theorem d1_85 : decode method_3_code 85 = .ok (.return_, 1) := by decide +kernel
theorem pn_1 : plainName "com/example/telemetree/telemetree/storage/BitReaderReadPinLaw" = true := by first | (simp [plainName, overriddenIn]; done) | decide +kernel
theorem ef_rm1_1 (m : MethodId) (y0 : Addr) (y2 : Int64) : entryFrame m #[(.ref y0), (.int (0 : Int32)), (.long y2)] 4 = mkF m 0 #[.val (.ref y0), .val (.int (0 : Int32)), .val (.long y2), .second] [] := by first | (simp [entryFrame, mkF, argsToLocals, Value.category]; done) | rfl
def Q_rm1_1 (Z : State) (a1_0 : Addr) (q1_2 : Int64) (kc_a1_0 : ClassId) (t_a1_0_0 : Int32) (t_a1_0_1 : Int32) (t_a1_0_2 : Int32) (t_a1_0_3 : Int32) (t_a1_0_4 : Int32) (t_a1_0_5 : Int32) (t_a1_0_6 : Int32) (t_a1_0_7 : Int32) (t_a1_0_8 : Int32) (t_a1_0_9 : Int32) (t_a1_0_10 : Int32) (t_a1_0_11 : Int32) (t_a1_0_12 : Int32) (t_a1_0_13 : Int32) (t_a1_0_14 : Int32) (t_a1_0_15 : Int32) (t_a1_0_16 : Int32) (t_a1_0_17 : Int32) (t_a1_0_18 : Int32) (t_a1_0_19 : Int32) (t_a1_0_20 : Int32) (t_a1_0_21 : Int32) (t_a1_0_22 : Int32) (t_a1_0_23 : Int32) (h0 : Heap) (n0 : Nat) (v : Option Value) (h : Heap) (L : List Loc) : Prop := v = none ∧ Fr n0 L ∧ Keep h0 h [a1_0] ∧ Arv Z h a1_0 kc_a1_0 .byte (24 : Int32) [(.int (nar .byte ((((q1_2.toUInt64 >>> ((56 : Int32) &&& 0x3f).toInt64.toUInt64).toInt64).toInt32).toInt8.toInt32))), (.int (nar .byte ((((q1_2.toUInt64 >>> ((48 : Int32) &&& 0x3f).toInt64.toUInt64).toInt64).toInt32).toInt8.toInt32))), (.int (nar .byte ((((q1_2.toUInt64 >>> ((40 : Int32) &&& 0x3f).toInt64.toUInt64).toInt64).toInt32).toInt8.toInt32))), (.int (nar .byte ((((q1_2.toUInt64 >>> ((32 : Int32) &&& 0x3f).toInt64.toUInt64).toInt64).toInt32).toInt8.toInt32))), (.int (nar .byte ((((q1_2.toUInt64 >>> ((24 : Int32) &&& 0x3f).toInt64.toUInt64).toInt64).toInt32).toInt8.toInt32))), (.int (nar .byte ((((q1_2.toUInt64 >>> ((16 : Int32) &&& 0x3f).toInt64.toUInt64).toInt64).toInt32).toInt8.toInt32))), (.int (nar .byte ((((q1_2.toUInt64 >>> ((8 : Int32) &&& 0x3f).toInt64.toUInt64).toInt64).toInt32).toInt8.toInt32))), (.int (nar .byte ((q1_2.toInt32).toInt8.toInt32))), (.int t_a1_0_8), (.int t_a1_0_9), (.int t_a1_0_10), (.int t_a1_0_11), (.int t_a1_0_12), (.int t_a1_0_13), (.int t_a1_0_14), (.int t_a1_0_15), (.int t_a1_0_16), (.int t_a1_0_17), (.int t_a1_0_18), (.int t_a1_0_19), (.int t_a1_0_20), (.int t_a1_0_21), (.int t_a1_0_22), (.int t_a1_0_23)] (.int (0 : Int32))
set_option maxRecDepth 65536 in
set_option maxHeartbeats 40000000 in
theorem rm1_1 (l : Launch) (Z : State) (a0 : Array Value) (hw : ∀ d ∈ tables_1, d.before a0 Z = true) (ws : List Jvm.Cond) (a1_0 : Addr) (q1_2 : Int64) (kc_a1_0 : ClassId) (t_a1_0_0 : Int32) (t_a1_0_1 : Int32) (t_a1_0_2 : Int32) (t_a1_0_3 : Int32) (t_a1_0_4 : Int32) (t_a1_0_5 : Int32) (t_a1_0_6 : Int32) (t_a1_0_7 : Int32) (t_a1_0_8 : Int32) (t_a1_0_9 : Int32) (t_a1_0_10 : Int32) (t_a1_0_11 : Int32) (t_a1_0_12 : Int32) (t_a1_0_13 : Int32) (t_a1_0_14 : Int32) (t_a1_0_15 : Int32) (t_a1_0_16 : Int32) (t_a1_0_17 : Int32) (t_a1_0_18 : Int32) (t_a1_0_19 : Int32) (t_a1_0_20 : Int32) (t_a1_0_21 : Int32) (t_a1_0_22 : Int32) (t_a1_0_23 : Int32) (h0 : Heap) (n0 : Nat) (Z0 : n0 ≤ h0.size) (V_a1_0 : Arv Z h0 a1_0 kc_a1_0 .byte (24 : Int32) [(.int t_a1_0_0), (.int t_a1_0_1), (.int t_a1_0_2), (.int t_a1_0_3), (.int t_a1_0_4), (.int t_a1_0_5), (.int t_a1_0_6), (.int t_a1_0_7), (.int t_a1_0_8), (.int t_a1_0_9), (.int t_a1_0_10), (.int t_a1_0_11), (.int t_a1_0_12), (.int t_a1_0_13), (.int t_a1_0_14), (.int t_a1_0_15), (.int t_a1_0_16), (.int t_a1_0_17), (.int t_a1_0_18), (.int t_a1_0_19), (.int t_a1_0_20), (.int t_a1_0_21), (.int t_a1_0_22), (.int t_a1_0_23)] (.int (0 : Int32))) (g_a1_0 : n0 ≤ a1_0) :
    MetFree l (⟨"com/example/telemetree/telemetree/storage/BitReaderReadPinLaw", "put", "([BIJ)V"⟩ : MethodName) (head1 (Jvm.Cond.code (⟨"com/example/telemetree/telemetree/storage/BitReaderReadPinLaw", "put", "([BIJ)V"⟩ : MethodName) method_3_code 4 none :: ws) ({ frames := 0, cells := 0, slots := 0, locals := 0 } : Room)) (fun a U => a = #[(.ref a1_0), (.int (0 : Int32)), (.long q1_2)] ∧ Z.Warmed39 U.vm ∧ U.heap = h0) (fun _ _ _ _ _ => True) (fun _ U o U' => ∃ v L, o = .returned v ∧ Q_rm1_1 Z a1_0 q1_2 kc_a1_0 t_a1_0_0 t_a1_0_1 t_a1_0_2 t_a1_0_3 t_a1_0_4 t_a1_0_5 t_a1_0_6 t_a1_0_7 t_a1_0_8 t_a1_0_9 t_a1_0_10 t_a1_0_11 t_a1_0_12 t_a1_0_13 t_a1_0_14 t_a1_0_15 t_a1_0_16 t_a1_0_17 t_a1_0_18 t_a1_0_19 t_a1_0_20 t_a1_0_21 t_a1_0_22 t_a1_0_23 h0 n0 v U'.heap L ∧ FrameEnd U o U' L ({ frames := 0, cells := 0, slots := 0, locals := 0 } : Room).cells ({ frames := 0, cells := 0, slots := 0, locals := 0 } : Room).slots) := by
  refine MetFree.of_bodySF (plainFor_of_name pn_1) hisR ?_
  intro p e s m args below meth c s₁ Bd hml0 hP hK
  obtain ⟨rfl, hZ, hh⟩ := hP
  have hx := Bd.exec
  have hby := Bd.bytes
  have hml : c.maxLocals = 4 := hml0
  have hown : s.vm.findClass "com/example/telemetree/telemetree/storage/BitReaderReadPinLaw" = some m.cls := findClass_of_methodNamed Bd.named
  have hnm := (name_of_methodNamed Bd.named Bd.method).1
  have X0 : Stand p l e ({ frames := 0, cells := 0, slots := 0, locals := 0 } : Room) s m #[(.ref a1_0), (.int (0 : Int32)), (.long q1_2)] below meth c s₁ [] 0 0 := Stand.of_body Bd
  have e0 : s₁.heap = h0 := by rw [← hh, Bd.state]; rfl
  have N0 := Fr.nil n0
  have pre0 : ∀ t, Steps p.tables e below (s₁.setTop (mkF m 0 #[.val (.ref a1_0), .val (.int (0 : Int32)), .val (.long q1_2), .second] [])) t → Steps p.tables e below (s₁.setTop (entryFrame m #[(.ref a1_0), (.int (0 : Int32)), (.long q1_2)] 4)) t := fun t k => castTop (ef_rm1_1 m a1_0 q1_2) k
  obtain ⟨cl1, Ar1, qk1, Sz1, Nz1, Hh1, Gf1⟩ := id V_a1_0
  obtain ⟨T2, h2, X2, e2, W2, st2⟩ := stB X0 hx hZ e0 Ar1 (j := (0 : Int32)) (inb_of Sz1 ⟨by decide, by decide⟩) (g := (mkF m 8 #[.val (.ref a1_0), .val (.int (0 : Int32)), .val (.long q1_2), .second] [(.int ((((q1_2.toUInt64 >>> ((56 : Int32) &&& 0x3f).toInt64.toUInt64).toInt64).toInt32).toInt8.toInt32)), (.int (0 : Int32)), (.ref a1_0)])) rfl rfl (hb hby d1_8)
  have V2 : Arv Z h2 a1_0 kc_a1_0 .byte (24 : Int32) [(.int (nar .byte ((((q1_2.toUInt64 >>> ((56 : Int32) &&& 0x3f).toInt64.toUInt64).toInt64).toInt32).toInt8.toInt32))), (.int t_a1_0_1), (.int t_a1_0_2), (.int t_a1_0_3), (.int t_a1_0_4), (.int t_a1_0_5), (.int t_a1_0_6), (.int t_a1_0_7), (.int t_a1_0_8), (.int t_a1_0_9), (.int t_a1_0_10), (.int t_a1_0_11), (.int t_a1_0_12), (.int t_a1_0_13), (.int t_a1_0_14), (.int t_a1_0_15), (.int t_a1_0_16), (.int t_a1_0_17), (.int t_a1_0_18), (.int t_a1_0_19), (.int t_a1_0_20), (.int t_a1_0_21), (.int t_a1_0_22), (.int t_a1_0_23)] (.int (0 : Int32)) := Arv.set Ar1 qk1 Sz1 Nz1 Hh1 Gf1 (fits_nar_byte _) W2 0 rfl (Nat.le_of_ble_eq_true rfl)
  have K2 : Keep h0 h2 [a1_0] := (Keep.refl h0 [a1_0]).wr W2 (Or.inl (List.mem_of_getElem? (i := 0) rfl))
  have Z2 : n0 ≤ h2.size := Nat.le_trans Z0 K2.1
  have N2 := Fr.snoc X2 N0 g_a1_0
  obtain ⟨cl3, Ar3, qk3, Sz3, Nz3, Hh3, Gf3⟩ := id V2
  obtain ⟨T4, h4, X4, e4, W4, st4⟩ := stB X2 hx hZ e2 Ar3 (j := (1 : Int32)) (inb_of Sz3 ⟨by decide, by decide⟩) (g := (mkF m 19 #[.val (.ref a1_0), .val (.int (0 : Int32)), .val (.long q1_2), .second] [(.int ((((q1_2.toUInt64 >>> ((48 : Int32) &&& 0x3f).toInt64.toUInt64).toInt64).toInt32).toInt8.toInt32)), (.int (1 : Int32)), (.ref a1_0)])) rfl rfl (hb hby d1_19)
  have V4 : Arv Z h4 a1_0 kc_a1_0 .byte (24 : Int32) [(.int (nar .byte ((((q1_2.toUInt64 >>> ((56 : Int32) &&& 0x3f).toInt64.toUInt64).toInt64).toInt32).toInt8.toInt32))), (.int (nar .byte ((((q1_2.toUInt64 >>> ((48 : Int32) &&& 0x3f).toInt64.toUInt64).toInt64).toInt32).toInt8.toInt32))), (.int t_a1_0_2), (.int t_a1_0_3), (.int t_a1_0_4), (.int t_a1_0_5), (.int t_a1_0_6), (.int t_a1_0_7), (.int t_a1_0_8), (.int t_a1_0_9), (.int t_a1_0_10), (.int t_a1_0_11), (.int t_a1_0_12), (.int t_a1_0_13), (.int t_a1_0_14), (.int t_a1_0_15), (.int t_a1_0_16), (.int t_a1_0_17), (.int t_a1_0_18), (.int t_a1_0_19), (.int t_a1_0_20), (.int t_a1_0_21), (.int t_a1_0_22), (.int t_a1_0_23)] (.int (0 : Int32)) := Arv.set Ar3 qk3 Sz3 Nz3 Hh3 Gf3 (fits_nar_byte _) W4 1 rfl (Nat.le_of_ble_eq_true rfl)
  have K4 : Keep h0 h4 [a1_0] := K2.wr W4 (Or.inl (List.mem_of_getElem? (i := 0) rfl))
  have Z4 : n0 ≤ h4.size := Nat.le_trans Z0 K4.1
  have N4 := Fr.snoc X4 N2 g_a1_0
  obtain ⟨cl5, Ar5, qk5, Sz5, Nz5, Hh5, Gf5⟩ := id V4
  obtain ⟨T6, h6, X6, e6, W6, st6⟩ := stB X4 hx hZ e4 Ar5 (j := (2 : Int32)) (inb_of Sz5 ⟨by decide, by decide⟩) (g := (mkF m 30 #[.val (.ref a1_0), .val (.int (0 : Int32)), .val (.long q1_2), .second] [(.int ((((q1_2.toUInt64 >>> ((40 : Int32) &&& 0x3f).toInt64.toUInt64).toInt64).toInt32).toInt8.toInt32)), (.int (2 : Int32)), (.ref a1_0)])) rfl rfl (hb hby d1_30)
  have V6 : Arv Z h6 a1_0 kc_a1_0 .byte (24 : Int32) [(.int (nar .byte ((((q1_2.toUInt64 >>> ((56 : Int32) &&& 0x3f).toInt64.toUInt64).toInt64).toInt32).toInt8.toInt32))), (.int (nar .byte ((((q1_2.toUInt64 >>> ((48 : Int32) &&& 0x3f).toInt64.toUInt64).toInt64).toInt32).toInt8.toInt32))), (.int (nar .byte ((((q1_2.toUInt64 >>> ((40 : Int32) &&& 0x3f).toInt64.toUInt64).toInt64).toInt32).toInt8.toInt32))), (.int t_a1_0_3), (.int t_a1_0_4), (.int t_a1_0_5), (.int t_a1_0_6), (.int t_a1_0_7), (.int t_a1_0_8), (.int t_a1_0_9), (.int t_a1_0_10), (.int t_a1_0_11), (.int t_a1_0_12), (.int t_a1_0_13), (.int t_a1_0_14), (.int t_a1_0_15), (.int t_a1_0_16), (.int t_a1_0_17), (.int t_a1_0_18), (.int t_a1_0_19), (.int t_a1_0_20), (.int t_a1_0_21), (.int t_a1_0_22), (.int t_a1_0_23)] (.int (0 : Int32)) := Arv.set Ar5 qk5 Sz5 Nz5 Hh5 Gf5 (fits_nar_byte _) W6 2 rfl (Nat.le_of_ble_eq_true rfl)
  have K6 : Keep h0 h6 [a1_0] := K4.wr W6 (Or.inl (List.mem_of_getElem? (i := 0) rfl))
  have Z6 : n0 ≤ h6.size := Nat.le_trans Z0 K6.1
  have N6 := Fr.snoc X6 N4 g_a1_0
  obtain ⟨cl7, Ar7, qk7, Sz7, Nz7, Hh7, Gf7⟩ := id V6
  obtain ⟨T8, h8, X8, e8, W8, st8⟩ := stB X6 hx hZ e6 Ar7 (j := (3 : Int32)) (inb_of Sz7 ⟨by decide, by decide⟩) (g := (mkF m 41 #[.val (.ref a1_0), .val (.int (0 : Int32)), .val (.long q1_2), .second] [(.int ((((q1_2.toUInt64 >>> ((32 : Int32) &&& 0x3f).toInt64.toUInt64).toInt64).toInt32).toInt8.toInt32)), (.int (3 : Int32)), (.ref a1_0)])) rfl rfl (hb hby d1_41)
  have V8 : Arv Z h8 a1_0 kc_a1_0 .byte (24 : Int32) [(.int (nar .byte ((((q1_2.toUInt64 >>> ((56 : Int32) &&& 0x3f).toInt64.toUInt64).toInt64).toInt32).toInt8.toInt32))), (.int (nar .byte ((((q1_2.toUInt64 >>> ((48 : Int32) &&& 0x3f).toInt64.toUInt64).toInt64).toInt32).toInt8.toInt32))), (.int (nar .byte ((((q1_2.toUInt64 >>> ((40 : Int32) &&& 0x3f).toInt64.toUInt64).toInt64).toInt32).toInt8.toInt32))), (.int (nar .byte ((((q1_2.toUInt64 >>> ((32 : Int32) &&& 0x3f).toInt64.toUInt64).toInt64).toInt32).toInt8.toInt32))), (.int t_a1_0_4), (.int t_a1_0_5), (.int t_a1_0_6), (.int t_a1_0_7), (.int t_a1_0_8), (.int t_a1_0_9), (.int t_a1_0_10), (.int t_a1_0_11), (.int t_a1_0_12), (.int t_a1_0_13), (.int t_a1_0_14), (.int t_a1_0_15), (.int t_a1_0_16), (.int t_a1_0_17), (.int t_a1_0_18), (.int t_a1_0_19), (.int t_a1_0_20), (.int t_a1_0_21), (.int t_a1_0_22), (.int t_a1_0_23)] (.int (0 : Int32)) := Arv.set Ar7 qk7 Sz7 Nz7 Hh7 Gf7 (fits_nar_byte _) W8 3 rfl (Nat.le_of_ble_eq_true rfl)
  have K8 : Keep h0 h8 [a1_0] := K6.wr W8 (Or.inl (List.mem_of_getElem? (i := 0) rfl))
  have Z8 : n0 ≤ h8.size := Nat.le_trans Z0 K8.1
  have N8 := Fr.snoc X8 N6 g_a1_0
  obtain ⟨cl9, Ar9, qk9, Sz9, Nz9, Hh9, Gf9⟩ := id V8
  obtain ⟨T10, h10, X10, e10, W10, st10⟩ := stB X8 hx hZ e8 Ar9 (j := (4 : Int32)) (inb_of Sz9 ⟨by decide, by decide⟩) (g := (mkF m 52 #[.val (.ref a1_0), .val (.int (0 : Int32)), .val (.long q1_2), .second] [(.int ((((q1_2.toUInt64 >>> ((24 : Int32) &&& 0x3f).toInt64.toUInt64).toInt64).toInt32).toInt8.toInt32)), (.int (4 : Int32)), (.ref a1_0)])) rfl rfl (hb hby d1_52)
  have V10 : Arv Z h10 a1_0 kc_a1_0 .byte (24 : Int32) [(.int (nar .byte ((((q1_2.toUInt64 >>> ((56 : Int32) &&& 0x3f).toInt64.toUInt64).toInt64).toInt32).toInt8.toInt32))), (.int (nar .byte ((((q1_2.toUInt64 >>> ((48 : Int32) &&& 0x3f).toInt64.toUInt64).toInt64).toInt32).toInt8.toInt32))), (.int (nar .byte ((((q1_2.toUInt64 >>> ((40 : Int32) &&& 0x3f).toInt64.toUInt64).toInt64).toInt32).toInt8.toInt32))), (.int (nar .byte ((((q1_2.toUInt64 >>> ((32 : Int32) &&& 0x3f).toInt64.toUInt64).toInt64).toInt32).toInt8.toInt32))), (.int (nar .byte ((((q1_2.toUInt64 >>> ((24 : Int32) &&& 0x3f).toInt64.toUInt64).toInt64).toInt32).toInt8.toInt32))), (.int t_a1_0_5), (.int t_a1_0_6), (.int t_a1_0_7), (.int t_a1_0_8), (.int t_a1_0_9), (.int t_a1_0_10), (.int t_a1_0_11), (.int t_a1_0_12), (.int t_a1_0_13), (.int t_a1_0_14), (.int t_a1_0_15), (.int t_a1_0_16), (.int t_a1_0_17), (.int t_a1_0_18), (.int t_a1_0_19), (.int t_a1_0_20), (.int t_a1_0_21), (.int t_a1_0_22), (.int t_a1_0_23)] (.int (0 : Int32)) := Arv.set Ar9 qk9 Sz9 Nz9 Hh9 Gf9 (fits_nar_byte _) W10 4 rfl (Nat.le_of_ble_eq_true rfl)
  have K10 : Keep h0 h10 [a1_0] := K8.wr W10 (Or.inl (List.mem_of_getElem? (i := 0) rfl))
  have Z10 : n0 ≤ h10.size := Nat.le_trans Z0 K10.1
  have N10 := Fr.snoc X10 N8 g_a1_0
  obtain ⟨cl11, Ar11, qk11, Sz11, Nz11, Hh11, Gf11⟩ := id V10
  obtain ⟨T12, h12, X12, e12, W12, st12⟩ := stB X10 hx hZ e10 Ar11 (j := (5 : Int32)) (inb_of Sz11 ⟨by decide, by decide⟩) (g := (mkF m 63 #[.val (.ref a1_0), .val (.int (0 : Int32)), .val (.long q1_2), .second] [(.int ((((q1_2.toUInt64 >>> ((16 : Int32) &&& 0x3f).toInt64.toUInt64).toInt64).toInt32).toInt8.toInt32)), (.int (5 : Int32)), (.ref a1_0)])) rfl rfl (hb hby d1_63)
  have V12 : Arv Z h12 a1_0 kc_a1_0 .byte (24 : Int32) [(.int (nar .byte ((((q1_2.toUInt64 >>> ((56 : Int32) &&& 0x3f).toInt64.toUInt64).toInt64).toInt32).toInt8.toInt32))), (.int (nar .byte ((((q1_2.toUInt64 >>> ((48 : Int32) &&& 0x3f).toInt64.toUInt64).toInt64).toInt32).toInt8.toInt32))), (.int (nar .byte ((((q1_2.toUInt64 >>> ((40 : Int32) &&& 0x3f).toInt64.toUInt64).toInt64).toInt32).toInt8.toInt32))), (.int (nar .byte ((((q1_2.toUInt64 >>> ((32 : Int32) &&& 0x3f).toInt64.toUInt64).toInt64).toInt32).toInt8.toInt32))), (.int (nar .byte ((((q1_2.toUInt64 >>> ((24 : Int32) &&& 0x3f).toInt64.toUInt64).toInt64).toInt32).toInt8.toInt32))), (.int (nar .byte ((((q1_2.toUInt64 >>> ((16 : Int32) &&& 0x3f).toInt64.toUInt64).toInt64).toInt32).toInt8.toInt32))), (.int t_a1_0_6), (.int t_a1_0_7), (.int t_a1_0_8), (.int t_a1_0_9), (.int t_a1_0_10), (.int t_a1_0_11), (.int t_a1_0_12), (.int t_a1_0_13), (.int t_a1_0_14), (.int t_a1_0_15), (.int t_a1_0_16), (.int t_a1_0_17), (.int t_a1_0_18), (.int t_a1_0_19), (.int t_a1_0_20), (.int t_a1_0_21), (.int t_a1_0_22), (.int t_a1_0_23)] (.int (0 : Int32)) := Arv.set Ar11 qk11 Sz11 Nz11 Hh11 Gf11 (fits_nar_byte _) W12 5 rfl (Nat.le_of_ble_eq_true rfl)
  have K12 : Keep h0 h12 [a1_0] := K10.wr W12 (Or.inl (List.mem_of_getElem? (i := 0) rfl))
  have Z12 : n0 ≤ h12.size := Nat.le_trans Z0 K12.1
  have N12 := Fr.snoc X12 N10 g_a1_0
  obtain ⟨cl13, Ar13, qk13, Sz13, Nz13, Hh13, Gf13⟩ := id V12
  obtain ⟨T14, h14, X14, e14, W14, st14⟩ := stB X12 hx hZ e12 Ar13 (j := (6 : Int32)) (inb_of Sz13 ⟨by decide, by decide⟩) (g := (mkF m 75 #[.val (.ref a1_0), .val (.int (0 : Int32)), .val (.long q1_2), .second] [(.int ((((q1_2.toUInt64 >>> ((8 : Int32) &&& 0x3f).toInt64.toUInt64).toInt64).toInt32).toInt8.toInt32)), (.int (6 : Int32)), (.ref a1_0)])) rfl rfl (hb hby d1_75)
  have V14 : Arv Z h14 a1_0 kc_a1_0 .byte (24 : Int32) [(.int (nar .byte ((((q1_2.toUInt64 >>> ((56 : Int32) &&& 0x3f).toInt64.toUInt64).toInt64).toInt32).toInt8.toInt32))), (.int (nar .byte ((((q1_2.toUInt64 >>> ((48 : Int32) &&& 0x3f).toInt64.toUInt64).toInt64).toInt32).toInt8.toInt32))), (.int (nar .byte ((((q1_2.toUInt64 >>> ((40 : Int32) &&& 0x3f).toInt64.toUInt64).toInt64).toInt32).toInt8.toInt32))), (.int (nar .byte ((((q1_2.toUInt64 >>> ((32 : Int32) &&& 0x3f).toInt64.toUInt64).toInt64).toInt32).toInt8.toInt32))), (.int (nar .byte ((((q1_2.toUInt64 >>> ((24 : Int32) &&& 0x3f).toInt64.toUInt64).toInt64).toInt32).toInt8.toInt32))), (.int (nar .byte ((((q1_2.toUInt64 >>> ((16 : Int32) &&& 0x3f).toInt64.toUInt64).toInt64).toInt32).toInt8.toInt32))), (.int (nar .byte ((((q1_2.toUInt64 >>> ((8 : Int32) &&& 0x3f).toInt64.toUInt64).toInt64).toInt32).toInt8.toInt32))), (.int t_a1_0_7), (.int t_a1_0_8), (.int t_a1_0_9), (.int t_a1_0_10), (.int t_a1_0_11), (.int t_a1_0_12), (.int t_a1_0_13), (.int t_a1_0_14), (.int t_a1_0_15), (.int t_a1_0_16), (.int t_a1_0_17), (.int t_a1_0_18), (.int t_a1_0_19), (.int t_a1_0_20), (.int t_a1_0_21), (.int t_a1_0_22), (.int t_a1_0_23)] (.int (0 : Int32)) := Arv.set Ar13 qk13 Sz13 Nz13 Hh13 Gf13 (fits_nar_byte _) W14 6 rfl (Nat.le_of_ble_eq_true rfl)
  have K14 : Keep h0 h14 [a1_0] := K12.wr W14 (Or.inl (List.mem_of_getElem? (i := 0) rfl))
  have Z14 : n0 ≤ h14.size := Nat.le_trans Z0 K14.1
  have N14 := Fr.snoc X14 N12 g_a1_0
  obtain ⟨cl15, Ar15, qk15, Sz15, Nz15, Hh15, Gf15⟩ := id V14
  obtain ⟨T16, h16, X16, e16, W16, st16⟩ := stB X14 hx hZ e14 Ar15 (j := (7 : Int32)) (inb_of Sz15 ⟨by decide, by decide⟩) (g := (mkF m 84 #[.val (.ref a1_0), .val (.int (0 : Int32)), .val (.long q1_2), .second] [(.int ((q1_2.toInt32).toInt8.toInt32)), (.int (7 : Int32)), (.ref a1_0)])) rfl rfl (hb hby d1_84)
  have V16 : Arv Z h16 a1_0 kc_a1_0 .byte (24 : Int32) [(.int (nar .byte ((((q1_2.toUInt64 >>> ((56 : Int32) &&& 0x3f).toInt64.toUInt64).toInt64).toInt32).toInt8.toInt32))), (.int (nar .byte ((((q1_2.toUInt64 >>> ((48 : Int32) &&& 0x3f).toInt64.toUInt64).toInt64).toInt32).toInt8.toInt32))), (.int (nar .byte ((((q1_2.toUInt64 >>> ((40 : Int32) &&& 0x3f).toInt64.toUInt64).toInt64).toInt32).toInt8.toInt32))), (.int (nar .byte ((((q1_2.toUInt64 >>> ((32 : Int32) &&& 0x3f).toInt64.toUInt64).toInt64).toInt32).toInt8.toInt32))), (.int (nar .byte ((((q1_2.toUInt64 >>> ((24 : Int32) &&& 0x3f).toInt64.toUInt64).toInt64).toInt32).toInt8.toInt32))), (.int (nar .byte ((((q1_2.toUInt64 >>> ((16 : Int32) &&& 0x3f).toInt64.toUInt64).toInt64).toInt32).toInt8.toInt32))), (.int (nar .byte ((((q1_2.toUInt64 >>> ((8 : Int32) &&& 0x3f).toInt64.toUInt64).toInt64).toInt32).toInt8.toInt32))), (.int (nar .byte ((q1_2.toInt32).toInt8.toInt32))), (.int t_a1_0_8), (.int t_a1_0_9), (.int t_a1_0_10), (.int t_a1_0_11), (.int t_a1_0_12), (.int t_a1_0_13), (.int t_a1_0_14), (.int t_a1_0_15), (.int t_a1_0_16), (.int t_a1_0_17), (.int t_a1_0_18), (.int t_a1_0_19), (.int t_a1_0_20), (.int t_a1_0_21), (.int t_a1_0_22), (.int t_a1_0_23)] (.int (0 : Int32)) := Arv.set Ar15 qk15 Sz15 Nz15 Hh15 Gf15 (fits_nar_byte _) W16 7 rfl (Nat.le_of_ble_eq_true rfl)
  have K16 : Keep h0 h16 [a1_0] := K14.wr W16 (Or.inl (List.mem_of_getElem? (i := 0) rfl))
  have Z16 : n0 ≤ h16.size := Nat.le_trans Z0 K16.1
  have N16 := Fr.snoc X16 N14 g_a1_0
  obtain ⟨fs, hr, hrun, hended, hW, hsame⟩ := X16.leave (v := none) (fun _ => rfl)
  refine ⟨_, _, pre0 _ ?_, hrun, hended, _, _, rfl, ?_, ⟨_, rfl⟩, hW, hsame.mono (by decide) (by decide)⟩
  · show Steps p.tables e below (s₁.setTop (mkF m 0 #[.val (.ref a1_0), .val (.int (0 : Int32)), .val (.long q1_2), .second] [])) _
    refine XS.aloadN X0.here hx rfl (hb hby d1_0) rfl rfl ?_
    show Steps p.tables e below (s₁.setTop (mkF m 1 #[.val (.ref a1_0), .val (.int (0 : Int32)), .val (.long q1_2), .second] [(.ref a1_0)])) _
    refine XS.iloadN X0.here hx rfl (hb hby d1_1) rfl ?_
    show Steps p.tables e below (s₁.setTop (mkF m 2 #[.val (.ref a1_0), .val (.int (0 : Int32)), .val (.long q1_2), .second] [(.int (0 : Int32)), (.ref a1_0)])) _
    refine XS.lloadN X0.here hx rfl (hb hby d1_2) rfl ?_
    show Steps p.tables e below (s₁.setTop (mkF m 3 #[.val (.ref a1_0), .val (.int (0 : Int32)), .val (.long q1_2), .second] [(.long q1_2), (.int (0 : Int32)), (.ref a1_0)])) _
    refine XS.bipush X0.here hx rfl (hb hby d1_3) ?_
    show Steps p.tables e below (s₁.setTop (mkF m 5 #[.val (.ref a1_0), .val (.int (0 : Int32)), .val (.long q1_2), .second] [(.int (56 : Int32)), (.long q1_2), (.int (0 : Int32)), (.ref a1_0)])) _
    refine XS.lushr X0.here hx rfl (hb hby d1_5) rfl ?_
    show Steps p.tables e below (s₁.setTop (mkF m 6 #[.val (.ref a1_0), .val (.int (0 : Int32)), .val (.long q1_2), .second] [(.long ((q1_2.toUInt64 >>> ((56 : Int32) &&& 0x3f).toInt64.toUInt64).toInt64)), (.int (0 : Int32)), (.ref a1_0)])) _
    refine XS.l2i X0.here hx rfl (hb hby d1_6) rfl ?_
    show Steps p.tables e below (s₁.setTop (mkF m 7 #[.val (.ref a1_0), .val (.int (0 : Int32)), .val (.long q1_2), .second] [(.int (((q1_2.toUInt64 >>> ((56 : Int32) &&& 0x3f).toInt64.toUInt64).toInt64).toInt32)), (.int (0 : Int32)), (.ref a1_0)])) _
    refine XS.i2b X0.here hx rfl (hb hby d1_7) rfl ?_
    show Steps p.tables e below (s₁.setTop (mkF m 8 #[.val (.ref a1_0), .val (.int (0 : Int32)), .val (.long q1_2), .second] [(.int ((((q1_2.toUInt64 >>> ((56 : Int32) &&& 0x3f).toInt64.toUInt64).toInt64).toInt32).toInt8.toInt32)), (.int (0 : Int32)), (.ref a1_0)])) _
    refine st2 _ ?_
    show Steps p.tables e below (T2.setTop (mkF m 9 #[.val (.ref a1_0), .val (.int (0 : Int32)), .val (.long q1_2), .second] [])) _
    refine XS.aloadN X2.here hx rfl (hb hby d1_9) rfl rfl ?_
    show Steps p.tables e below (T2.setTop (mkF m 10 #[.val (.ref a1_0), .val (.int (0 : Int32)), .val (.long q1_2), .second] [(.ref a1_0)])) _
    refine XS.iloadN X2.here hx rfl (hb hby d1_10) rfl ?_
    show Steps p.tables e below (T2.setTop (mkF m 11 #[.val (.ref a1_0), .val (.int (0 : Int32)), .val (.long q1_2), .second] [(.int (0 : Int32)), (.ref a1_0)])) _
    refine XS.iconst X2.here hx rfl (hb hby d1_11) ?_
    show Steps p.tables e below (T2.setTop (mkF m 12 #[.val (.ref a1_0), .val (.int (0 : Int32)), .val (.long q1_2), .second] [(.int (1 : Int32)), (.int (0 : Int32)), (.ref a1_0)])) _
    refine XS.iadd X2.here hx rfl (hb hby d1_12) rfl ?_
    show Steps p.tables e below (T2.setTop (mkF m 13 #[.val (.ref a1_0), .val (.int (0 : Int32)), .val (.long q1_2), .second] [(.int (1 : Int32)), (.ref a1_0)])) _
    refine XS.lloadN X2.here hx rfl (hb hby d1_13) rfl ?_
    show Steps p.tables e below (T2.setTop (mkF m 14 #[.val (.ref a1_0), .val (.int (0 : Int32)), .val (.long q1_2), .second] [(.long q1_2), (.int (1 : Int32)), (.ref a1_0)])) _
    refine XS.bipush X2.here hx rfl (hb hby d1_14) ?_
    show Steps p.tables e below (T2.setTop (mkF m 16 #[.val (.ref a1_0), .val (.int (0 : Int32)), .val (.long q1_2), .second] [(.int (48 : Int32)), (.long q1_2), (.int (1 : Int32)), (.ref a1_0)])) _
    refine XS.lushr X2.here hx rfl (hb hby d1_16) rfl ?_
    show Steps p.tables e below (T2.setTop (mkF m 17 #[.val (.ref a1_0), .val (.int (0 : Int32)), .val (.long q1_2), .second] [(.long ((q1_2.toUInt64 >>> ((48 : Int32) &&& 0x3f).toInt64.toUInt64).toInt64)), (.int (1 : Int32)), (.ref a1_0)])) _
    refine XS.l2i X2.here hx rfl (hb hby d1_17) rfl ?_
    show Steps p.tables e below (T2.setTop (mkF m 18 #[.val (.ref a1_0), .val (.int (0 : Int32)), .val (.long q1_2), .second] [(.int (((q1_2.toUInt64 >>> ((48 : Int32) &&& 0x3f).toInt64.toUInt64).toInt64).toInt32)), (.int (1 : Int32)), (.ref a1_0)])) _
    refine XS.i2b X2.here hx rfl (hb hby d1_18) rfl ?_
    show Steps p.tables e below (T2.setTop (mkF m 19 #[.val (.ref a1_0), .val (.int (0 : Int32)), .val (.long q1_2), .second] [(.int ((((q1_2.toUInt64 >>> ((48 : Int32) &&& 0x3f).toInt64.toUInt64).toInt64).toInt32).toInt8.toInt32)), (.int (1 : Int32)), (.ref a1_0)])) _
    refine st4 _ ?_
    show Steps p.tables e below (T4.setTop (mkF m 20 #[.val (.ref a1_0), .val (.int (0 : Int32)), .val (.long q1_2), .second] [])) _
    refine XS.aloadN X4.here hx rfl (hb hby d1_20) rfl rfl ?_
    show Steps p.tables e below (T4.setTop (mkF m 21 #[.val (.ref a1_0), .val (.int (0 : Int32)), .val (.long q1_2), .second] [(.ref a1_0)])) _
    refine XS.iloadN X4.here hx rfl (hb hby d1_21) rfl ?_
    show Steps p.tables e below (T4.setTop (mkF m 22 #[.val (.ref a1_0), .val (.int (0 : Int32)), .val (.long q1_2), .second] [(.int (0 : Int32)), (.ref a1_0)])) _
    refine XS.iconst X4.here hx rfl (hb hby d1_22) ?_
    show Steps p.tables e below (T4.setTop (mkF m 23 #[.val (.ref a1_0), .val (.int (0 : Int32)), .val (.long q1_2), .second] [(.int (2 : Int32)), (.int (0 : Int32)), (.ref a1_0)])) _
    refine XS.iadd X4.here hx rfl (hb hby d1_23) rfl ?_
    show Steps p.tables e below (T4.setTop (mkF m 24 #[.val (.ref a1_0), .val (.int (0 : Int32)), .val (.long q1_2), .second] [(.int (2 : Int32)), (.ref a1_0)])) _
    refine XS.lloadN X4.here hx rfl (hb hby d1_24) rfl ?_
    show Steps p.tables e below (T4.setTop (mkF m 25 #[.val (.ref a1_0), .val (.int (0 : Int32)), .val (.long q1_2), .second] [(.long q1_2), (.int (2 : Int32)), (.ref a1_0)])) _
    refine XS.bipush X4.here hx rfl (hb hby d1_25) ?_
    show Steps p.tables e below (T4.setTop (mkF m 27 #[.val (.ref a1_0), .val (.int (0 : Int32)), .val (.long q1_2), .second] [(.int (40 : Int32)), (.long q1_2), (.int (2 : Int32)), (.ref a1_0)])) _
    refine XS.lushr X4.here hx rfl (hb hby d1_27) rfl ?_
    show Steps p.tables e below (T4.setTop (mkF m 28 #[.val (.ref a1_0), .val (.int (0 : Int32)), .val (.long q1_2), .second] [(.long ((q1_2.toUInt64 >>> ((40 : Int32) &&& 0x3f).toInt64.toUInt64).toInt64)), (.int (2 : Int32)), (.ref a1_0)])) _
    refine XS.l2i X4.here hx rfl (hb hby d1_28) rfl ?_
    show Steps p.tables e below (T4.setTop (mkF m 29 #[.val (.ref a1_0), .val (.int (0 : Int32)), .val (.long q1_2), .second] [(.int (((q1_2.toUInt64 >>> ((40 : Int32) &&& 0x3f).toInt64.toUInt64).toInt64).toInt32)), (.int (2 : Int32)), (.ref a1_0)])) _
    refine XS.i2b X4.here hx rfl (hb hby d1_29) rfl ?_
    show Steps p.tables e below (T4.setTop (mkF m 30 #[.val (.ref a1_0), .val (.int (0 : Int32)), .val (.long q1_2), .second] [(.int ((((q1_2.toUInt64 >>> ((40 : Int32) &&& 0x3f).toInt64.toUInt64).toInt64).toInt32).toInt8.toInt32)), (.int (2 : Int32)), (.ref a1_0)])) _
    refine st6 _ ?_
    show Steps p.tables e below (T6.setTop (mkF m 31 #[.val (.ref a1_0), .val (.int (0 : Int32)), .val (.long q1_2), .second] [])) _
    refine XS.aloadN X6.here hx rfl (hb hby d1_31) rfl rfl ?_
    show Steps p.tables e below (T6.setTop (mkF m 32 #[.val (.ref a1_0), .val (.int (0 : Int32)), .val (.long q1_2), .second] [(.ref a1_0)])) _
    refine XS.iloadN X6.here hx rfl (hb hby d1_32) rfl ?_
    show Steps p.tables e below (T6.setTop (mkF m 33 #[.val (.ref a1_0), .val (.int (0 : Int32)), .val (.long q1_2), .second] [(.int (0 : Int32)), (.ref a1_0)])) _
    refine XS.iconst X6.here hx rfl (hb hby d1_33) ?_
    show Steps p.tables e below (T6.setTop (mkF m 34 #[.val (.ref a1_0), .val (.int (0 : Int32)), .val (.long q1_2), .second] [(.int (3 : Int32)), (.int (0 : Int32)), (.ref a1_0)])) _
    refine XS.iadd X6.here hx rfl (hb hby d1_34) rfl ?_
    show Steps p.tables e below (T6.setTop (mkF m 35 #[.val (.ref a1_0), .val (.int (0 : Int32)), .val (.long q1_2), .second] [(.int (3 : Int32)), (.ref a1_0)])) _
    refine XS.lloadN X6.here hx rfl (hb hby d1_35) rfl ?_
    show Steps p.tables e below (T6.setTop (mkF m 36 #[.val (.ref a1_0), .val (.int (0 : Int32)), .val (.long q1_2), .second] [(.long q1_2), (.int (3 : Int32)), (.ref a1_0)])) _
    refine XS.bipush X6.here hx rfl (hb hby d1_36) ?_
    show Steps p.tables e below (T6.setTop (mkF m 38 #[.val (.ref a1_0), .val (.int (0 : Int32)), .val (.long q1_2), .second] [(.int (32 : Int32)), (.long q1_2), (.int (3 : Int32)), (.ref a1_0)])) _
    refine XS.lushr X6.here hx rfl (hb hby d1_38) rfl ?_
    show Steps p.tables e below (T6.setTop (mkF m 39 #[.val (.ref a1_0), .val (.int (0 : Int32)), .val (.long q1_2), .second] [(.long ((q1_2.toUInt64 >>> ((32 : Int32) &&& 0x3f).toInt64.toUInt64).toInt64)), (.int (3 : Int32)), (.ref a1_0)])) _
    refine XS.l2i X6.here hx rfl (hb hby d1_39) rfl ?_
    show Steps p.tables e below (T6.setTop (mkF m 40 #[.val (.ref a1_0), .val (.int (0 : Int32)), .val (.long q1_2), .second] [(.int (((q1_2.toUInt64 >>> ((32 : Int32) &&& 0x3f).toInt64.toUInt64).toInt64).toInt32)), (.int (3 : Int32)), (.ref a1_0)])) _
    refine XS.i2b X6.here hx rfl (hb hby d1_40) rfl ?_
    show Steps p.tables e below (T6.setTop (mkF m 41 #[.val (.ref a1_0), .val (.int (0 : Int32)), .val (.long q1_2), .second] [(.int ((((q1_2.toUInt64 >>> ((32 : Int32) &&& 0x3f).toInt64.toUInt64).toInt64).toInt32).toInt8.toInt32)), (.int (3 : Int32)), (.ref a1_0)])) _
    refine st8 _ ?_
    show Steps p.tables e below (T8.setTop (mkF m 42 #[.val (.ref a1_0), .val (.int (0 : Int32)), .val (.long q1_2), .second] [])) _
    refine XS.aloadN X8.here hx rfl (hb hby d1_42) rfl rfl ?_
    show Steps p.tables e below (T8.setTop (mkF m 43 #[.val (.ref a1_0), .val (.int (0 : Int32)), .val (.long q1_2), .second] [(.ref a1_0)])) _
    refine XS.iloadN X8.here hx rfl (hb hby d1_43) rfl ?_
    show Steps p.tables e below (T8.setTop (mkF m 44 #[.val (.ref a1_0), .val (.int (0 : Int32)), .val (.long q1_2), .second] [(.int (0 : Int32)), (.ref a1_0)])) _
    refine XS.iconst X8.here hx rfl (hb hby d1_44) ?_
    show Steps p.tables e below (T8.setTop (mkF m 45 #[.val (.ref a1_0), .val (.int (0 : Int32)), .val (.long q1_2), .second] [(.int (4 : Int32)), (.int (0 : Int32)), (.ref a1_0)])) _
    refine XS.iadd X8.here hx rfl (hb hby d1_45) rfl ?_
    show Steps p.tables e below (T8.setTop (mkF m 46 #[.val (.ref a1_0), .val (.int (0 : Int32)), .val (.long q1_2), .second] [(.int (4 : Int32)), (.ref a1_0)])) _
    refine XS.lloadN X8.here hx rfl (hb hby d1_46) rfl ?_
    show Steps p.tables e below (T8.setTop (mkF m 47 #[.val (.ref a1_0), .val (.int (0 : Int32)), .val (.long q1_2), .second] [(.long q1_2), (.int (4 : Int32)), (.ref a1_0)])) _
    refine XS.bipush X8.here hx rfl (hb hby d1_47) ?_
    show Steps p.tables e below (T8.setTop (mkF m 49 #[.val (.ref a1_0), .val (.int (0 : Int32)), .val (.long q1_2), .second] [(.int (24 : Int32)), (.long q1_2), (.int (4 : Int32)), (.ref a1_0)])) _
    refine XS.lushr X8.here hx rfl (hb hby d1_49) rfl ?_
    show Steps p.tables e below (T8.setTop (mkF m 50 #[.val (.ref a1_0), .val (.int (0 : Int32)), .val (.long q1_2), .second] [(.long ((q1_2.toUInt64 >>> ((24 : Int32) &&& 0x3f).toInt64.toUInt64).toInt64)), (.int (4 : Int32)), (.ref a1_0)])) _
    refine XS.l2i X8.here hx rfl (hb hby d1_50) rfl ?_
    show Steps p.tables e below (T8.setTop (mkF m 51 #[.val (.ref a1_0), .val (.int (0 : Int32)), .val (.long q1_2), .second] [(.int (((q1_2.toUInt64 >>> ((24 : Int32) &&& 0x3f).toInt64.toUInt64).toInt64).toInt32)), (.int (4 : Int32)), (.ref a1_0)])) _
    refine XS.i2b X8.here hx rfl (hb hby d1_51) rfl ?_
    show Steps p.tables e below (T8.setTop (mkF m 52 #[.val (.ref a1_0), .val (.int (0 : Int32)), .val (.long q1_2), .second] [(.int ((((q1_2.toUInt64 >>> ((24 : Int32) &&& 0x3f).toInt64.toUInt64).toInt64).toInt32).toInt8.toInt32)), (.int (4 : Int32)), (.ref a1_0)])) _
    refine st10 _ ?_
    show Steps p.tables e below (T10.setTop (mkF m 53 #[.val (.ref a1_0), .val (.int (0 : Int32)), .val (.long q1_2), .second] [])) _
    refine XS.aloadN X10.here hx rfl (hb hby d1_53) rfl rfl ?_
    show Steps p.tables e below (T10.setTop (mkF m 54 #[.val (.ref a1_0), .val (.int (0 : Int32)), .val (.long q1_2), .second] [(.ref a1_0)])) _
    refine XS.iloadN X10.here hx rfl (hb hby d1_54) rfl ?_
    show Steps p.tables e below (T10.setTop (mkF m 55 #[.val (.ref a1_0), .val (.int (0 : Int32)), .val (.long q1_2), .second] [(.int (0 : Int32)), (.ref a1_0)])) _
    refine XS.iconst X10.here hx rfl (hb hby d1_55) ?_
    show Steps p.tables e below (T10.setTop (mkF m 56 #[.val (.ref a1_0), .val (.int (0 : Int32)), .val (.long q1_2), .second] [(.int (5 : Int32)), (.int (0 : Int32)), (.ref a1_0)])) _
    refine XS.iadd X10.here hx rfl (hb hby d1_56) rfl ?_
    show Steps p.tables e below (T10.setTop (mkF m 57 #[.val (.ref a1_0), .val (.int (0 : Int32)), .val (.long q1_2), .second] [(.int (5 : Int32)), (.ref a1_0)])) _
    refine XS.lloadN X10.here hx rfl (hb hby d1_57) rfl ?_
    show Steps p.tables e below (T10.setTop (mkF m 58 #[.val (.ref a1_0), .val (.int (0 : Int32)), .val (.long q1_2), .second] [(.long q1_2), (.int (5 : Int32)), (.ref a1_0)])) _
    refine XS.bipush X10.here hx rfl (hb hby d1_58) ?_
    show Steps p.tables e below (T10.setTop (mkF m 60 #[.val (.ref a1_0), .val (.int (0 : Int32)), .val (.long q1_2), .second] [(.int (16 : Int32)), (.long q1_2), (.int (5 : Int32)), (.ref a1_0)])) _
    refine XS.lushr X10.here hx rfl (hb hby d1_60) rfl ?_
    show Steps p.tables e below (T10.setTop (mkF m 61 #[.val (.ref a1_0), .val (.int (0 : Int32)), .val (.long q1_2), .second] [(.long ((q1_2.toUInt64 >>> ((16 : Int32) &&& 0x3f).toInt64.toUInt64).toInt64)), (.int (5 : Int32)), (.ref a1_0)])) _
    refine XS.l2i X10.here hx rfl (hb hby d1_61) rfl ?_
    show Steps p.tables e below (T10.setTop (mkF m 62 #[.val (.ref a1_0), .val (.int (0 : Int32)), .val (.long q1_2), .second] [(.int (((q1_2.toUInt64 >>> ((16 : Int32) &&& 0x3f).toInt64.toUInt64).toInt64).toInt32)), (.int (5 : Int32)), (.ref a1_0)])) _
    refine XS.i2b X10.here hx rfl (hb hby d1_62) rfl ?_
    show Steps p.tables e below (T10.setTop (mkF m 63 #[.val (.ref a1_0), .val (.int (0 : Int32)), .val (.long q1_2), .second] [(.int ((((q1_2.toUInt64 >>> ((16 : Int32) &&& 0x3f).toInt64.toUInt64).toInt64).toInt32).toInt8.toInt32)), (.int (5 : Int32)), (.ref a1_0)])) _
    refine st12 _ ?_
    show Steps p.tables e below (T12.setTop (mkF m 64 #[.val (.ref a1_0), .val (.int (0 : Int32)), .val (.long q1_2), .second] [])) _
    refine XS.aloadN X12.here hx rfl (hb hby d1_64) rfl rfl ?_
    show Steps p.tables e below (T12.setTop (mkF m 65 #[.val (.ref a1_0), .val (.int (0 : Int32)), .val (.long q1_2), .second] [(.ref a1_0)])) _
    refine XS.iloadN X12.here hx rfl (hb hby d1_65) rfl ?_
    show Steps p.tables e below (T12.setTop (mkF m 66 #[.val (.ref a1_0), .val (.int (0 : Int32)), .val (.long q1_2), .second] [(.int (0 : Int32)), (.ref a1_0)])) _
    refine XS.bipush X12.here hx rfl (hb hby d1_66) ?_
    show Steps p.tables e below (T12.setTop (mkF m 68 #[.val (.ref a1_0), .val (.int (0 : Int32)), .val (.long q1_2), .second] [(.int (6 : Int32)), (.int (0 : Int32)), (.ref a1_0)])) _
    refine XS.iadd X12.here hx rfl (hb hby d1_68) rfl ?_
    show Steps p.tables e below (T12.setTop (mkF m 69 #[.val (.ref a1_0), .val (.int (0 : Int32)), .val (.long q1_2), .second] [(.int (6 : Int32)), (.ref a1_0)])) _
    refine XS.lloadN X12.here hx rfl (hb hby d1_69) rfl ?_
    show Steps p.tables e below (T12.setTop (mkF m 70 #[.val (.ref a1_0), .val (.int (0 : Int32)), .val (.long q1_2), .second] [(.long q1_2), (.int (6 : Int32)), (.ref a1_0)])) _
    refine XS.bipush X12.here hx rfl (hb hby d1_70) ?_
    show Steps p.tables e below (T12.setTop (mkF m 72 #[.val (.ref a1_0), .val (.int (0 : Int32)), .val (.long q1_2), .second] [(.int (8 : Int32)), (.long q1_2), (.int (6 : Int32)), (.ref a1_0)])) _
    refine XS.lushr X12.here hx rfl (hb hby d1_72) rfl ?_
    show Steps p.tables e below (T12.setTop (mkF m 73 #[.val (.ref a1_0), .val (.int (0 : Int32)), .val (.long q1_2), .second] [(.long ((q1_2.toUInt64 >>> ((8 : Int32) &&& 0x3f).toInt64.toUInt64).toInt64)), (.int (6 : Int32)), (.ref a1_0)])) _
    refine XS.l2i X12.here hx rfl (hb hby d1_73) rfl ?_
    show Steps p.tables e below (T12.setTop (mkF m 74 #[.val (.ref a1_0), .val (.int (0 : Int32)), .val (.long q1_2), .second] [(.int (((q1_2.toUInt64 >>> ((8 : Int32) &&& 0x3f).toInt64.toUInt64).toInt64).toInt32)), (.int (6 : Int32)), (.ref a1_0)])) _
    refine XS.i2b X12.here hx rfl (hb hby d1_74) rfl ?_
    show Steps p.tables e below (T12.setTop (mkF m 75 #[.val (.ref a1_0), .val (.int (0 : Int32)), .val (.long q1_2), .second] [(.int ((((q1_2.toUInt64 >>> ((8 : Int32) &&& 0x3f).toInt64.toUInt64).toInt64).toInt32).toInt8.toInt32)), (.int (6 : Int32)), (.ref a1_0)])) _
    refine st14 _ ?_
    show Steps p.tables e below (T14.setTop (mkF m 76 #[.val (.ref a1_0), .val (.int (0 : Int32)), .val (.long q1_2), .second] [])) _
    refine XS.aloadN X14.here hx rfl (hb hby d1_76) rfl rfl ?_
    show Steps p.tables e below (T14.setTop (mkF m 77 #[.val (.ref a1_0), .val (.int (0 : Int32)), .val (.long q1_2), .second] [(.ref a1_0)])) _
    refine XS.iloadN X14.here hx rfl (hb hby d1_77) rfl ?_
    show Steps p.tables e below (T14.setTop (mkF m 78 #[.val (.ref a1_0), .val (.int (0 : Int32)), .val (.long q1_2), .second] [(.int (0 : Int32)), (.ref a1_0)])) _
    refine XS.bipush X14.here hx rfl (hb hby d1_78) ?_
    show Steps p.tables e below (T14.setTop (mkF m 80 #[.val (.ref a1_0), .val (.int (0 : Int32)), .val (.long q1_2), .second] [(.int (7 : Int32)), (.int (0 : Int32)), (.ref a1_0)])) _
    refine XS.iadd X14.here hx rfl (hb hby d1_80) rfl ?_
    show Steps p.tables e below (T14.setTop (mkF m 81 #[.val (.ref a1_0), .val (.int (0 : Int32)), .val (.long q1_2), .second] [(.int (7 : Int32)), (.ref a1_0)])) _
    refine XS.lloadN X14.here hx rfl (hb hby d1_81) rfl ?_
    show Steps p.tables e below (T14.setTop (mkF m 82 #[.val (.ref a1_0), .val (.int (0 : Int32)), .val (.long q1_2), .second] [(.long q1_2), (.int (7 : Int32)), (.ref a1_0)])) _
    refine XS.l2i X14.here hx rfl (hb hby d1_82) rfl ?_
    show Steps p.tables e below (T14.setTop (mkF m 83 #[.val (.ref a1_0), .val (.int (0 : Int32)), .val (.long q1_2), .second] [(.int (q1_2.toInt32)), (.int (7 : Int32)), (.ref a1_0)])) _
    refine XS.i2b X14.here hx rfl (hb hby d1_83) rfl ?_
    show Steps p.tables e below (T14.setTop (mkF m 84 #[.val (.ref a1_0), .val (.int (0 : Int32)), .val (.long q1_2), .second] [(.int ((q1_2.toInt32).toInt8.toInt32)), (.int (7 : Int32)), (.ref a1_0)])) _
    refine st16 _ ?_
    show Steps p.tables e below (T16.setTop (mkF m 85 #[.val (.ref a1_0), .val (.int (0 : Int32)), .val (.long q1_2), .second] [])) _
    exact X16.returnOut hx Bd.returns (hb hby d1_85) hr
  · show Q_rm1_1 Z a1_0 q1_2 kc_a1_0 t_a1_0_0 t_a1_0_1 t_a1_0_2 t_a1_0_3 t_a1_0_4 t_a1_0_5 t_a1_0_6 t_a1_0_7 t_a1_0_8 t_a1_0_9 t_a1_0_10 t_a1_0_11 t_a1_0_12 t_a1_0_13 t_a1_0_14 t_a1_0_15 t_a1_0_16 t_a1_0_17 t_a1_0_18 t_a1_0_19 t_a1_0_20 t_a1_0_21 t_a1_0_22 t_a1_0_23 h0 n0 _ T16.heap _
    rw [e16]
    exact ⟨rfl, N16, K16, V16⟩
theorem pd___BIJ_V : parseMethodDescriptor "([BIJ)V" = some ⟨[(.array .byte), .int, .long], none⟩ := by decide +kernel
theorem ef_rm1_2 (m : MethodId) (y0 : Addr) (y2 : Int64) : entryFrame m #[(.ref y0), (.int (8 : Int32)), (.long y2)] 4 = mkF m 0 #[.val (.ref y0), .val (.int (8 : Int32)), .val (.long y2), .second] [] := by first | (simp [entryFrame, mkF, argsToLocals, Value.category]; done) | rfl
def Q_rm1_2 (Z : State) (a1_0 : Addr) (q1_2 : Int64) (kc_a1_0 : ClassId) (t_a1_0_0 : Int32) (t_a1_0_1 : Int32) (t_a1_0_2 : Int32) (t_a1_0_3 : Int32) (t_a1_0_4 : Int32) (t_a1_0_5 : Int32) (t_a1_0_6 : Int32) (t_a1_0_7 : Int32) (t_a1_0_8 : Int32) (t_a1_0_9 : Int32) (t_a1_0_10 : Int32) (t_a1_0_11 : Int32) (t_a1_0_12 : Int32) (t_a1_0_13 : Int32) (t_a1_0_14 : Int32) (t_a1_0_15 : Int32) (t_a1_0_16 : Int32) (t_a1_0_17 : Int32) (t_a1_0_18 : Int32) (t_a1_0_19 : Int32) (t_a1_0_20 : Int32) (t_a1_0_21 : Int32) (t_a1_0_22 : Int32) (t_a1_0_23 : Int32) (h0 : Heap) (n0 : Nat) (v : Option Value) (h : Heap) (L : List Loc) : Prop := v = none ∧ Fr n0 L ∧ Keep h0 h [a1_0] ∧ Arv Z h a1_0 kc_a1_0 .byte (24 : Int32) [(.int t_a1_0_0), (.int t_a1_0_1), (.int t_a1_0_2), (.int t_a1_0_3), (.int t_a1_0_4), (.int t_a1_0_5), (.int t_a1_0_6), (.int t_a1_0_7), (.int (nar .byte ((((q1_2.toUInt64 >>> ((56 : Int32) &&& 0x3f).toInt64.toUInt64).toInt64).toInt32).toInt8.toInt32))), (.int (nar .byte ((((q1_2.toUInt64 >>> ((48 : Int32) &&& 0x3f).toInt64.toUInt64).toInt64).toInt32).toInt8.toInt32))), (.int (nar .byte ((((q1_2.toUInt64 >>> ((40 : Int32) &&& 0x3f).toInt64.toUInt64).toInt64).toInt32).toInt8.toInt32))), (.int (nar .byte ((((q1_2.toUInt64 >>> ((32 : Int32) &&& 0x3f).toInt64.toUInt64).toInt64).toInt32).toInt8.toInt32))), (.int (nar .byte ((((q1_2.toUInt64 >>> ((24 : Int32) &&& 0x3f).toInt64.toUInt64).toInt64).toInt32).toInt8.toInt32))), (.int (nar .byte ((((q1_2.toUInt64 >>> ((16 : Int32) &&& 0x3f).toInt64.toUInt64).toInt64).toInt32).toInt8.toInt32))), (.int (nar .byte ((((q1_2.toUInt64 >>> ((8 : Int32) &&& 0x3f).toInt64.toUInt64).toInt64).toInt32).toInt8.toInt32))), (.int (nar .byte ((q1_2.toInt32).toInt8.toInt32))), (.int t_a1_0_16), (.int t_a1_0_17), (.int t_a1_0_18), (.int t_a1_0_19), (.int t_a1_0_20), (.int t_a1_0_21), (.int t_a1_0_22), (.int t_a1_0_23)] (.int (0 : Int32))
set_option maxRecDepth 65536 in
set_option maxHeartbeats 40000000 in
theorem rm1_2 (l : Launch) (Z : State) (a0 : Array Value) (hw : ∀ d ∈ tables_1, d.before a0 Z = true) (ws : List Jvm.Cond) (a1_0 : Addr) (q1_2 : Int64) (kc_a1_0 : ClassId) (t_a1_0_0 : Int32) (t_a1_0_1 : Int32) (t_a1_0_2 : Int32) (t_a1_0_3 : Int32) (t_a1_0_4 : Int32) (t_a1_0_5 : Int32) (t_a1_0_6 : Int32) (t_a1_0_7 : Int32) (t_a1_0_8 : Int32) (t_a1_0_9 : Int32) (t_a1_0_10 : Int32) (t_a1_0_11 : Int32) (t_a1_0_12 : Int32) (t_a1_0_13 : Int32) (t_a1_0_14 : Int32) (t_a1_0_15 : Int32) (t_a1_0_16 : Int32) (t_a1_0_17 : Int32) (t_a1_0_18 : Int32) (t_a1_0_19 : Int32) (t_a1_0_20 : Int32) (t_a1_0_21 : Int32) (t_a1_0_22 : Int32) (t_a1_0_23 : Int32) (h0 : Heap) (n0 : Nat) (Z0 : n0 ≤ h0.size) (V_a1_0 : Arv Z h0 a1_0 kc_a1_0 .byte (24 : Int32) [(.int t_a1_0_0), (.int t_a1_0_1), (.int t_a1_0_2), (.int t_a1_0_3), (.int t_a1_0_4), (.int t_a1_0_5), (.int t_a1_0_6), (.int t_a1_0_7), (.int t_a1_0_8), (.int t_a1_0_9), (.int t_a1_0_10), (.int t_a1_0_11), (.int t_a1_0_12), (.int t_a1_0_13), (.int t_a1_0_14), (.int t_a1_0_15), (.int t_a1_0_16), (.int t_a1_0_17), (.int t_a1_0_18), (.int t_a1_0_19), (.int t_a1_0_20), (.int t_a1_0_21), (.int t_a1_0_22), (.int t_a1_0_23)] (.int (0 : Int32))) (g_a1_0 : n0 ≤ a1_0) :
    MetFree l (⟨"com/example/telemetree/telemetree/storage/BitReaderReadPinLaw", "put", "([BIJ)V"⟩ : MethodName) (head1 (Jvm.Cond.code (⟨"com/example/telemetree/telemetree/storage/BitReaderReadPinLaw", "put", "([BIJ)V"⟩ : MethodName) method_3_code 4 none :: ws) ({ frames := 0, cells := 0, slots := 0, locals := 0 } : Room)) (fun a U => a = #[(.ref a1_0), (.int (8 : Int32)), (.long q1_2)] ∧ Z.Warmed39 U.vm ∧ U.heap = h0) (fun _ _ _ _ _ => True) (fun _ U o U' => ∃ v L, o = .returned v ∧ Q_rm1_2 Z a1_0 q1_2 kc_a1_0 t_a1_0_0 t_a1_0_1 t_a1_0_2 t_a1_0_3 t_a1_0_4 t_a1_0_5 t_a1_0_6 t_a1_0_7 t_a1_0_8 t_a1_0_9 t_a1_0_10 t_a1_0_11 t_a1_0_12 t_a1_0_13 t_a1_0_14 t_a1_0_15 t_a1_0_16 t_a1_0_17 t_a1_0_18 t_a1_0_19 t_a1_0_20 t_a1_0_21 t_a1_0_22 t_a1_0_23 h0 n0 v U'.heap L ∧ FrameEnd U o U' L ({ frames := 0, cells := 0, slots := 0, locals := 0 } : Room).cells ({ frames := 0, cells := 0, slots := 0, locals := 0 } : Room).slots) := by
  refine MetFree.of_bodySF (plainFor_of_name pn_1) hisR ?_
  intro p e s m args below meth c s₁ Bd hml0 hP hK
  obtain ⟨rfl, hZ, hh⟩ := hP
  have hx := Bd.exec
  have hby := Bd.bytes
  have hml : c.maxLocals = 4 := hml0
  have hown : s.vm.findClass "com/example/telemetree/telemetree/storage/BitReaderReadPinLaw" = some m.cls := findClass_of_methodNamed Bd.named
  have hnm := (name_of_methodNamed Bd.named Bd.method).1
  have X0 : Stand p l e ({ frames := 0, cells := 0, slots := 0, locals := 0 } : Room) s m #[(.ref a1_0), (.int (8 : Int32)), (.long q1_2)] below meth c s₁ [] 0 0 := Stand.of_body Bd
  have e0 : s₁.heap = h0 := by rw [← hh, Bd.state]; rfl
  have N0 := Fr.nil n0
  have pre0 : ∀ t, Steps p.tables e below (s₁.setTop (mkF m 0 #[.val (.ref a1_0), .val (.int (8 : Int32)), .val (.long q1_2), .second] [])) t → Steps p.tables e below (s₁.setTop (entryFrame m #[(.ref a1_0), (.int (8 : Int32)), (.long q1_2)] 4)) t := fun t k => castTop (ef_rm1_2 m a1_0 q1_2) k
  obtain ⟨cl1, Ar1, qk1, Sz1, Nz1, Hh1, Gf1⟩ := id V_a1_0
  obtain ⟨T2, h2, X2, e2, W2, st2⟩ := stB X0 hx hZ e0 Ar1 (j := (8 : Int32)) (inb_of Sz1 ⟨by decide, by decide⟩) (g := (mkF m 8 #[.val (.ref a1_0), .val (.int (8 : Int32)), .val (.long q1_2), .second] [(.int ((((q1_2.toUInt64 >>> ((56 : Int32) &&& 0x3f).toInt64.toUInt64).toInt64).toInt32).toInt8.toInt32)), (.int (8 : Int32)), (.ref a1_0)])) rfl rfl (hb hby d1_8)
  have V2 : Arv Z h2 a1_0 kc_a1_0 .byte (24 : Int32) [(.int t_a1_0_0), (.int t_a1_0_1), (.int t_a1_0_2), (.int t_a1_0_3), (.int t_a1_0_4), (.int t_a1_0_5), (.int t_a1_0_6), (.int t_a1_0_7), (.int (nar .byte ((((q1_2.toUInt64 >>> ((56 : Int32) &&& 0x3f).toInt64.toUInt64).toInt64).toInt32).toInt8.toInt32))), (.int t_a1_0_9), (.int t_a1_0_10), (.int t_a1_0_11), (.int t_a1_0_12), (.int t_a1_0_13), (.int t_a1_0_14), (.int t_a1_0_15), (.int t_a1_0_16), (.int t_a1_0_17), (.int t_a1_0_18), (.int t_a1_0_19), (.int t_a1_0_20), (.int t_a1_0_21), (.int t_a1_0_22), (.int t_a1_0_23)] (.int (0 : Int32)) := Arv.set Ar1 qk1 Sz1 Nz1 Hh1 Gf1 (fits_nar_byte _) W2 8 rfl (Nat.le_of_ble_eq_true rfl)
  have K2 : Keep h0 h2 [a1_0] := (Keep.refl h0 [a1_0]).wr W2 (Or.inl (List.mem_of_getElem? (i := 0) rfl))
  have Z2 : n0 ≤ h2.size := Nat.le_trans Z0 K2.1
  have N2 := Fr.snoc X2 N0 g_a1_0
  obtain ⟨cl3, Ar3, qk3, Sz3, Nz3, Hh3, Gf3⟩ := id V2
  obtain ⟨T4, h4, X4, e4, W4, st4⟩ := stB X2 hx hZ e2 Ar3 (j := (9 : Int32)) (inb_of Sz3 ⟨by decide, by decide⟩) (g := (mkF m 19 #[.val (.ref a1_0), .val (.int (8 : Int32)), .val (.long q1_2), .second] [(.int ((((q1_2.toUInt64 >>> ((48 : Int32) &&& 0x3f).toInt64.toUInt64).toInt64).toInt32).toInt8.toInt32)), (.int (9 : Int32)), (.ref a1_0)])) rfl rfl (hb hby d1_19)
  have V4 : Arv Z h4 a1_0 kc_a1_0 .byte (24 : Int32) [(.int t_a1_0_0), (.int t_a1_0_1), (.int t_a1_0_2), (.int t_a1_0_3), (.int t_a1_0_4), (.int t_a1_0_5), (.int t_a1_0_6), (.int t_a1_0_7), (.int (nar .byte ((((q1_2.toUInt64 >>> ((56 : Int32) &&& 0x3f).toInt64.toUInt64).toInt64).toInt32).toInt8.toInt32))), (.int (nar .byte ((((q1_2.toUInt64 >>> ((48 : Int32) &&& 0x3f).toInt64.toUInt64).toInt64).toInt32).toInt8.toInt32))), (.int t_a1_0_10), (.int t_a1_0_11), (.int t_a1_0_12), (.int t_a1_0_13), (.int t_a1_0_14), (.int t_a1_0_15), (.int t_a1_0_16), (.int t_a1_0_17), (.int t_a1_0_18), (.int t_a1_0_19), (.int t_a1_0_20), (.int t_a1_0_21), (.int t_a1_0_22), (.int t_a1_0_23)] (.int (0 : Int32)) := Arv.set Ar3 qk3 Sz3 Nz3 Hh3 Gf3 (fits_nar_byte _) W4 9 rfl (Nat.le_of_ble_eq_true rfl)
  have K4 : Keep h0 h4 [a1_0] := K2.wr W4 (Or.inl (List.mem_of_getElem? (i := 0) rfl))
  have Z4 : n0 ≤ h4.size := Nat.le_trans Z0 K4.1
  have N4 := Fr.snoc X4 N2 g_a1_0
  obtain ⟨cl5, Ar5, qk5, Sz5, Nz5, Hh5, Gf5⟩ := id V4
  obtain ⟨T6, h6, X6, e6, W6, st6⟩ := stB X4 hx hZ e4 Ar5 (j := (10 : Int32)) (inb_of Sz5 ⟨by decide, by decide⟩) (g := (mkF m 30 #[.val (.ref a1_0), .val (.int (8 : Int32)), .val (.long q1_2), .second] [(.int ((((q1_2.toUInt64 >>> ((40 : Int32) &&& 0x3f).toInt64.toUInt64).toInt64).toInt32).toInt8.toInt32)), (.int (10 : Int32)), (.ref a1_0)])) rfl rfl (hb hby d1_30)
  have V6 : Arv Z h6 a1_0 kc_a1_0 .byte (24 : Int32) [(.int t_a1_0_0), (.int t_a1_0_1), (.int t_a1_0_2), (.int t_a1_0_3), (.int t_a1_0_4), (.int t_a1_0_5), (.int t_a1_0_6), (.int t_a1_0_7), (.int (nar .byte ((((q1_2.toUInt64 >>> ((56 : Int32) &&& 0x3f).toInt64.toUInt64).toInt64).toInt32).toInt8.toInt32))), (.int (nar .byte ((((q1_2.toUInt64 >>> ((48 : Int32) &&& 0x3f).toInt64.toUInt64).toInt64).toInt32).toInt8.toInt32))), (.int (nar .byte ((((q1_2.toUInt64 >>> ((40 : Int32) &&& 0x3f).toInt64.toUInt64).toInt64).toInt32).toInt8.toInt32))), (.int t_a1_0_11), (.int t_a1_0_12), (.int t_a1_0_13), (.int t_a1_0_14), (.int t_a1_0_15), (.int t_a1_0_16), (.int t_a1_0_17), (.int t_a1_0_18), (.int t_a1_0_19), (.int t_a1_0_20), (.int t_a1_0_21), (.int t_a1_0_22), (.int t_a1_0_23)] (.int (0 : Int32)) := Arv.set Ar5 qk5 Sz5 Nz5 Hh5 Gf5 (fits_nar_byte _) W6 10 rfl (Nat.le_of_ble_eq_true rfl)
  have K6 : Keep h0 h6 [a1_0] := K4.wr W6 (Or.inl (List.mem_of_getElem? (i := 0) rfl))
  have Z6 : n0 ≤ h6.size := Nat.le_trans Z0 K6.1
  have N6 := Fr.snoc X6 N4 g_a1_0
  obtain ⟨cl7, Ar7, qk7, Sz7, Nz7, Hh7, Gf7⟩ := id V6
  obtain ⟨T8, h8, X8, e8, W8, st8⟩ := stB X6 hx hZ e6 Ar7 (j := (11 : Int32)) (inb_of Sz7 ⟨by decide, by decide⟩) (g := (mkF m 41 #[.val (.ref a1_0), .val (.int (8 : Int32)), .val (.long q1_2), .second] [(.int ((((q1_2.toUInt64 >>> ((32 : Int32) &&& 0x3f).toInt64.toUInt64).toInt64).toInt32).toInt8.toInt32)), (.int (11 : Int32)), (.ref a1_0)])) rfl rfl (hb hby d1_41)
  have V8 : Arv Z h8 a1_0 kc_a1_0 .byte (24 : Int32) [(.int t_a1_0_0), (.int t_a1_0_1), (.int t_a1_0_2), (.int t_a1_0_3), (.int t_a1_0_4), (.int t_a1_0_5), (.int t_a1_0_6), (.int t_a1_0_7), (.int (nar .byte ((((q1_2.toUInt64 >>> ((56 : Int32) &&& 0x3f).toInt64.toUInt64).toInt64).toInt32).toInt8.toInt32))), (.int (nar .byte ((((q1_2.toUInt64 >>> ((48 : Int32) &&& 0x3f).toInt64.toUInt64).toInt64).toInt32).toInt8.toInt32))), (.int (nar .byte ((((q1_2.toUInt64 >>> ((40 : Int32) &&& 0x3f).toInt64.toUInt64).toInt64).toInt32).toInt8.toInt32))), (.int (nar .byte ((((q1_2.toUInt64 >>> ((32 : Int32) &&& 0x3f).toInt64.toUInt64).toInt64).toInt32).toInt8.toInt32))), (.int t_a1_0_12), (.int t_a1_0_13), (.int t_a1_0_14), (.int t_a1_0_15), (.int t_a1_0_16), (.int t_a1_0_17), (.int t_a1_0_18), (.int t_a1_0_19), (.int t_a1_0_20), (.int t_a1_0_21), (.int t_a1_0_22), (.int t_a1_0_23)] (.int (0 : Int32)) := Arv.set Ar7 qk7 Sz7 Nz7 Hh7 Gf7 (fits_nar_byte _) W8 11 rfl (Nat.le_of_ble_eq_true rfl)
  have K8 : Keep h0 h8 [a1_0] := K6.wr W8 (Or.inl (List.mem_of_getElem? (i := 0) rfl))
  have Z8 : n0 ≤ h8.size := Nat.le_trans Z0 K8.1
  have N8 := Fr.snoc X8 N6 g_a1_0
  obtain ⟨cl9, Ar9, qk9, Sz9, Nz9, Hh9, Gf9⟩ := id V8
  obtain ⟨T10, h10, X10, e10, W10, st10⟩ := stB X8 hx hZ e8 Ar9 (j := (12 : Int32)) (inb_of Sz9 ⟨by decide, by decide⟩) (g := (mkF m 52 #[.val (.ref a1_0), .val (.int (8 : Int32)), .val (.long q1_2), .second] [(.int ((((q1_2.toUInt64 >>> ((24 : Int32) &&& 0x3f).toInt64.toUInt64).toInt64).toInt32).toInt8.toInt32)), (.int (12 : Int32)), (.ref a1_0)])) rfl rfl (hb hby d1_52)
  have V10 : Arv Z h10 a1_0 kc_a1_0 .byte (24 : Int32) [(.int t_a1_0_0), (.int t_a1_0_1), (.int t_a1_0_2), (.int t_a1_0_3), (.int t_a1_0_4), (.int t_a1_0_5), (.int t_a1_0_6), (.int t_a1_0_7), (.int (nar .byte ((((q1_2.toUInt64 >>> ((56 : Int32) &&& 0x3f).toInt64.toUInt64).toInt64).toInt32).toInt8.toInt32))), (.int (nar .byte ((((q1_2.toUInt64 >>> ((48 : Int32) &&& 0x3f).toInt64.toUInt64).toInt64).toInt32).toInt8.toInt32))), (.int (nar .byte ((((q1_2.toUInt64 >>> ((40 : Int32) &&& 0x3f).toInt64.toUInt64).toInt64).toInt32).toInt8.toInt32))), (.int (nar .byte ((((q1_2.toUInt64 >>> ((32 : Int32) &&& 0x3f).toInt64.toUInt64).toInt64).toInt32).toInt8.toInt32))), (.int (nar .byte ((((q1_2.toUInt64 >>> ((24 : Int32) &&& 0x3f).toInt64.toUInt64).toInt64).toInt32).toInt8.toInt32))), (.int t_a1_0_13), (.int t_a1_0_14), (.int t_a1_0_15), (.int t_a1_0_16), (.int t_a1_0_17), (.int t_a1_0_18), (.int t_a1_0_19), (.int t_a1_0_20), (.int t_a1_0_21), (.int t_a1_0_22), (.int t_a1_0_23)] (.int (0 : Int32)) := Arv.set Ar9 qk9 Sz9 Nz9 Hh9 Gf9 (fits_nar_byte _) W10 12 rfl (Nat.le_of_ble_eq_true rfl)
  have K10 : Keep h0 h10 [a1_0] := K8.wr W10 (Or.inl (List.mem_of_getElem? (i := 0) rfl))
  have Z10 : n0 ≤ h10.size := Nat.le_trans Z0 K10.1
  have N10 := Fr.snoc X10 N8 g_a1_0
  obtain ⟨cl11, Ar11, qk11, Sz11, Nz11, Hh11, Gf11⟩ := id V10
  obtain ⟨T12, h12, X12, e12, W12, st12⟩ := stB X10 hx hZ e10 Ar11 (j := (13 : Int32)) (inb_of Sz11 ⟨by decide, by decide⟩) (g := (mkF m 63 #[.val (.ref a1_0), .val (.int (8 : Int32)), .val (.long q1_2), .second] [(.int ((((q1_2.toUInt64 >>> ((16 : Int32) &&& 0x3f).toInt64.toUInt64).toInt64).toInt32).toInt8.toInt32)), (.int (13 : Int32)), (.ref a1_0)])) rfl rfl (hb hby d1_63)
  have V12 : Arv Z h12 a1_0 kc_a1_0 .byte (24 : Int32) [(.int t_a1_0_0), (.int t_a1_0_1), (.int t_a1_0_2), (.int t_a1_0_3), (.int t_a1_0_4), (.int t_a1_0_5), (.int t_a1_0_6), (.int t_a1_0_7), (.int (nar .byte ((((q1_2.toUInt64 >>> ((56 : Int32) &&& 0x3f).toInt64.toUInt64).toInt64).toInt32).toInt8.toInt32))), (.int (nar .byte ((((q1_2.toUInt64 >>> ((48 : Int32) &&& 0x3f).toInt64.toUInt64).toInt64).toInt32).toInt8.toInt32))), (.int (nar .byte ((((q1_2.toUInt64 >>> ((40 : Int32) &&& 0x3f).toInt64.toUInt64).toInt64).toInt32).toInt8.toInt32))), (.int (nar .byte ((((q1_2.toUInt64 >>> ((32 : Int32) &&& 0x3f).toInt64.toUInt64).toInt64).toInt32).toInt8.toInt32))), (.int (nar .byte ((((q1_2.toUInt64 >>> ((24 : Int32) &&& 0x3f).toInt64.toUInt64).toInt64).toInt32).toInt8.toInt32))), (.int (nar .byte ((((q1_2.toUInt64 >>> ((16 : Int32) &&& 0x3f).toInt64.toUInt64).toInt64).toInt32).toInt8.toInt32))), (.int t_a1_0_14), (.int t_a1_0_15), (.int t_a1_0_16), (.int t_a1_0_17), (.int t_a1_0_18), (.int t_a1_0_19), (.int t_a1_0_20), (.int t_a1_0_21), (.int t_a1_0_22), (.int t_a1_0_23)] (.int (0 : Int32)) := Arv.set Ar11 qk11 Sz11 Nz11 Hh11 Gf11 (fits_nar_byte _) W12 13 rfl (Nat.le_of_ble_eq_true rfl)
  have K12 : Keep h0 h12 [a1_0] := K10.wr W12 (Or.inl (List.mem_of_getElem? (i := 0) rfl))
  have Z12 : n0 ≤ h12.size := Nat.le_trans Z0 K12.1
  have N12 := Fr.snoc X12 N10 g_a1_0
  obtain ⟨cl13, Ar13, qk13, Sz13, Nz13, Hh13, Gf13⟩ := id V12
  obtain ⟨T14, h14, X14, e14, W14, st14⟩ := stB X12 hx hZ e12 Ar13 (j := (14 : Int32)) (inb_of Sz13 ⟨by decide, by decide⟩) (g := (mkF m 75 #[.val (.ref a1_0), .val (.int (8 : Int32)), .val (.long q1_2), .second] [(.int ((((q1_2.toUInt64 >>> ((8 : Int32) &&& 0x3f).toInt64.toUInt64).toInt64).toInt32).toInt8.toInt32)), (.int (14 : Int32)), (.ref a1_0)])) rfl rfl (hb hby d1_75)
  have V14 : Arv Z h14 a1_0 kc_a1_0 .byte (24 : Int32) [(.int t_a1_0_0), (.int t_a1_0_1), (.int t_a1_0_2), (.int t_a1_0_3), (.int t_a1_0_4), (.int t_a1_0_5), (.int t_a1_0_6), (.int t_a1_0_7), (.int (nar .byte ((((q1_2.toUInt64 >>> ((56 : Int32) &&& 0x3f).toInt64.toUInt64).toInt64).toInt32).toInt8.toInt32))), (.int (nar .byte ((((q1_2.toUInt64 >>> ((48 : Int32) &&& 0x3f).toInt64.toUInt64).toInt64).toInt32).toInt8.toInt32))), (.int (nar .byte ((((q1_2.toUInt64 >>> ((40 : Int32) &&& 0x3f).toInt64.toUInt64).toInt64).toInt32).toInt8.toInt32))), (.int (nar .byte ((((q1_2.toUInt64 >>> ((32 : Int32) &&& 0x3f).toInt64.toUInt64).toInt64).toInt32).toInt8.toInt32))), (.int (nar .byte ((((q1_2.toUInt64 >>> ((24 : Int32) &&& 0x3f).toInt64.toUInt64).toInt64).toInt32).toInt8.toInt32))), (.int (nar .byte ((((q1_2.toUInt64 >>> ((16 : Int32) &&& 0x3f).toInt64.toUInt64).toInt64).toInt32).toInt8.toInt32))), (.int (nar .byte ((((q1_2.toUInt64 >>> ((8 : Int32) &&& 0x3f).toInt64.toUInt64).toInt64).toInt32).toInt8.toInt32))), (.int t_a1_0_15), (.int t_a1_0_16), (.int t_a1_0_17), (.int t_a1_0_18), (.int t_a1_0_19), (.int t_a1_0_20), (.int t_a1_0_21), (.int t_a1_0_22), (.int t_a1_0_23)] (.int (0 : Int32)) := Arv.set Ar13 qk13 Sz13 Nz13 Hh13 Gf13 (fits_nar_byte _) W14 14 rfl (Nat.le_of_ble_eq_true rfl)
  have K14 : Keep h0 h14 [a1_0] := K12.wr W14 (Or.inl (List.mem_of_getElem? (i := 0) rfl))
  have Z14 : n0 ≤ h14.size := Nat.le_trans Z0 K14.1
  have N14 := Fr.snoc X14 N12 g_a1_0
  obtain ⟨cl15, Ar15, qk15, Sz15, Nz15, Hh15, Gf15⟩ := id V14
  obtain ⟨T16, h16, X16, e16, W16, st16⟩ := stB X14 hx hZ e14 Ar15 (j := (15 : Int32)) (inb_of Sz15 ⟨by decide, by decide⟩) (g := (mkF m 84 #[.val (.ref a1_0), .val (.int (8 : Int32)), .val (.long q1_2), .second] [(.int ((q1_2.toInt32).toInt8.toInt32)), (.int (15 : Int32)), (.ref a1_0)])) rfl rfl (hb hby d1_84)
  have V16 : Arv Z h16 a1_0 kc_a1_0 .byte (24 : Int32) [(.int t_a1_0_0), (.int t_a1_0_1), (.int t_a1_0_2), (.int t_a1_0_3), (.int t_a1_0_4), (.int t_a1_0_5), (.int t_a1_0_6), (.int t_a1_0_7), (.int (nar .byte ((((q1_2.toUInt64 >>> ((56 : Int32) &&& 0x3f).toInt64.toUInt64).toInt64).toInt32).toInt8.toInt32))), (.int (nar .byte ((((q1_2.toUInt64 >>> ((48 : Int32) &&& 0x3f).toInt64.toUInt64).toInt64).toInt32).toInt8.toInt32))), (.int (nar .byte ((((q1_2.toUInt64 >>> ((40 : Int32) &&& 0x3f).toInt64.toUInt64).toInt64).toInt32).toInt8.toInt32))), (.int (nar .byte ((((q1_2.toUInt64 >>> ((32 : Int32) &&& 0x3f).toInt64.toUInt64).toInt64).toInt32).toInt8.toInt32))), (.int (nar .byte ((((q1_2.toUInt64 >>> ((24 : Int32) &&& 0x3f).toInt64.toUInt64).toInt64).toInt32).toInt8.toInt32))), (.int (nar .byte ((((q1_2.toUInt64 >>> ((16 : Int32) &&& 0x3f).toInt64.toUInt64).toInt64).toInt32).toInt8.toInt32))), (.int (nar .byte ((((q1_2.toUInt64 >>> ((8 : Int32) &&& 0x3f).toInt64.toUInt64).toInt64).toInt32).toInt8.toInt32))), (.int (nar .byte ((q1_2.toInt32).toInt8.toInt32))), (.int t_a1_0_16), (.int t_a1_0_17), (.int t_a1_0_18), (.int t_a1_0_19), (.int t_a1_0_20), (.int t_a1_0_21), (.int t_a1_0_22), (.int t_a1_0_23)] (.int (0 : Int32)) := Arv.set Ar15 qk15 Sz15 Nz15 Hh15 Gf15 (fits_nar_byte _) W16 15 rfl (Nat.le_of_ble_eq_true rfl)
  have K16 : Keep h0 h16 [a1_0] := K14.wr W16 (Or.inl (List.mem_of_getElem? (i := 0) rfl))
  have Z16 : n0 ≤ h16.size := Nat.le_trans Z0 K16.1
  have N16 := Fr.snoc X16 N14 g_a1_0
  obtain ⟨fs, hr, hrun, hended, hW, hsame⟩ := X16.leave (v := none) (fun _ => rfl)
  refine ⟨_, _, pre0 _ ?_, hrun, hended, _, _, rfl, ?_, ⟨_, rfl⟩, hW, hsame.mono (by decide) (by decide)⟩
  · show Steps p.tables e below (s₁.setTop (mkF m 0 #[.val (.ref a1_0), .val (.int (8 : Int32)), .val (.long q1_2), .second] [])) _
    refine XS.aloadN X0.here hx rfl (hb hby d1_0) rfl rfl ?_
    show Steps p.tables e below (s₁.setTop (mkF m 1 #[.val (.ref a1_0), .val (.int (8 : Int32)), .val (.long q1_2), .second] [(.ref a1_0)])) _
    refine XS.iloadN X0.here hx rfl (hb hby d1_1) rfl ?_
    show Steps p.tables e below (s₁.setTop (mkF m 2 #[.val (.ref a1_0), .val (.int (8 : Int32)), .val (.long q1_2), .second] [(.int (8 : Int32)), (.ref a1_0)])) _
    refine XS.lloadN X0.here hx rfl (hb hby d1_2) rfl ?_
    show Steps p.tables e below (s₁.setTop (mkF m 3 #[.val (.ref a1_0), .val (.int (8 : Int32)), .val (.long q1_2), .second] [(.long q1_2), (.int (8 : Int32)), (.ref a1_0)])) _
    refine XS.bipush X0.here hx rfl (hb hby d1_3) ?_
    show Steps p.tables e below (s₁.setTop (mkF m 5 #[.val (.ref a1_0), .val (.int (8 : Int32)), .val (.long q1_2), .second] [(.int (56 : Int32)), (.long q1_2), (.int (8 : Int32)), (.ref a1_0)])) _
    refine XS.lushr X0.here hx rfl (hb hby d1_5) rfl ?_
    show Steps p.tables e below (s₁.setTop (mkF m 6 #[.val (.ref a1_0), .val (.int (8 : Int32)), .val (.long q1_2), .second] [(.long ((q1_2.toUInt64 >>> ((56 : Int32) &&& 0x3f).toInt64.toUInt64).toInt64)), (.int (8 : Int32)), (.ref a1_0)])) _
    refine XS.l2i X0.here hx rfl (hb hby d1_6) rfl ?_
    show Steps p.tables e below (s₁.setTop (mkF m 7 #[.val (.ref a1_0), .val (.int (8 : Int32)), .val (.long q1_2), .second] [(.int (((q1_2.toUInt64 >>> ((56 : Int32) &&& 0x3f).toInt64.toUInt64).toInt64).toInt32)), (.int (8 : Int32)), (.ref a1_0)])) _
    refine XS.i2b X0.here hx rfl (hb hby d1_7) rfl ?_
    show Steps p.tables e below (s₁.setTop (mkF m 8 #[.val (.ref a1_0), .val (.int (8 : Int32)), .val (.long q1_2), .second] [(.int ((((q1_2.toUInt64 >>> ((56 : Int32) &&& 0x3f).toInt64.toUInt64).toInt64).toInt32).toInt8.toInt32)), (.int (8 : Int32)), (.ref a1_0)])) _
    refine st2 _ ?_
    show Steps p.tables e below (T2.setTop (mkF m 9 #[.val (.ref a1_0), .val (.int (8 : Int32)), .val (.long q1_2), .second] [])) _
    refine XS.aloadN X2.here hx rfl (hb hby d1_9) rfl rfl ?_
    show Steps p.tables e below (T2.setTop (mkF m 10 #[.val (.ref a1_0), .val (.int (8 : Int32)), .val (.long q1_2), .second] [(.ref a1_0)])) _
    refine XS.iloadN X2.here hx rfl (hb hby d1_10) rfl ?_
    show Steps p.tables e below (T2.setTop (mkF m 11 #[.val (.ref a1_0), .val (.int (8 : Int32)), .val (.long q1_2), .second] [(.int (8 : Int32)), (.ref a1_0)])) _
    refine XS.iconst X2.here hx rfl (hb hby d1_11) ?_
    show Steps p.tables e below (T2.setTop (mkF m 12 #[.val (.ref a1_0), .val (.int (8 : Int32)), .val (.long q1_2), .second] [(.int (1 : Int32)), (.int (8 : Int32)), (.ref a1_0)])) _
    refine XS.iadd X2.here hx rfl (hb hby d1_12) rfl ?_
    show Steps p.tables e below (T2.setTop (mkF m 13 #[.val (.ref a1_0), .val (.int (8 : Int32)), .val (.long q1_2), .second] [(.int (9 : Int32)), (.ref a1_0)])) _
    refine XS.lloadN X2.here hx rfl (hb hby d1_13) rfl ?_
    show Steps p.tables e below (T2.setTop (mkF m 14 #[.val (.ref a1_0), .val (.int (8 : Int32)), .val (.long q1_2), .second] [(.long q1_2), (.int (9 : Int32)), (.ref a1_0)])) _
    refine XS.bipush X2.here hx rfl (hb hby d1_14) ?_
    show Steps p.tables e below (T2.setTop (mkF m 16 #[.val (.ref a1_0), .val (.int (8 : Int32)), .val (.long q1_2), .second] [(.int (48 : Int32)), (.long q1_2), (.int (9 : Int32)), (.ref a1_0)])) _
    refine XS.lushr X2.here hx rfl (hb hby d1_16) rfl ?_
    show Steps p.tables e below (T2.setTop (mkF m 17 #[.val (.ref a1_0), .val (.int (8 : Int32)), .val (.long q1_2), .second] [(.long ((q1_2.toUInt64 >>> ((48 : Int32) &&& 0x3f).toInt64.toUInt64).toInt64)), (.int (9 : Int32)), (.ref a1_0)])) _
    refine XS.l2i X2.here hx rfl (hb hby d1_17) rfl ?_
    show Steps p.tables e below (T2.setTop (mkF m 18 #[.val (.ref a1_0), .val (.int (8 : Int32)), .val (.long q1_2), .second] [(.int (((q1_2.toUInt64 >>> ((48 : Int32) &&& 0x3f).toInt64.toUInt64).toInt64).toInt32)), (.int (9 : Int32)), (.ref a1_0)])) _
    refine XS.i2b X2.here hx rfl (hb hby d1_18) rfl ?_
    show Steps p.tables e below (T2.setTop (mkF m 19 #[.val (.ref a1_0), .val (.int (8 : Int32)), .val (.long q1_2), .second] [(.int ((((q1_2.toUInt64 >>> ((48 : Int32) &&& 0x3f).toInt64.toUInt64).toInt64).toInt32).toInt8.toInt32)), (.int (9 : Int32)), (.ref a1_0)])) _
    refine st4 _ ?_
    show Steps p.tables e below (T4.setTop (mkF m 20 #[.val (.ref a1_0), .val (.int (8 : Int32)), .val (.long q1_2), .second] [])) _
    refine XS.aloadN X4.here hx rfl (hb hby d1_20) rfl rfl ?_
    show Steps p.tables e below (T4.setTop (mkF m 21 #[.val (.ref a1_0), .val (.int (8 : Int32)), .val (.long q1_2), .second] [(.ref a1_0)])) _
    refine XS.iloadN X4.here hx rfl (hb hby d1_21) rfl ?_
    show Steps p.tables e below (T4.setTop (mkF m 22 #[.val (.ref a1_0), .val (.int (8 : Int32)), .val (.long q1_2), .second] [(.int (8 : Int32)), (.ref a1_0)])) _
    refine XS.iconst X4.here hx rfl (hb hby d1_22) ?_
    show Steps p.tables e below (T4.setTop (mkF m 23 #[.val (.ref a1_0), .val (.int (8 : Int32)), .val (.long q1_2), .second] [(.int (2 : Int32)), (.int (8 : Int32)), (.ref a1_0)])) _
    refine XS.iadd X4.here hx rfl (hb hby d1_23) rfl ?_
    show Steps p.tables e below (T4.setTop (mkF m 24 #[.val (.ref a1_0), .val (.int (8 : Int32)), .val (.long q1_2), .second] [(.int (10 : Int32)), (.ref a1_0)])) _
    refine XS.lloadN X4.here hx rfl (hb hby d1_24) rfl ?_
    show Steps p.tables e below (T4.setTop (mkF m 25 #[.val (.ref a1_0), .val (.int (8 : Int32)), .val (.long q1_2), .second] [(.long q1_2), (.int (10 : Int32)), (.ref a1_0)])) _
    refine XS.bipush X4.here hx rfl (hb hby d1_25) ?_
    show Steps p.tables e below (T4.setTop (mkF m 27 #[.val (.ref a1_0), .val (.int (8 : Int32)), .val (.long q1_2), .second] [(.int (40 : Int32)), (.long q1_2), (.int (10 : Int32)), (.ref a1_0)])) _
    refine XS.lushr X4.here hx rfl (hb hby d1_27) rfl ?_
    show Steps p.tables e below (T4.setTop (mkF m 28 #[.val (.ref a1_0), .val (.int (8 : Int32)), .val (.long q1_2), .second] [(.long ((q1_2.toUInt64 >>> ((40 : Int32) &&& 0x3f).toInt64.toUInt64).toInt64)), (.int (10 : Int32)), (.ref a1_0)])) _
    refine XS.l2i X4.here hx rfl (hb hby d1_28) rfl ?_
    show Steps p.tables e below (T4.setTop (mkF m 29 #[.val (.ref a1_0), .val (.int (8 : Int32)), .val (.long q1_2), .second] [(.int (((q1_2.toUInt64 >>> ((40 : Int32) &&& 0x3f).toInt64.toUInt64).toInt64).toInt32)), (.int (10 : Int32)), (.ref a1_0)])) _
    refine XS.i2b X4.here hx rfl (hb hby d1_29) rfl ?_
    show Steps p.tables e below (T4.setTop (mkF m 30 #[.val (.ref a1_0), .val (.int (8 : Int32)), .val (.long q1_2), .second] [(.int ((((q1_2.toUInt64 >>> ((40 : Int32) &&& 0x3f).toInt64.toUInt64).toInt64).toInt32).toInt8.toInt32)), (.int (10 : Int32)), (.ref a1_0)])) _
    refine st6 _ ?_
    show Steps p.tables e below (T6.setTop (mkF m 31 #[.val (.ref a1_0), .val (.int (8 : Int32)), .val (.long q1_2), .second] [])) _
    refine XS.aloadN X6.here hx rfl (hb hby d1_31) rfl rfl ?_
    show Steps p.tables e below (T6.setTop (mkF m 32 #[.val (.ref a1_0), .val (.int (8 : Int32)), .val (.long q1_2), .second] [(.ref a1_0)])) _
    refine XS.iloadN X6.here hx rfl (hb hby d1_32) rfl ?_
    show Steps p.tables e below (T6.setTop (mkF m 33 #[.val (.ref a1_0), .val (.int (8 : Int32)), .val (.long q1_2), .second] [(.int (8 : Int32)), (.ref a1_0)])) _
    refine XS.iconst X6.here hx rfl (hb hby d1_33) ?_
    show Steps p.tables e below (T6.setTop (mkF m 34 #[.val (.ref a1_0), .val (.int (8 : Int32)), .val (.long q1_2), .second] [(.int (3 : Int32)), (.int (8 : Int32)), (.ref a1_0)])) _
    refine XS.iadd X6.here hx rfl (hb hby d1_34) rfl ?_
    show Steps p.tables e below (T6.setTop (mkF m 35 #[.val (.ref a1_0), .val (.int (8 : Int32)), .val (.long q1_2), .second] [(.int (11 : Int32)), (.ref a1_0)])) _
    refine XS.lloadN X6.here hx rfl (hb hby d1_35) rfl ?_
    show Steps p.tables e below (T6.setTop (mkF m 36 #[.val (.ref a1_0), .val (.int (8 : Int32)), .val (.long q1_2), .second] [(.long q1_2), (.int (11 : Int32)), (.ref a1_0)])) _
    refine XS.bipush X6.here hx rfl (hb hby d1_36) ?_
    show Steps p.tables e below (T6.setTop (mkF m 38 #[.val (.ref a1_0), .val (.int (8 : Int32)), .val (.long q1_2), .second] [(.int (32 : Int32)), (.long q1_2), (.int (11 : Int32)), (.ref a1_0)])) _
    refine XS.lushr X6.here hx rfl (hb hby d1_38) rfl ?_
    show Steps p.tables e below (T6.setTop (mkF m 39 #[.val (.ref a1_0), .val (.int (8 : Int32)), .val (.long q1_2), .second] [(.long ((q1_2.toUInt64 >>> ((32 : Int32) &&& 0x3f).toInt64.toUInt64).toInt64)), (.int (11 : Int32)), (.ref a1_0)])) _
    refine XS.l2i X6.here hx rfl (hb hby d1_39) rfl ?_
    show Steps p.tables e below (T6.setTop (mkF m 40 #[.val (.ref a1_0), .val (.int (8 : Int32)), .val (.long q1_2), .second] [(.int (((q1_2.toUInt64 >>> ((32 : Int32) &&& 0x3f).toInt64.toUInt64).toInt64).toInt32)), (.int (11 : Int32)), (.ref a1_0)])) _
    refine XS.i2b X6.here hx rfl (hb hby d1_40) rfl ?_
    show Steps p.tables e below (T6.setTop (mkF m 41 #[.val (.ref a1_0), .val (.int (8 : Int32)), .val (.long q1_2), .second] [(.int ((((q1_2.toUInt64 >>> ((32 : Int32) &&& 0x3f).toInt64.toUInt64).toInt64).toInt32).toInt8.toInt32)), (.int (11 : Int32)), (.ref a1_0)])) _
    refine st8 _ ?_
    show Steps p.tables e below (T8.setTop (mkF m 42 #[.val (.ref a1_0), .val (.int (8 : Int32)), .val (.long q1_2), .second] [])) _
    refine XS.aloadN X8.here hx rfl (hb hby d1_42) rfl rfl ?_
    show Steps p.tables e below (T8.setTop (mkF m 43 #[.val (.ref a1_0), .val (.int (8 : Int32)), .val (.long q1_2), .second] [(.ref a1_0)])) _
    refine XS.iloadN X8.here hx rfl (hb hby d1_43) rfl ?_
    show Steps p.tables e below (T8.setTop (mkF m 44 #[.val (.ref a1_0), .val (.int (8 : Int32)), .val (.long q1_2), .second] [(.int (8 : Int32)), (.ref a1_0)])) _
    refine XS.iconst X8.here hx rfl (hb hby d1_44) ?_
    show Steps p.tables e below (T8.setTop (mkF m 45 #[.val (.ref a1_0), .val (.int (8 : Int32)), .val (.long q1_2), .second] [(.int (4 : Int32)), (.int (8 : Int32)), (.ref a1_0)])) _
    refine XS.iadd X8.here hx rfl (hb hby d1_45) rfl ?_
    show Steps p.tables e below (T8.setTop (mkF m 46 #[.val (.ref a1_0), .val (.int (8 : Int32)), .val (.long q1_2), .second] [(.int (12 : Int32)), (.ref a1_0)])) _
    refine XS.lloadN X8.here hx rfl (hb hby d1_46) rfl ?_
    show Steps p.tables e below (T8.setTop (mkF m 47 #[.val (.ref a1_0), .val (.int (8 : Int32)), .val (.long q1_2), .second] [(.long q1_2), (.int (12 : Int32)), (.ref a1_0)])) _
    refine XS.bipush X8.here hx rfl (hb hby d1_47) ?_
    show Steps p.tables e below (T8.setTop (mkF m 49 #[.val (.ref a1_0), .val (.int (8 : Int32)), .val (.long q1_2), .second] [(.int (24 : Int32)), (.long q1_2), (.int (12 : Int32)), (.ref a1_0)])) _
    refine XS.lushr X8.here hx rfl (hb hby d1_49) rfl ?_
    show Steps p.tables e below (T8.setTop (mkF m 50 #[.val (.ref a1_0), .val (.int (8 : Int32)), .val (.long q1_2), .second] [(.long ((q1_2.toUInt64 >>> ((24 : Int32) &&& 0x3f).toInt64.toUInt64).toInt64)), (.int (12 : Int32)), (.ref a1_0)])) _
    refine XS.l2i X8.here hx rfl (hb hby d1_50) rfl ?_
    show Steps p.tables e below (T8.setTop (mkF m 51 #[.val (.ref a1_0), .val (.int (8 : Int32)), .val (.long q1_2), .second] [(.int (((q1_2.toUInt64 >>> ((24 : Int32) &&& 0x3f).toInt64.toUInt64).toInt64).toInt32)), (.int (12 : Int32)), (.ref a1_0)])) _
    refine XS.i2b X8.here hx rfl (hb hby d1_51) rfl ?_
    show Steps p.tables e below (T8.setTop (mkF m 52 #[.val (.ref a1_0), .val (.int (8 : Int32)), .val (.long q1_2), .second] [(.int ((((q1_2.toUInt64 >>> ((24 : Int32) &&& 0x3f).toInt64.toUInt64).toInt64).toInt32).toInt8.toInt32)), (.int (12 : Int32)), (.ref a1_0)])) _
    refine st10 _ ?_
    show Steps p.tables e below (T10.setTop (mkF m 53 #[.val (.ref a1_0), .val (.int (8 : Int32)), .val (.long q1_2), .second] [])) _
    refine XS.aloadN X10.here hx rfl (hb hby d1_53) rfl rfl ?_
    show Steps p.tables e below (T10.setTop (mkF m 54 #[.val (.ref a1_0), .val (.int (8 : Int32)), .val (.long q1_2), .second] [(.ref a1_0)])) _
    refine XS.iloadN X10.here hx rfl (hb hby d1_54) rfl ?_
    show Steps p.tables e below (T10.setTop (mkF m 55 #[.val (.ref a1_0), .val (.int (8 : Int32)), .val (.long q1_2), .second] [(.int (8 : Int32)), (.ref a1_0)])) _
    refine XS.iconst X10.here hx rfl (hb hby d1_55) ?_
    show Steps p.tables e below (T10.setTop (mkF m 56 #[.val (.ref a1_0), .val (.int (8 : Int32)), .val (.long q1_2), .second] [(.int (5 : Int32)), (.int (8 : Int32)), (.ref a1_0)])) _
    refine XS.iadd X10.here hx rfl (hb hby d1_56) rfl ?_
    show Steps p.tables e below (T10.setTop (mkF m 57 #[.val (.ref a1_0), .val (.int (8 : Int32)), .val (.long q1_2), .second] [(.int (13 : Int32)), (.ref a1_0)])) _
    refine XS.lloadN X10.here hx rfl (hb hby d1_57) rfl ?_
    show Steps p.tables e below (T10.setTop (mkF m 58 #[.val (.ref a1_0), .val (.int (8 : Int32)), .val (.long q1_2), .second] [(.long q1_2), (.int (13 : Int32)), (.ref a1_0)])) _
    refine XS.bipush X10.here hx rfl (hb hby d1_58) ?_
    show Steps p.tables e below (T10.setTop (mkF m 60 #[.val (.ref a1_0), .val (.int (8 : Int32)), .val (.long q1_2), .second] [(.int (16 : Int32)), (.long q1_2), (.int (13 : Int32)), (.ref a1_0)])) _
    refine XS.lushr X10.here hx rfl (hb hby d1_60) rfl ?_
    show Steps p.tables e below (T10.setTop (mkF m 61 #[.val (.ref a1_0), .val (.int (8 : Int32)), .val (.long q1_2), .second] [(.long ((q1_2.toUInt64 >>> ((16 : Int32) &&& 0x3f).toInt64.toUInt64).toInt64)), (.int (13 : Int32)), (.ref a1_0)])) _
    refine XS.l2i X10.here hx rfl (hb hby d1_61) rfl ?_
    show Steps p.tables e below (T10.setTop (mkF m 62 #[.val (.ref a1_0), .val (.int (8 : Int32)), .val (.long q1_2), .second] [(.int (((q1_2.toUInt64 >>> ((16 : Int32) &&& 0x3f).toInt64.toUInt64).toInt64).toInt32)), (.int (13 : Int32)), (.ref a1_0)])) _
    refine XS.i2b X10.here hx rfl (hb hby d1_62) rfl ?_
    show Steps p.tables e below (T10.setTop (mkF m 63 #[.val (.ref a1_0), .val (.int (8 : Int32)), .val (.long q1_2), .second] [(.int ((((q1_2.toUInt64 >>> ((16 : Int32) &&& 0x3f).toInt64.toUInt64).toInt64).toInt32).toInt8.toInt32)), (.int (13 : Int32)), (.ref a1_0)])) _
    refine st12 _ ?_
    show Steps p.tables e below (T12.setTop (mkF m 64 #[.val (.ref a1_0), .val (.int (8 : Int32)), .val (.long q1_2), .second] [])) _
    refine XS.aloadN X12.here hx rfl (hb hby d1_64) rfl rfl ?_
    show Steps p.tables e below (T12.setTop (mkF m 65 #[.val (.ref a1_0), .val (.int (8 : Int32)), .val (.long q1_2), .second] [(.ref a1_0)])) _
    refine XS.iloadN X12.here hx rfl (hb hby d1_65) rfl ?_
    show Steps p.tables e below (T12.setTop (mkF m 66 #[.val (.ref a1_0), .val (.int (8 : Int32)), .val (.long q1_2), .second] [(.int (8 : Int32)), (.ref a1_0)])) _
    refine XS.bipush X12.here hx rfl (hb hby d1_66) ?_
    show Steps p.tables e below (T12.setTop (mkF m 68 #[.val (.ref a1_0), .val (.int (8 : Int32)), .val (.long q1_2), .second] [(.int (6 : Int32)), (.int (8 : Int32)), (.ref a1_0)])) _
    refine XS.iadd X12.here hx rfl (hb hby d1_68) rfl ?_
    show Steps p.tables e below (T12.setTop (mkF m 69 #[.val (.ref a1_0), .val (.int (8 : Int32)), .val (.long q1_2), .second] [(.int (14 : Int32)), (.ref a1_0)])) _
    refine XS.lloadN X12.here hx rfl (hb hby d1_69) rfl ?_
    show Steps p.tables e below (T12.setTop (mkF m 70 #[.val (.ref a1_0), .val (.int (8 : Int32)), .val (.long q1_2), .second] [(.long q1_2), (.int (14 : Int32)), (.ref a1_0)])) _
    refine XS.bipush X12.here hx rfl (hb hby d1_70) ?_
    show Steps p.tables e below (T12.setTop (mkF m 72 #[.val (.ref a1_0), .val (.int (8 : Int32)), .val (.long q1_2), .second] [(.int (8 : Int32)), (.long q1_2), (.int (14 : Int32)), (.ref a1_0)])) _
    refine XS.lushr X12.here hx rfl (hb hby d1_72) rfl ?_
    show Steps p.tables e below (T12.setTop (mkF m 73 #[.val (.ref a1_0), .val (.int (8 : Int32)), .val (.long q1_2), .second] [(.long ((q1_2.toUInt64 >>> ((8 : Int32) &&& 0x3f).toInt64.toUInt64).toInt64)), (.int (14 : Int32)), (.ref a1_0)])) _
    refine XS.l2i X12.here hx rfl (hb hby d1_73) rfl ?_
    show Steps p.tables e below (T12.setTop (mkF m 74 #[.val (.ref a1_0), .val (.int (8 : Int32)), .val (.long q1_2), .second] [(.int (((q1_2.toUInt64 >>> ((8 : Int32) &&& 0x3f).toInt64.toUInt64).toInt64).toInt32)), (.int (14 : Int32)), (.ref a1_0)])) _
    refine XS.i2b X12.here hx rfl (hb hby d1_74) rfl ?_
    show Steps p.tables e below (T12.setTop (mkF m 75 #[.val (.ref a1_0), .val (.int (8 : Int32)), .val (.long q1_2), .second] [(.int ((((q1_2.toUInt64 >>> ((8 : Int32) &&& 0x3f).toInt64.toUInt64).toInt64).toInt32).toInt8.toInt32)), (.int (14 : Int32)), (.ref a1_0)])) _
    refine st14 _ ?_
    show Steps p.tables e below (T14.setTop (mkF m 76 #[.val (.ref a1_0), .val (.int (8 : Int32)), .val (.long q1_2), .second] [])) _
    refine XS.aloadN X14.here hx rfl (hb hby d1_76) rfl rfl ?_
    show Steps p.tables e below (T14.setTop (mkF m 77 #[.val (.ref a1_0), .val (.int (8 : Int32)), .val (.long q1_2), .second] [(.ref a1_0)])) _
    refine XS.iloadN X14.here hx rfl (hb hby d1_77) rfl ?_
    show Steps p.tables e below (T14.setTop (mkF m 78 #[.val (.ref a1_0), .val (.int (8 : Int32)), .val (.long q1_2), .second] [(.int (8 : Int32)), (.ref a1_0)])) _
    refine XS.bipush X14.here hx rfl (hb hby d1_78) ?_
    show Steps p.tables e below (T14.setTop (mkF m 80 #[.val (.ref a1_0), .val (.int (8 : Int32)), .val (.long q1_2), .second] [(.int (7 : Int32)), (.int (8 : Int32)), (.ref a1_0)])) _
    refine XS.iadd X14.here hx rfl (hb hby d1_80) rfl ?_
    show Steps p.tables e below (T14.setTop (mkF m 81 #[.val (.ref a1_0), .val (.int (8 : Int32)), .val (.long q1_2), .second] [(.int (15 : Int32)), (.ref a1_0)])) _
    refine XS.lloadN X14.here hx rfl (hb hby d1_81) rfl ?_
    show Steps p.tables e below (T14.setTop (mkF m 82 #[.val (.ref a1_0), .val (.int (8 : Int32)), .val (.long q1_2), .second] [(.long q1_2), (.int (15 : Int32)), (.ref a1_0)])) _
    refine XS.l2i X14.here hx rfl (hb hby d1_82) rfl ?_
    show Steps p.tables e below (T14.setTop (mkF m 83 #[.val (.ref a1_0), .val (.int (8 : Int32)), .val (.long q1_2), .second] [(.int (q1_2.toInt32)), (.int (15 : Int32)), (.ref a1_0)])) _
    refine XS.i2b X14.here hx rfl (hb hby d1_83) rfl ?_
    show Steps p.tables e below (T14.setTop (mkF m 84 #[.val (.ref a1_0), .val (.int (8 : Int32)), .val (.long q1_2), .second] [(.int ((q1_2.toInt32).toInt8.toInt32)), (.int (15 : Int32)), (.ref a1_0)])) _
    refine st16 _ ?_
    show Steps p.tables e below (T16.setTop (mkF m 85 #[.val (.ref a1_0), .val (.int (8 : Int32)), .val (.long q1_2), .second] [])) _
    exact X16.returnOut hx Bd.returns (hb hby d1_85) hr
  · show Q_rm1_2 Z a1_0 q1_2 kc_a1_0 t_a1_0_0 t_a1_0_1 t_a1_0_2 t_a1_0_3 t_a1_0_4 t_a1_0_5 t_a1_0_6 t_a1_0_7 t_a1_0_8 t_a1_0_9 t_a1_0_10 t_a1_0_11 t_a1_0_12 t_a1_0_13 t_a1_0_14 t_a1_0_15 t_a1_0_16 t_a1_0_17 t_a1_0_18 t_a1_0_19 t_a1_0_20 t_a1_0_21 t_a1_0_22 t_a1_0_23 h0 n0 _ T16.heap _
    rw [e16]
    exact ⟨rfl, N16, K16, V16⟩
theorem ef_rm1_3 (m : MethodId) (y0 : Addr) (y2 : Int64) : entryFrame m #[(.ref y0), (.int (16 : Int32)), (.long y2)] 4 = mkF m 0 #[.val (.ref y0), .val (.int (16 : Int32)), .val (.long y2), .second] [] := by first | (simp [entryFrame, mkF, argsToLocals, Value.category]; done) | rfl
def Q_rm1_3 (Z : State) (a1_0 : Addr) (q1_2 : Int64) (kc_a1_0 : ClassId) (t_a1_0_0 : Int32) (t_a1_0_1 : Int32) (t_a1_0_2 : Int32) (t_a1_0_3 : Int32) (t_a1_0_4 : Int32) (t_a1_0_5 : Int32) (t_a1_0_6 : Int32) (t_a1_0_7 : Int32) (t_a1_0_8 : Int32) (t_a1_0_9 : Int32) (t_a1_0_10 : Int32) (t_a1_0_11 : Int32) (t_a1_0_12 : Int32) (t_a1_0_13 : Int32) (t_a1_0_14 : Int32) (t_a1_0_15 : Int32) (t_a1_0_16 : Int32) (t_a1_0_17 : Int32) (t_a1_0_18 : Int32) (t_a1_0_19 : Int32) (t_a1_0_20 : Int32) (t_a1_0_21 : Int32) (t_a1_0_22 : Int32) (t_a1_0_23 : Int32) (h0 : Heap) (n0 : Nat) (v : Option Value) (h : Heap) (L : List Loc) : Prop := v = none ∧ Fr n0 L ∧ Keep h0 h [a1_0] ∧ Arv Z h a1_0 kc_a1_0 .byte (24 : Int32) [(.int t_a1_0_0), (.int t_a1_0_1), (.int t_a1_0_2), (.int t_a1_0_3), (.int t_a1_0_4), (.int t_a1_0_5), (.int t_a1_0_6), (.int t_a1_0_7), (.int t_a1_0_8), (.int t_a1_0_9), (.int t_a1_0_10), (.int t_a1_0_11), (.int t_a1_0_12), (.int t_a1_0_13), (.int t_a1_0_14), (.int t_a1_0_15), (.int (nar .byte ((((q1_2.toUInt64 >>> ((56 : Int32) &&& 0x3f).toInt64.toUInt64).toInt64).toInt32).toInt8.toInt32))), (.int (nar .byte ((((q1_2.toUInt64 >>> ((48 : Int32) &&& 0x3f).toInt64.toUInt64).toInt64).toInt32).toInt8.toInt32))), (.int (nar .byte ((((q1_2.toUInt64 >>> ((40 : Int32) &&& 0x3f).toInt64.toUInt64).toInt64).toInt32).toInt8.toInt32))), (.int (nar .byte ((((q1_2.toUInt64 >>> ((32 : Int32) &&& 0x3f).toInt64.toUInt64).toInt64).toInt32).toInt8.toInt32))), (.int (nar .byte ((((q1_2.toUInt64 >>> ((24 : Int32) &&& 0x3f).toInt64.toUInt64).toInt64).toInt32).toInt8.toInt32))), (.int (nar .byte ((((q1_2.toUInt64 >>> ((16 : Int32) &&& 0x3f).toInt64.toUInt64).toInt64).toInt32).toInt8.toInt32))), (.int (nar .byte ((((q1_2.toUInt64 >>> ((8 : Int32) &&& 0x3f).toInt64.toUInt64).toInt64).toInt32).toInt8.toInt32))), (.int (nar .byte ((q1_2.toInt32).toInt8.toInt32)))] (.int (0 : Int32))
set_option maxRecDepth 65536 in
set_option maxHeartbeats 40000000 in
theorem rm1_3 (l : Launch) (Z : State) (a0 : Array Value) (hw : ∀ d ∈ tables_1, d.before a0 Z = true) (ws : List Jvm.Cond) (a1_0 : Addr) (q1_2 : Int64) (kc_a1_0 : ClassId) (t_a1_0_0 : Int32) (t_a1_0_1 : Int32) (t_a1_0_2 : Int32) (t_a1_0_3 : Int32) (t_a1_0_4 : Int32) (t_a1_0_5 : Int32) (t_a1_0_6 : Int32) (t_a1_0_7 : Int32) (t_a1_0_8 : Int32) (t_a1_0_9 : Int32) (t_a1_0_10 : Int32) (t_a1_0_11 : Int32) (t_a1_0_12 : Int32) (t_a1_0_13 : Int32) (t_a1_0_14 : Int32) (t_a1_0_15 : Int32) (t_a1_0_16 : Int32) (t_a1_0_17 : Int32) (t_a1_0_18 : Int32) (t_a1_0_19 : Int32) (t_a1_0_20 : Int32) (t_a1_0_21 : Int32) (t_a1_0_22 : Int32) (t_a1_0_23 : Int32) (h0 : Heap) (n0 : Nat) (Z0 : n0 ≤ h0.size) (V_a1_0 : Arv Z h0 a1_0 kc_a1_0 .byte (24 : Int32) [(.int t_a1_0_0), (.int t_a1_0_1), (.int t_a1_0_2), (.int t_a1_0_3), (.int t_a1_0_4), (.int t_a1_0_5), (.int t_a1_0_6), (.int t_a1_0_7), (.int t_a1_0_8), (.int t_a1_0_9), (.int t_a1_0_10), (.int t_a1_0_11), (.int t_a1_0_12), (.int t_a1_0_13), (.int t_a1_0_14), (.int t_a1_0_15), (.int t_a1_0_16), (.int t_a1_0_17), (.int t_a1_0_18), (.int t_a1_0_19), (.int t_a1_0_20), (.int t_a1_0_21), (.int t_a1_0_22), (.int t_a1_0_23)] (.int (0 : Int32))) (g_a1_0 : n0 ≤ a1_0) :
    MetFree l (⟨"com/example/telemetree/telemetree/storage/BitReaderReadPinLaw", "put", "([BIJ)V"⟩ : MethodName) (head1 (Jvm.Cond.code (⟨"com/example/telemetree/telemetree/storage/BitReaderReadPinLaw", "put", "([BIJ)V"⟩ : MethodName) method_3_code 4 none :: ws) ({ frames := 0, cells := 0, slots := 0, locals := 0 } : Room)) (fun a U => a = #[(.ref a1_0), (.int (16 : Int32)), (.long q1_2)] ∧ Z.Warmed39 U.vm ∧ U.heap = h0) (fun _ _ _ _ _ => True) (fun _ U o U' => ∃ v L, o = .returned v ∧ Q_rm1_3 Z a1_0 q1_2 kc_a1_0 t_a1_0_0 t_a1_0_1 t_a1_0_2 t_a1_0_3 t_a1_0_4 t_a1_0_5 t_a1_0_6 t_a1_0_7 t_a1_0_8 t_a1_0_9 t_a1_0_10 t_a1_0_11 t_a1_0_12 t_a1_0_13 t_a1_0_14 t_a1_0_15 t_a1_0_16 t_a1_0_17 t_a1_0_18 t_a1_0_19 t_a1_0_20 t_a1_0_21 t_a1_0_22 t_a1_0_23 h0 n0 v U'.heap L ∧ FrameEnd U o U' L ({ frames := 0, cells := 0, slots := 0, locals := 0 } : Room).cells ({ frames := 0, cells := 0, slots := 0, locals := 0 } : Room).slots) := by
  refine MetFree.of_bodySF (plainFor_of_name pn_1) hisR ?_
  intro p e s m args below meth c s₁ Bd hml0 hP hK
  obtain ⟨rfl, hZ, hh⟩ := hP
  have hx := Bd.exec
  have hby := Bd.bytes
  have hml : c.maxLocals = 4 := hml0
  have hown : s.vm.findClass "com/example/telemetree/telemetree/storage/BitReaderReadPinLaw" = some m.cls := findClass_of_methodNamed Bd.named
  have hnm := (name_of_methodNamed Bd.named Bd.method).1
  have X0 : Stand p l e ({ frames := 0, cells := 0, slots := 0, locals := 0 } : Room) s m #[(.ref a1_0), (.int (16 : Int32)), (.long q1_2)] below meth c s₁ [] 0 0 := Stand.of_body Bd
  have e0 : s₁.heap = h0 := by rw [← hh, Bd.state]; rfl
  have N0 := Fr.nil n0
  have pre0 : ∀ t, Steps p.tables e below (s₁.setTop (mkF m 0 #[.val (.ref a1_0), .val (.int (16 : Int32)), .val (.long q1_2), .second] [])) t → Steps p.tables e below (s₁.setTop (entryFrame m #[(.ref a1_0), (.int (16 : Int32)), (.long q1_2)] 4)) t := fun t k => castTop (ef_rm1_3 m a1_0 q1_2) k
  obtain ⟨cl1, Ar1, qk1, Sz1, Nz1, Hh1, Gf1⟩ := id V_a1_0
  obtain ⟨T2, h2, X2, e2, W2, st2⟩ := stB X0 hx hZ e0 Ar1 (j := (16 : Int32)) (inb_of Sz1 ⟨by decide, by decide⟩) (g := (mkF m 8 #[.val (.ref a1_0), .val (.int (16 : Int32)), .val (.long q1_2), .second] [(.int ((((q1_2.toUInt64 >>> ((56 : Int32) &&& 0x3f).toInt64.toUInt64).toInt64).toInt32).toInt8.toInt32)), (.int (16 : Int32)), (.ref a1_0)])) rfl rfl (hb hby d1_8)
  have V2 : Arv Z h2 a1_0 kc_a1_0 .byte (24 : Int32) [(.int t_a1_0_0), (.int t_a1_0_1), (.int t_a1_0_2), (.int t_a1_0_3), (.int t_a1_0_4), (.int t_a1_0_5), (.int t_a1_0_6), (.int t_a1_0_7), (.int t_a1_0_8), (.int t_a1_0_9), (.int t_a1_0_10), (.int t_a1_0_11), (.int t_a1_0_12), (.int t_a1_0_13), (.int t_a1_0_14), (.int t_a1_0_15), (.int (nar .byte ((((q1_2.toUInt64 >>> ((56 : Int32) &&& 0x3f).toInt64.toUInt64).toInt64).toInt32).toInt8.toInt32))), (.int t_a1_0_17), (.int t_a1_0_18), (.int t_a1_0_19), (.int t_a1_0_20), (.int t_a1_0_21), (.int t_a1_0_22), (.int t_a1_0_23)] (.int (0 : Int32)) := Arv.set Ar1 qk1 Sz1 Nz1 Hh1 Gf1 (fits_nar_byte _) W2 16 rfl (Nat.le_of_ble_eq_true rfl)
  have K2 : Keep h0 h2 [a1_0] := (Keep.refl h0 [a1_0]).wr W2 (Or.inl (List.mem_of_getElem? (i := 0) rfl))
  have Z2 : n0 ≤ h2.size := Nat.le_trans Z0 K2.1
  have N2 := Fr.snoc X2 N0 g_a1_0
  obtain ⟨cl3, Ar3, qk3, Sz3, Nz3, Hh3, Gf3⟩ := id V2
  obtain ⟨T4, h4, X4, e4, W4, st4⟩ := stB X2 hx hZ e2 Ar3 (j := (17 : Int32)) (inb_of Sz3 ⟨by decide, by decide⟩) (g := (mkF m 19 #[.val (.ref a1_0), .val (.int (16 : Int32)), .val (.long q1_2), .second] [(.int ((((q1_2.toUInt64 >>> ((48 : Int32) &&& 0x3f).toInt64.toUInt64).toInt64).toInt32).toInt8.toInt32)), (.int (17 : Int32)), (.ref a1_0)])) rfl rfl (hb hby d1_19)
  have V4 : Arv Z h4 a1_0 kc_a1_0 .byte (24 : Int32) [(.int t_a1_0_0), (.int t_a1_0_1), (.int t_a1_0_2), (.int t_a1_0_3), (.int t_a1_0_4), (.int t_a1_0_5), (.int t_a1_0_6), (.int t_a1_0_7), (.int t_a1_0_8), (.int t_a1_0_9), (.int t_a1_0_10), (.int t_a1_0_11), (.int t_a1_0_12), (.int t_a1_0_13), (.int t_a1_0_14), (.int t_a1_0_15), (.int (nar .byte ((((q1_2.toUInt64 >>> ((56 : Int32) &&& 0x3f).toInt64.toUInt64).toInt64).toInt32).toInt8.toInt32))), (.int (nar .byte ((((q1_2.toUInt64 >>> ((48 : Int32) &&& 0x3f).toInt64.toUInt64).toInt64).toInt32).toInt8.toInt32))), (.int t_a1_0_18), (.int t_a1_0_19), (.int t_a1_0_20), (.int t_a1_0_21), (.int t_a1_0_22), (.int t_a1_0_23)] (.int (0 : Int32)) := Arv.set Ar3 qk3 Sz3 Nz3 Hh3 Gf3 (fits_nar_byte _) W4 17 rfl (Nat.le_of_ble_eq_true rfl)
  have K4 : Keep h0 h4 [a1_0] := K2.wr W4 (Or.inl (List.mem_of_getElem? (i := 0) rfl))
  have Z4 : n0 ≤ h4.size := Nat.le_trans Z0 K4.1
  have N4 := Fr.snoc X4 N2 g_a1_0
  obtain ⟨cl5, Ar5, qk5, Sz5, Nz5, Hh5, Gf5⟩ := id V4
  obtain ⟨T6, h6, X6, e6, W6, st6⟩ := stB X4 hx hZ e4 Ar5 (j := (18 : Int32)) (inb_of Sz5 ⟨by decide, by decide⟩) (g := (mkF m 30 #[.val (.ref a1_0), .val (.int (16 : Int32)), .val (.long q1_2), .second] [(.int ((((q1_2.toUInt64 >>> ((40 : Int32) &&& 0x3f).toInt64.toUInt64).toInt64).toInt32).toInt8.toInt32)), (.int (18 : Int32)), (.ref a1_0)])) rfl rfl (hb hby d1_30)
  have V6 : Arv Z h6 a1_0 kc_a1_0 .byte (24 : Int32) [(.int t_a1_0_0), (.int t_a1_0_1), (.int t_a1_0_2), (.int t_a1_0_3), (.int t_a1_0_4), (.int t_a1_0_5), (.int t_a1_0_6), (.int t_a1_0_7), (.int t_a1_0_8), (.int t_a1_0_9), (.int t_a1_0_10), (.int t_a1_0_11), (.int t_a1_0_12), (.int t_a1_0_13), (.int t_a1_0_14), (.int t_a1_0_15), (.int (nar .byte ((((q1_2.toUInt64 >>> ((56 : Int32) &&& 0x3f).toInt64.toUInt64).toInt64).toInt32).toInt8.toInt32))), (.int (nar .byte ((((q1_2.toUInt64 >>> ((48 : Int32) &&& 0x3f).toInt64.toUInt64).toInt64).toInt32).toInt8.toInt32))), (.int (nar .byte ((((q1_2.toUInt64 >>> ((40 : Int32) &&& 0x3f).toInt64.toUInt64).toInt64).toInt32).toInt8.toInt32))), (.int t_a1_0_19), (.int t_a1_0_20), (.int t_a1_0_21), (.int t_a1_0_22), (.int t_a1_0_23)] (.int (0 : Int32)) := Arv.set Ar5 qk5 Sz5 Nz5 Hh5 Gf5 (fits_nar_byte _) W6 18 rfl (Nat.le_of_ble_eq_true rfl)
  have K6 : Keep h0 h6 [a1_0] := K4.wr W6 (Or.inl (List.mem_of_getElem? (i := 0) rfl))
  have Z6 : n0 ≤ h6.size := Nat.le_trans Z0 K6.1
  have N6 := Fr.snoc X6 N4 g_a1_0
  obtain ⟨cl7, Ar7, qk7, Sz7, Nz7, Hh7, Gf7⟩ := id V6
  obtain ⟨T8, h8, X8, e8, W8, st8⟩ := stB X6 hx hZ e6 Ar7 (j := (19 : Int32)) (inb_of Sz7 ⟨by decide, by decide⟩) (g := (mkF m 41 #[.val (.ref a1_0), .val (.int (16 : Int32)), .val (.long q1_2), .second] [(.int ((((q1_2.toUInt64 >>> ((32 : Int32) &&& 0x3f).toInt64.toUInt64).toInt64).toInt32).toInt8.toInt32)), (.int (19 : Int32)), (.ref a1_0)])) rfl rfl (hb hby d1_41)
  have V8 : Arv Z h8 a1_0 kc_a1_0 .byte (24 : Int32) [(.int t_a1_0_0), (.int t_a1_0_1), (.int t_a1_0_2), (.int t_a1_0_3), (.int t_a1_0_4), (.int t_a1_0_5), (.int t_a1_0_6), (.int t_a1_0_7), (.int t_a1_0_8), (.int t_a1_0_9), (.int t_a1_0_10), (.int t_a1_0_11), (.int t_a1_0_12), (.int t_a1_0_13), (.int t_a1_0_14), (.int t_a1_0_15), (.int (nar .byte ((((q1_2.toUInt64 >>> ((56 : Int32) &&& 0x3f).toInt64.toUInt64).toInt64).toInt32).toInt8.toInt32))), (.int (nar .byte ((((q1_2.toUInt64 >>> ((48 : Int32) &&& 0x3f).toInt64.toUInt64).toInt64).toInt32).toInt8.toInt32))), (.int (nar .byte ((((q1_2.toUInt64 >>> ((40 : Int32) &&& 0x3f).toInt64.toUInt64).toInt64).toInt32).toInt8.toInt32))), (.int (nar .byte ((((q1_2.toUInt64 >>> ((32 : Int32) &&& 0x3f).toInt64.toUInt64).toInt64).toInt32).toInt8.toInt32))), (.int t_a1_0_20), (.int t_a1_0_21), (.int t_a1_0_22), (.int t_a1_0_23)] (.int (0 : Int32)) := Arv.set Ar7 qk7 Sz7 Nz7 Hh7 Gf7 (fits_nar_byte _) W8 19 rfl (Nat.le_of_ble_eq_true rfl)
  have K8 : Keep h0 h8 [a1_0] := K6.wr W8 (Or.inl (List.mem_of_getElem? (i := 0) rfl))
  have Z8 : n0 ≤ h8.size := Nat.le_trans Z0 K8.1
  have N8 := Fr.snoc X8 N6 g_a1_0
  obtain ⟨cl9, Ar9, qk9, Sz9, Nz9, Hh9, Gf9⟩ := id V8
  obtain ⟨T10, h10, X10, e10, W10, st10⟩ := stB X8 hx hZ e8 Ar9 (j := (20 : Int32)) (inb_of Sz9 ⟨by decide, by decide⟩) (g := (mkF m 52 #[.val (.ref a1_0), .val (.int (16 : Int32)), .val (.long q1_2), .second] [(.int ((((q1_2.toUInt64 >>> ((24 : Int32) &&& 0x3f).toInt64.toUInt64).toInt64).toInt32).toInt8.toInt32)), (.int (20 : Int32)), (.ref a1_0)])) rfl rfl (hb hby d1_52)
  have V10 : Arv Z h10 a1_0 kc_a1_0 .byte (24 : Int32) [(.int t_a1_0_0), (.int t_a1_0_1), (.int t_a1_0_2), (.int t_a1_0_3), (.int t_a1_0_4), (.int t_a1_0_5), (.int t_a1_0_6), (.int t_a1_0_7), (.int t_a1_0_8), (.int t_a1_0_9), (.int t_a1_0_10), (.int t_a1_0_11), (.int t_a1_0_12), (.int t_a1_0_13), (.int t_a1_0_14), (.int t_a1_0_15), (.int (nar .byte ((((q1_2.toUInt64 >>> ((56 : Int32) &&& 0x3f).toInt64.toUInt64).toInt64).toInt32).toInt8.toInt32))), (.int (nar .byte ((((q1_2.toUInt64 >>> ((48 : Int32) &&& 0x3f).toInt64.toUInt64).toInt64).toInt32).toInt8.toInt32))), (.int (nar .byte ((((q1_2.toUInt64 >>> ((40 : Int32) &&& 0x3f).toInt64.toUInt64).toInt64).toInt32).toInt8.toInt32))), (.int (nar .byte ((((q1_2.toUInt64 >>> ((32 : Int32) &&& 0x3f).toInt64.toUInt64).toInt64).toInt32).toInt8.toInt32))), (.int (nar .byte ((((q1_2.toUInt64 >>> ((24 : Int32) &&& 0x3f).toInt64.toUInt64).toInt64).toInt32).toInt8.toInt32))), (.int t_a1_0_21), (.int t_a1_0_22), (.int t_a1_0_23)] (.int (0 : Int32)) := Arv.set Ar9 qk9 Sz9 Nz9 Hh9 Gf9 (fits_nar_byte _) W10 20 rfl (Nat.le_of_ble_eq_true rfl)
  have K10 : Keep h0 h10 [a1_0] := K8.wr W10 (Or.inl (List.mem_of_getElem? (i := 0) rfl))
  have Z10 : n0 ≤ h10.size := Nat.le_trans Z0 K10.1
  have N10 := Fr.snoc X10 N8 g_a1_0
  obtain ⟨cl11, Ar11, qk11, Sz11, Nz11, Hh11, Gf11⟩ := id V10
  obtain ⟨T12, h12, X12, e12, W12, st12⟩ := stB X10 hx hZ e10 Ar11 (j := (21 : Int32)) (inb_of Sz11 ⟨by decide, by decide⟩) (g := (mkF m 63 #[.val (.ref a1_0), .val (.int (16 : Int32)), .val (.long q1_2), .second] [(.int ((((q1_2.toUInt64 >>> ((16 : Int32) &&& 0x3f).toInt64.toUInt64).toInt64).toInt32).toInt8.toInt32)), (.int (21 : Int32)), (.ref a1_0)])) rfl rfl (hb hby d1_63)
  have V12 : Arv Z h12 a1_0 kc_a1_0 .byte (24 : Int32) [(.int t_a1_0_0), (.int t_a1_0_1), (.int t_a1_0_2), (.int t_a1_0_3), (.int t_a1_0_4), (.int t_a1_0_5), (.int t_a1_0_6), (.int t_a1_0_7), (.int t_a1_0_8), (.int t_a1_0_9), (.int t_a1_0_10), (.int t_a1_0_11), (.int t_a1_0_12), (.int t_a1_0_13), (.int t_a1_0_14), (.int t_a1_0_15), (.int (nar .byte ((((q1_2.toUInt64 >>> ((56 : Int32) &&& 0x3f).toInt64.toUInt64).toInt64).toInt32).toInt8.toInt32))), (.int (nar .byte ((((q1_2.toUInt64 >>> ((48 : Int32) &&& 0x3f).toInt64.toUInt64).toInt64).toInt32).toInt8.toInt32))), (.int (nar .byte ((((q1_2.toUInt64 >>> ((40 : Int32) &&& 0x3f).toInt64.toUInt64).toInt64).toInt32).toInt8.toInt32))), (.int (nar .byte ((((q1_2.toUInt64 >>> ((32 : Int32) &&& 0x3f).toInt64.toUInt64).toInt64).toInt32).toInt8.toInt32))), (.int (nar .byte ((((q1_2.toUInt64 >>> ((24 : Int32) &&& 0x3f).toInt64.toUInt64).toInt64).toInt32).toInt8.toInt32))), (.int (nar .byte ((((q1_2.toUInt64 >>> ((16 : Int32) &&& 0x3f).toInt64.toUInt64).toInt64).toInt32).toInt8.toInt32))), (.int t_a1_0_22), (.int t_a1_0_23)] (.int (0 : Int32)) := Arv.set Ar11 qk11 Sz11 Nz11 Hh11 Gf11 (fits_nar_byte _) W12 21 rfl (Nat.le_of_ble_eq_true rfl)
  have K12 : Keep h0 h12 [a1_0] := K10.wr W12 (Or.inl (List.mem_of_getElem? (i := 0) rfl))
  have Z12 : n0 ≤ h12.size := Nat.le_trans Z0 K12.1
  have N12 := Fr.snoc X12 N10 g_a1_0
  obtain ⟨cl13, Ar13, qk13, Sz13, Nz13, Hh13, Gf13⟩ := id V12
  obtain ⟨T14, h14, X14, e14, W14, st14⟩ := stB X12 hx hZ e12 Ar13 (j := (22 : Int32)) (inb_of Sz13 ⟨by decide, by decide⟩) (g := (mkF m 75 #[.val (.ref a1_0), .val (.int (16 : Int32)), .val (.long q1_2), .second] [(.int ((((q1_2.toUInt64 >>> ((8 : Int32) &&& 0x3f).toInt64.toUInt64).toInt64).toInt32).toInt8.toInt32)), (.int (22 : Int32)), (.ref a1_0)])) rfl rfl (hb hby d1_75)
  have V14 : Arv Z h14 a1_0 kc_a1_0 .byte (24 : Int32) [(.int t_a1_0_0), (.int t_a1_0_1), (.int t_a1_0_2), (.int t_a1_0_3), (.int t_a1_0_4), (.int t_a1_0_5), (.int t_a1_0_6), (.int t_a1_0_7), (.int t_a1_0_8), (.int t_a1_0_9), (.int t_a1_0_10), (.int t_a1_0_11), (.int t_a1_0_12), (.int t_a1_0_13), (.int t_a1_0_14), (.int t_a1_0_15), (.int (nar .byte ((((q1_2.toUInt64 >>> ((56 : Int32) &&& 0x3f).toInt64.toUInt64).toInt64).toInt32).toInt8.toInt32))), (.int (nar .byte ((((q1_2.toUInt64 >>> ((48 : Int32) &&& 0x3f).toInt64.toUInt64).toInt64).toInt32).toInt8.toInt32))), (.int (nar .byte ((((q1_2.toUInt64 >>> ((40 : Int32) &&& 0x3f).toInt64.toUInt64).toInt64).toInt32).toInt8.toInt32))), (.int (nar .byte ((((q1_2.toUInt64 >>> ((32 : Int32) &&& 0x3f).toInt64.toUInt64).toInt64).toInt32).toInt8.toInt32))), (.int (nar .byte ((((q1_2.toUInt64 >>> ((24 : Int32) &&& 0x3f).toInt64.toUInt64).toInt64).toInt32).toInt8.toInt32))), (.int (nar .byte ((((q1_2.toUInt64 >>> ((16 : Int32) &&& 0x3f).toInt64.toUInt64).toInt64).toInt32).toInt8.toInt32))), (.int (nar .byte ((((q1_2.toUInt64 >>> ((8 : Int32) &&& 0x3f).toInt64.toUInt64).toInt64).toInt32).toInt8.toInt32))), (.int t_a1_0_23)] (.int (0 : Int32)) := Arv.set Ar13 qk13 Sz13 Nz13 Hh13 Gf13 (fits_nar_byte _) W14 22 rfl (Nat.le_of_ble_eq_true rfl)
  have K14 : Keep h0 h14 [a1_0] := K12.wr W14 (Or.inl (List.mem_of_getElem? (i := 0) rfl))
  have Z14 : n0 ≤ h14.size := Nat.le_trans Z0 K14.1
  have N14 := Fr.snoc X14 N12 g_a1_0
  obtain ⟨cl15, Ar15, qk15, Sz15, Nz15, Hh15, Gf15⟩ := id V14
  obtain ⟨T16, h16, X16, e16, W16, st16⟩ := stB X14 hx hZ e14 Ar15 (j := (23 : Int32)) (inb_of Sz15 ⟨by decide, by decide⟩) (g := (mkF m 84 #[.val (.ref a1_0), .val (.int (16 : Int32)), .val (.long q1_2), .second] [(.int ((q1_2.toInt32).toInt8.toInt32)), (.int (23 : Int32)), (.ref a1_0)])) rfl rfl (hb hby d1_84)
  have V16 : Arv Z h16 a1_0 kc_a1_0 .byte (24 : Int32) [(.int t_a1_0_0), (.int t_a1_0_1), (.int t_a1_0_2), (.int t_a1_0_3), (.int t_a1_0_4), (.int t_a1_0_5), (.int t_a1_0_6), (.int t_a1_0_7), (.int t_a1_0_8), (.int t_a1_0_9), (.int t_a1_0_10), (.int t_a1_0_11), (.int t_a1_0_12), (.int t_a1_0_13), (.int t_a1_0_14), (.int t_a1_0_15), (.int (nar .byte ((((q1_2.toUInt64 >>> ((56 : Int32) &&& 0x3f).toInt64.toUInt64).toInt64).toInt32).toInt8.toInt32))), (.int (nar .byte ((((q1_2.toUInt64 >>> ((48 : Int32) &&& 0x3f).toInt64.toUInt64).toInt64).toInt32).toInt8.toInt32))), (.int (nar .byte ((((q1_2.toUInt64 >>> ((40 : Int32) &&& 0x3f).toInt64.toUInt64).toInt64).toInt32).toInt8.toInt32))), (.int (nar .byte ((((q1_2.toUInt64 >>> ((32 : Int32) &&& 0x3f).toInt64.toUInt64).toInt64).toInt32).toInt8.toInt32))), (.int (nar .byte ((((q1_2.toUInt64 >>> ((24 : Int32) &&& 0x3f).toInt64.toUInt64).toInt64).toInt32).toInt8.toInt32))), (.int (nar .byte ((((q1_2.toUInt64 >>> ((16 : Int32) &&& 0x3f).toInt64.toUInt64).toInt64).toInt32).toInt8.toInt32))), (.int (nar .byte ((((q1_2.toUInt64 >>> ((8 : Int32) &&& 0x3f).toInt64.toUInt64).toInt64).toInt32).toInt8.toInt32))), (.int (nar .byte ((q1_2.toInt32).toInt8.toInt32)))] (.int (0 : Int32)) := Arv.set Ar15 qk15 Sz15 Nz15 Hh15 Gf15 (fits_nar_byte _) W16 23 rfl (Nat.le_of_ble_eq_true rfl)
  have K16 : Keep h0 h16 [a1_0] := K14.wr W16 (Or.inl (List.mem_of_getElem? (i := 0) rfl))
  have Z16 : n0 ≤ h16.size := Nat.le_trans Z0 K16.1
  have N16 := Fr.snoc X16 N14 g_a1_0
  obtain ⟨fs, hr, hrun, hended, hW, hsame⟩ := X16.leave (v := none) (fun _ => rfl)
  refine ⟨_, _, pre0 _ ?_, hrun, hended, _, _, rfl, ?_, ⟨_, rfl⟩, hW, hsame.mono (by decide) (by decide)⟩
  · show Steps p.tables e below (s₁.setTop (mkF m 0 #[.val (.ref a1_0), .val (.int (16 : Int32)), .val (.long q1_2), .second] [])) _
    refine XS.aloadN X0.here hx rfl (hb hby d1_0) rfl rfl ?_
    show Steps p.tables e below (s₁.setTop (mkF m 1 #[.val (.ref a1_0), .val (.int (16 : Int32)), .val (.long q1_2), .second] [(.ref a1_0)])) _
    refine XS.iloadN X0.here hx rfl (hb hby d1_1) rfl ?_
    show Steps p.tables e below (s₁.setTop (mkF m 2 #[.val (.ref a1_0), .val (.int (16 : Int32)), .val (.long q1_2), .second] [(.int (16 : Int32)), (.ref a1_0)])) _
    refine XS.lloadN X0.here hx rfl (hb hby d1_2) rfl ?_
    show Steps p.tables e below (s₁.setTop (mkF m 3 #[.val (.ref a1_0), .val (.int (16 : Int32)), .val (.long q1_2), .second] [(.long q1_2), (.int (16 : Int32)), (.ref a1_0)])) _
    refine XS.bipush X0.here hx rfl (hb hby d1_3) ?_
    show Steps p.tables e below (s₁.setTop (mkF m 5 #[.val (.ref a1_0), .val (.int (16 : Int32)), .val (.long q1_2), .second] [(.int (56 : Int32)), (.long q1_2), (.int (16 : Int32)), (.ref a1_0)])) _
    refine XS.lushr X0.here hx rfl (hb hby d1_5) rfl ?_
    show Steps p.tables e below (s₁.setTop (mkF m 6 #[.val (.ref a1_0), .val (.int (16 : Int32)), .val (.long q1_2), .second] [(.long ((q1_2.toUInt64 >>> ((56 : Int32) &&& 0x3f).toInt64.toUInt64).toInt64)), (.int (16 : Int32)), (.ref a1_0)])) _
    refine XS.l2i X0.here hx rfl (hb hby d1_6) rfl ?_
    show Steps p.tables e below (s₁.setTop (mkF m 7 #[.val (.ref a1_0), .val (.int (16 : Int32)), .val (.long q1_2), .second] [(.int (((q1_2.toUInt64 >>> ((56 : Int32) &&& 0x3f).toInt64.toUInt64).toInt64).toInt32)), (.int (16 : Int32)), (.ref a1_0)])) _
    refine XS.i2b X0.here hx rfl (hb hby d1_7) rfl ?_
    show Steps p.tables e below (s₁.setTop (mkF m 8 #[.val (.ref a1_0), .val (.int (16 : Int32)), .val (.long q1_2), .second] [(.int ((((q1_2.toUInt64 >>> ((56 : Int32) &&& 0x3f).toInt64.toUInt64).toInt64).toInt32).toInt8.toInt32)), (.int (16 : Int32)), (.ref a1_0)])) _
    refine st2 _ ?_
    show Steps p.tables e below (T2.setTop (mkF m 9 #[.val (.ref a1_0), .val (.int (16 : Int32)), .val (.long q1_2), .second] [])) _
    refine XS.aloadN X2.here hx rfl (hb hby d1_9) rfl rfl ?_
    show Steps p.tables e below (T2.setTop (mkF m 10 #[.val (.ref a1_0), .val (.int (16 : Int32)), .val (.long q1_2), .second] [(.ref a1_0)])) _
    refine XS.iloadN X2.here hx rfl (hb hby d1_10) rfl ?_
    show Steps p.tables e below (T2.setTop (mkF m 11 #[.val (.ref a1_0), .val (.int (16 : Int32)), .val (.long q1_2), .second] [(.int (16 : Int32)), (.ref a1_0)])) _
    refine XS.iconst X2.here hx rfl (hb hby d1_11) ?_
    show Steps p.tables e below (T2.setTop (mkF m 12 #[.val (.ref a1_0), .val (.int (16 : Int32)), .val (.long q1_2), .second] [(.int (1 : Int32)), (.int (16 : Int32)), (.ref a1_0)])) _
    refine XS.iadd X2.here hx rfl (hb hby d1_12) rfl ?_
    show Steps p.tables e below (T2.setTop (mkF m 13 #[.val (.ref a1_0), .val (.int (16 : Int32)), .val (.long q1_2), .second] [(.int (17 : Int32)), (.ref a1_0)])) _
    refine XS.lloadN X2.here hx rfl (hb hby d1_13) rfl ?_
    show Steps p.tables e below (T2.setTop (mkF m 14 #[.val (.ref a1_0), .val (.int (16 : Int32)), .val (.long q1_2), .second] [(.long q1_2), (.int (17 : Int32)), (.ref a1_0)])) _
    refine XS.bipush X2.here hx rfl (hb hby d1_14) ?_
    show Steps p.tables e below (T2.setTop (mkF m 16 #[.val (.ref a1_0), .val (.int (16 : Int32)), .val (.long q1_2), .second] [(.int (48 : Int32)), (.long q1_2), (.int (17 : Int32)), (.ref a1_0)])) _
    refine XS.lushr X2.here hx rfl (hb hby d1_16) rfl ?_
    show Steps p.tables e below (T2.setTop (mkF m 17 #[.val (.ref a1_0), .val (.int (16 : Int32)), .val (.long q1_2), .second] [(.long ((q1_2.toUInt64 >>> ((48 : Int32) &&& 0x3f).toInt64.toUInt64).toInt64)), (.int (17 : Int32)), (.ref a1_0)])) _
    refine XS.l2i X2.here hx rfl (hb hby d1_17) rfl ?_
    show Steps p.tables e below (T2.setTop (mkF m 18 #[.val (.ref a1_0), .val (.int (16 : Int32)), .val (.long q1_2), .second] [(.int (((q1_2.toUInt64 >>> ((48 : Int32) &&& 0x3f).toInt64.toUInt64).toInt64).toInt32)), (.int (17 : Int32)), (.ref a1_0)])) _
    refine XS.i2b X2.here hx rfl (hb hby d1_18) rfl ?_
    show Steps p.tables e below (T2.setTop (mkF m 19 #[.val (.ref a1_0), .val (.int (16 : Int32)), .val (.long q1_2), .second] [(.int ((((q1_2.toUInt64 >>> ((48 : Int32) &&& 0x3f).toInt64.toUInt64).toInt64).toInt32).toInt8.toInt32)), (.int (17 : Int32)), (.ref a1_0)])) _
    refine st4 _ ?_
    show Steps p.tables e below (T4.setTop (mkF m 20 #[.val (.ref a1_0), .val (.int (16 : Int32)), .val (.long q1_2), .second] [])) _
    refine XS.aloadN X4.here hx rfl (hb hby d1_20) rfl rfl ?_
    show Steps p.tables e below (T4.setTop (mkF m 21 #[.val (.ref a1_0), .val (.int (16 : Int32)), .val (.long q1_2), .second] [(.ref a1_0)])) _
    refine XS.iloadN X4.here hx rfl (hb hby d1_21) rfl ?_
    show Steps p.tables e below (T4.setTop (mkF m 22 #[.val (.ref a1_0), .val (.int (16 : Int32)), .val (.long q1_2), .second] [(.int (16 : Int32)), (.ref a1_0)])) _
    refine XS.iconst X4.here hx rfl (hb hby d1_22) ?_
    show Steps p.tables e below (T4.setTop (mkF m 23 #[.val (.ref a1_0), .val (.int (16 : Int32)), .val (.long q1_2), .second] [(.int (2 : Int32)), (.int (16 : Int32)), (.ref a1_0)])) _
    refine XS.iadd X4.here hx rfl (hb hby d1_23) rfl ?_
    show Steps p.tables e below (T4.setTop (mkF m 24 #[.val (.ref a1_0), .val (.int (16 : Int32)), .val (.long q1_2), .second] [(.int (18 : Int32)), (.ref a1_0)])) _
    refine XS.lloadN X4.here hx rfl (hb hby d1_24) rfl ?_
    show Steps p.tables e below (T4.setTop (mkF m 25 #[.val (.ref a1_0), .val (.int (16 : Int32)), .val (.long q1_2), .second] [(.long q1_2), (.int (18 : Int32)), (.ref a1_0)])) _
    refine XS.bipush X4.here hx rfl (hb hby d1_25) ?_
    show Steps p.tables e below (T4.setTop (mkF m 27 #[.val (.ref a1_0), .val (.int (16 : Int32)), .val (.long q1_2), .second] [(.int (40 : Int32)), (.long q1_2), (.int (18 : Int32)), (.ref a1_0)])) _
    refine XS.lushr X4.here hx rfl (hb hby d1_27) rfl ?_
    show Steps p.tables e below (T4.setTop (mkF m 28 #[.val (.ref a1_0), .val (.int (16 : Int32)), .val (.long q1_2), .second] [(.long ((q1_2.toUInt64 >>> ((40 : Int32) &&& 0x3f).toInt64.toUInt64).toInt64)), (.int (18 : Int32)), (.ref a1_0)])) _
    refine XS.l2i X4.here hx rfl (hb hby d1_28) rfl ?_
    show Steps p.tables e below (T4.setTop (mkF m 29 #[.val (.ref a1_0), .val (.int (16 : Int32)), .val (.long q1_2), .second] [(.int (((q1_2.toUInt64 >>> ((40 : Int32) &&& 0x3f).toInt64.toUInt64).toInt64).toInt32)), (.int (18 : Int32)), (.ref a1_0)])) _
    refine XS.i2b X4.here hx rfl (hb hby d1_29) rfl ?_
    show Steps p.tables e below (T4.setTop (mkF m 30 #[.val (.ref a1_0), .val (.int (16 : Int32)), .val (.long q1_2), .second] [(.int ((((q1_2.toUInt64 >>> ((40 : Int32) &&& 0x3f).toInt64.toUInt64).toInt64).toInt32).toInt8.toInt32)), (.int (18 : Int32)), (.ref a1_0)])) _
    refine st6 _ ?_
    show Steps p.tables e below (T6.setTop (mkF m 31 #[.val (.ref a1_0), .val (.int (16 : Int32)), .val (.long q1_2), .second] [])) _
    refine XS.aloadN X6.here hx rfl (hb hby d1_31) rfl rfl ?_
    show Steps p.tables e below (T6.setTop (mkF m 32 #[.val (.ref a1_0), .val (.int (16 : Int32)), .val (.long q1_2), .second] [(.ref a1_0)])) _
    refine XS.iloadN X6.here hx rfl (hb hby d1_32) rfl ?_
    show Steps p.tables e below (T6.setTop (mkF m 33 #[.val (.ref a1_0), .val (.int (16 : Int32)), .val (.long q1_2), .second] [(.int (16 : Int32)), (.ref a1_0)])) _
    refine XS.iconst X6.here hx rfl (hb hby d1_33) ?_
    show Steps p.tables e below (T6.setTop (mkF m 34 #[.val (.ref a1_0), .val (.int (16 : Int32)), .val (.long q1_2), .second] [(.int (3 : Int32)), (.int (16 : Int32)), (.ref a1_0)])) _
    refine XS.iadd X6.here hx rfl (hb hby d1_34) rfl ?_
    show Steps p.tables e below (T6.setTop (mkF m 35 #[.val (.ref a1_0), .val (.int (16 : Int32)), .val (.long q1_2), .second] [(.int (19 : Int32)), (.ref a1_0)])) _
    refine XS.lloadN X6.here hx rfl (hb hby d1_35) rfl ?_
    show Steps p.tables e below (T6.setTop (mkF m 36 #[.val (.ref a1_0), .val (.int (16 : Int32)), .val (.long q1_2), .second] [(.long q1_2), (.int (19 : Int32)), (.ref a1_0)])) _
    refine XS.bipush X6.here hx rfl (hb hby d1_36) ?_
    show Steps p.tables e below (T6.setTop (mkF m 38 #[.val (.ref a1_0), .val (.int (16 : Int32)), .val (.long q1_2), .second] [(.int (32 : Int32)), (.long q1_2), (.int (19 : Int32)), (.ref a1_0)])) _
    refine XS.lushr X6.here hx rfl (hb hby d1_38) rfl ?_
    show Steps p.tables e below (T6.setTop (mkF m 39 #[.val (.ref a1_0), .val (.int (16 : Int32)), .val (.long q1_2), .second] [(.long ((q1_2.toUInt64 >>> ((32 : Int32) &&& 0x3f).toInt64.toUInt64).toInt64)), (.int (19 : Int32)), (.ref a1_0)])) _
    refine XS.l2i X6.here hx rfl (hb hby d1_39) rfl ?_
    show Steps p.tables e below (T6.setTop (mkF m 40 #[.val (.ref a1_0), .val (.int (16 : Int32)), .val (.long q1_2), .second] [(.int (((q1_2.toUInt64 >>> ((32 : Int32) &&& 0x3f).toInt64.toUInt64).toInt64).toInt32)), (.int (19 : Int32)), (.ref a1_0)])) _
    refine XS.i2b X6.here hx rfl (hb hby d1_40) rfl ?_
    show Steps p.tables e below (T6.setTop (mkF m 41 #[.val (.ref a1_0), .val (.int (16 : Int32)), .val (.long q1_2), .second] [(.int ((((q1_2.toUInt64 >>> ((32 : Int32) &&& 0x3f).toInt64.toUInt64).toInt64).toInt32).toInt8.toInt32)), (.int (19 : Int32)), (.ref a1_0)])) _
    refine st8 _ ?_
    show Steps p.tables e below (T8.setTop (mkF m 42 #[.val (.ref a1_0), .val (.int (16 : Int32)), .val (.long q1_2), .second] [])) _
    refine XS.aloadN X8.here hx rfl (hb hby d1_42) rfl rfl ?_
    show Steps p.tables e below (T8.setTop (mkF m 43 #[.val (.ref a1_0), .val (.int (16 : Int32)), .val (.long q1_2), .second] [(.ref a1_0)])) _
    refine XS.iloadN X8.here hx rfl (hb hby d1_43) rfl ?_
    show Steps p.tables e below (T8.setTop (mkF m 44 #[.val (.ref a1_0), .val (.int (16 : Int32)), .val (.long q1_2), .second] [(.int (16 : Int32)), (.ref a1_0)])) _
    refine XS.iconst X8.here hx rfl (hb hby d1_44) ?_
    show Steps p.tables e below (T8.setTop (mkF m 45 #[.val (.ref a1_0), .val (.int (16 : Int32)), .val (.long q1_2), .second] [(.int (4 : Int32)), (.int (16 : Int32)), (.ref a1_0)])) _
    refine XS.iadd X8.here hx rfl (hb hby d1_45) rfl ?_
    show Steps p.tables e below (T8.setTop (mkF m 46 #[.val (.ref a1_0), .val (.int (16 : Int32)), .val (.long q1_2), .second] [(.int (20 : Int32)), (.ref a1_0)])) _
    refine XS.lloadN X8.here hx rfl (hb hby d1_46) rfl ?_
    show Steps p.tables e below (T8.setTop (mkF m 47 #[.val (.ref a1_0), .val (.int (16 : Int32)), .val (.long q1_2), .second] [(.long q1_2), (.int (20 : Int32)), (.ref a1_0)])) _
    refine XS.bipush X8.here hx rfl (hb hby d1_47) ?_
    show Steps p.tables e below (T8.setTop (mkF m 49 #[.val (.ref a1_0), .val (.int (16 : Int32)), .val (.long q1_2), .second] [(.int (24 : Int32)), (.long q1_2), (.int (20 : Int32)), (.ref a1_0)])) _
    refine XS.lushr X8.here hx rfl (hb hby d1_49) rfl ?_
    show Steps p.tables e below (T8.setTop (mkF m 50 #[.val (.ref a1_0), .val (.int (16 : Int32)), .val (.long q1_2), .second] [(.long ((q1_2.toUInt64 >>> ((24 : Int32) &&& 0x3f).toInt64.toUInt64).toInt64)), (.int (20 : Int32)), (.ref a1_0)])) _
    refine XS.l2i X8.here hx rfl (hb hby d1_50) rfl ?_
    show Steps p.tables e below (T8.setTop (mkF m 51 #[.val (.ref a1_0), .val (.int (16 : Int32)), .val (.long q1_2), .second] [(.int (((q1_2.toUInt64 >>> ((24 : Int32) &&& 0x3f).toInt64.toUInt64).toInt64).toInt32)), (.int (20 : Int32)), (.ref a1_0)])) _
    refine XS.i2b X8.here hx rfl (hb hby d1_51) rfl ?_
    show Steps p.tables e below (T8.setTop (mkF m 52 #[.val (.ref a1_0), .val (.int (16 : Int32)), .val (.long q1_2), .second] [(.int ((((q1_2.toUInt64 >>> ((24 : Int32) &&& 0x3f).toInt64.toUInt64).toInt64).toInt32).toInt8.toInt32)), (.int (20 : Int32)), (.ref a1_0)])) _
    refine st10 _ ?_
    show Steps p.tables e below (T10.setTop (mkF m 53 #[.val (.ref a1_0), .val (.int (16 : Int32)), .val (.long q1_2), .second] [])) _
    refine XS.aloadN X10.here hx rfl (hb hby d1_53) rfl rfl ?_
    show Steps p.tables e below (T10.setTop (mkF m 54 #[.val (.ref a1_0), .val (.int (16 : Int32)), .val (.long q1_2), .second] [(.ref a1_0)])) _
    refine XS.iloadN X10.here hx rfl (hb hby d1_54) rfl ?_
    show Steps p.tables e below (T10.setTop (mkF m 55 #[.val (.ref a1_0), .val (.int (16 : Int32)), .val (.long q1_2), .second] [(.int (16 : Int32)), (.ref a1_0)])) _
    refine XS.iconst X10.here hx rfl (hb hby d1_55) ?_
    show Steps p.tables e below (T10.setTop (mkF m 56 #[.val (.ref a1_0), .val (.int (16 : Int32)), .val (.long q1_2), .second] [(.int (5 : Int32)), (.int (16 : Int32)), (.ref a1_0)])) _
    refine XS.iadd X10.here hx rfl (hb hby d1_56) rfl ?_
    show Steps p.tables e below (T10.setTop (mkF m 57 #[.val (.ref a1_0), .val (.int (16 : Int32)), .val (.long q1_2), .second] [(.int (21 : Int32)), (.ref a1_0)])) _
    refine XS.lloadN X10.here hx rfl (hb hby d1_57) rfl ?_
    show Steps p.tables e below (T10.setTop (mkF m 58 #[.val (.ref a1_0), .val (.int (16 : Int32)), .val (.long q1_2), .second] [(.long q1_2), (.int (21 : Int32)), (.ref a1_0)])) _
    refine XS.bipush X10.here hx rfl (hb hby d1_58) ?_
    show Steps p.tables e below (T10.setTop (mkF m 60 #[.val (.ref a1_0), .val (.int (16 : Int32)), .val (.long q1_2), .second] [(.int (16 : Int32)), (.long q1_2), (.int (21 : Int32)), (.ref a1_0)])) _
    refine XS.lushr X10.here hx rfl (hb hby d1_60) rfl ?_
    show Steps p.tables e below (T10.setTop (mkF m 61 #[.val (.ref a1_0), .val (.int (16 : Int32)), .val (.long q1_2), .second] [(.long ((q1_2.toUInt64 >>> ((16 : Int32) &&& 0x3f).toInt64.toUInt64).toInt64)), (.int (21 : Int32)), (.ref a1_0)])) _
    refine XS.l2i X10.here hx rfl (hb hby d1_61) rfl ?_
    show Steps p.tables e below (T10.setTop (mkF m 62 #[.val (.ref a1_0), .val (.int (16 : Int32)), .val (.long q1_2), .second] [(.int (((q1_2.toUInt64 >>> ((16 : Int32) &&& 0x3f).toInt64.toUInt64).toInt64).toInt32)), (.int (21 : Int32)), (.ref a1_0)])) _
    refine XS.i2b X10.here hx rfl (hb hby d1_62) rfl ?_
    show Steps p.tables e below (T10.setTop (mkF m 63 #[.val (.ref a1_0), .val (.int (16 : Int32)), .val (.long q1_2), .second] [(.int ((((q1_2.toUInt64 >>> ((16 : Int32) &&& 0x3f).toInt64.toUInt64).toInt64).toInt32).toInt8.toInt32)), (.int (21 : Int32)), (.ref a1_0)])) _
    refine st12 _ ?_
    show Steps p.tables e below (T12.setTop (mkF m 64 #[.val (.ref a1_0), .val (.int (16 : Int32)), .val (.long q1_2), .second] [])) _
    refine XS.aloadN X12.here hx rfl (hb hby d1_64) rfl rfl ?_
    show Steps p.tables e below (T12.setTop (mkF m 65 #[.val (.ref a1_0), .val (.int (16 : Int32)), .val (.long q1_2), .second] [(.ref a1_0)])) _
    refine XS.iloadN X12.here hx rfl (hb hby d1_65) rfl ?_
    show Steps p.tables e below (T12.setTop (mkF m 66 #[.val (.ref a1_0), .val (.int (16 : Int32)), .val (.long q1_2), .second] [(.int (16 : Int32)), (.ref a1_0)])) _
    refine XS.bipush X12.here hx rfl (hb hby d1_66) ?_
    show Steps p.tables e below (T12.setTop (mkF m 68 #[.val (.ref a1_0), .val (.int (16 : Int32)), .val (.long q1_2), .second] [(.int (6 : Int32)), (.int (16 : Int32)), (.ref a1_0)])) _
    refine XS.iadd X12.here hx rfl (hb hby d1_68) rfl ?_
    show Steps p.tables e below (T12.setTop (mkF m 69 #[.val (.ref a1_0), .val (.int (16 : Int32)), .val (.long q1_2), .second] [(.int (22 : Int32)), (.ref a1_0)])) _
    refine XS.lloadN X12.here hx rfl (hb hby d1_69) rfl ?_
    show Steps p.tables e below (T12.setTop (mkF m 70 #[.val (.ref a1_0), .val (.int (16 : Int32)), .val (.long q1_2), .second] [(.long q1_2), (.int (22 : Int32)), (.ref a1_0)])) _
    refine XS.bipush X12.here hx rfl (hb hby d1_70) ?_
    show Steps p.tables e below (T12.setTop (mkF m 72 #[.val (.ref a1_0), .val (.int (16 : Int32)), .val (.long q1_2), .second] [(.int (8 : Int32)), (.long q1_2), (.int (22 : Int32)), (.ref a1_0)])) _
    refine XS.lushr X12.here hx rfl (hb hby d1_72) rfl ?_
    show Steps p.tables e below (T12.setTop (mkF m 73 #[.val (.ref a1_0), .val (.int (16 : Int32)), .val (.long q1_2), .second] [(.long ((q1_2.toUInt64 >>> ((8 : Int32) &&& 0x3f).toInt64.toUInt64).toInt64)), (.int (22 : Int32)), (.ref a1_0)])) _
    refine XS.l2i X12.here hx rfl (hb hby d1_73) rfl ?_
    show Steps p.tables e below (T12.setTop (mkF m 74 #[.val (.ref a1_0), .val (.int (16 : Int32)), .val (.long q1_2), .second] [(.int (((q1_2.toUInt64 >>> ((8 : Int32) &&& 0x3f).toInt64.toUInt64).toInt64).toInt32)), (.int (22 : Int32)), (.ref a1_0)])) _
    refine XS.i2b X12.here hx rfl (hb hby d1_74) rfl ?_
    show Steps p.tables e below (T12.setTop (mkF m 75 #[.val (.ref a1_0), .val (.int (16 : Int32)), .val (.long q1_2), .second] [(.int ((((q1_2.toUInt64 >>> ((8 : Int32) &&& 0x3f).toInt64.toUInt64).toInt64).toInt32).toInt8.toInt32)), (.int (22 : Int32)), (.ref a1_0)])) _
    refine st14 _ ?_
    show Steps p.tables e below (T14.setTop (mkF m 76 #[.val (.ref a1_0), .val (.int (16 : Int32)), .val (.long q1_2), .second] [])) _
    refine XS.aloadN X14.here hx rfl (hb hby d1_76) rfl rfl ?_
    show Steps p.tables e below (T14.setTop (mkF m 77 #[.val (.ref a1_0), .val (.int (16 : Int32)), .val (.long q1_2), .second] [(.ref a1_0)])) _
    refine XS.iloadN X14.here hx rfl (hb hby d1_77) rfl ?_
    show Steps p.tables e below (T14.setTop (mkF m 78 #[.val (.ref a1_0), .val (.int (16 : Int32)), .val (.long q1_2), .second] [(.int (16 : Int32)), (.ref a1_0)])) _
    refine XS.bipush X14.here hx rfl (hb hby d1_78) ?_
    show Steps p.tables e below (T14.setTop (mkF m 80 #[.val (.ref a1_0), .val (.int (16 : Int32)), .val (.long q1_2), .second] [(.int (7 : Int32)), (.int (16 : Int32)), (.ref a1_0)])) _
    refine XS.iadd X14.here hx rfl (hb hby d1_80) rfl ?_
    show Steps p.tables e below (T14.setTop (mkF m 81 #[.val (.ref a1_0), .val (.int (16 : Int32)), .val (.long q1_2), .second] [(.int (23 : Int32)), (.ref a1_0)])) _
    refine XS.lloadN X14.here hx rfl (hb hby d1_81) rfl ?_
    show Steps p.tables e below (T14.setTop (mkF m 82 #[.val (.ref a1_0), .val (.int (16 : Int32)), .val (.long q1_2), .second] [(.long q1_2), (.int (23 : Int32)), (.ref a1_0)])) _
    refine XS.l2i X14.here hx rfl (hb hby d1_82) rfl ?_
    show Steps p.tables e below (T14.setTop (mkF m 83 #[.val (.ref a1_0), .val (.int (16 : Int32)), .val (.long q1_2), .second] [(.int (q1_2.toInt32)), (.int (23 : Int32)), (.ref a1_0)])) _
    refine XS.i2b X14.here hx rfl (hb hby d1_83) rfl ?_
    show Steps p.tables e below (T14.setTop (mkF m 84 #[.val (.ref a1_0), .val (.int (16 : Int32)), .val (.long q1_2), .second] [(.int ((q1_2.toInt32).toInt8.toInt32)), (.int (23 : Int32)), (.ref a1_0)])) _
    refine st16 _ ?_
    show Steps p.tables e below (T16.setTop (mkF m 85 #[.val (.ref a1_0), .val (.int (16 : Int32)), .val (.long q1_2), .second] [])) _
    exact X16.returnOut hx Bd.returns (hb hby d1_85) hr
  · show Q_rm1_3 Z a1_0 q1_2 kc_a1_0 t_a1_0_0 t_a1_0_1 t_a1_0_2 t_a1_0_3 t_a1_0_4 t_a1_0_5 t_a1_0_6 t_a1_0_7 t_a1_0_8 t_a1_0_9 t_a1_0_10 t_a1_0_11 t_a1_0_12 t_a1_0_13 t_a1_0_14 t_a1_0_15 t_a1_0_16 t_a1_0_17 t_a1_0_18 t_a1_0_19 t_a1_0_20 t_a1_0_21 t_a1_0_22 t_a1_0_23 h0 n0 _ T16.heap _
    rw [e16]
    exact ⟨rfl, N16, K16, V16⟩
theorem d2_0 : decode prog_11_method_1_code 0 = .ok (.aload_n 0, 1) := by decide +kernel
theorem d2_1 : decode prog_11_method_1_code 1 = .ok (.invokespecial 1, 3) := by decide +kernel
theorem d2_4 : decode prog_11_method_1_code 4 = .ok (.aload_n 0, 1) := by decide +kernel
theorem d2_5 : decode prog_11_method_1_code 5 = .ok (.aload_n 1, 1) := by decide +kernel
theorem d2_6 : decode prog_11_method_1_code 6 = .ok (.putfield 7, 3) := by decide +kernel
theorem d2_9 : decode prog_11_method_1_code 9 = .ok (.return_, 1) := by decide +kernel
theorem pn_2 : plainName "com/example/telemetree/telemetree/storage/BitReader" = true := by first | (simp [plainName, overriddenIn]; done) | decide +kernel
theorem ef_rm2_1 (m : MethodId) (y0 : Addr) (y1 : Addr) : entryFrame m #[(.ref y0), (.ref y1)] 2 = mkF m 0 #[.val (.ref y0), .val (.ref y1)] [] := by first | (simp [entryFrame, mkF, argsToLocals, Value.category]; done) | rfl
def Q_rm2_1 (Z : State) (a2_0 : Addr) (a2_1 : Addr) (kc_a2_1 : ClassId) (t_a2_1_0 : Int32) (t_a2_1_1 : Int32) (t_a2_1_2 : Int32) (t_a2_1_3 : Int32) (t_a2_1_4 : Int32) (t_a2_1_5 : Int32) (t_a2_1_6 : Int32) (t_a2_1_7 : Int32) (t_a2_1_8 : Int32) (t_a2_1_9 : Int32) (t_a2_1_10 : Int32) (t_a2_1_11 : Int32) (t_a2_1_12 : Int32) (t_a2_1_13 : Int32) (t_a2_1_14 : Int32) (t_a2_1_15 : Int32) (t_a2_1_16 : Int32) (t_a2_1_17 : Int32) (t_a2_1_18 : Int32) (t_a2_1_19 : Int32) (t_a2_1_20 : Int32) (t_a2_1_21 : Int32) (t_a2_1_22 : Int32) (t_a2_1_23 : Int32) (h0 : Heap) (n0 : Nat) (v : Option Value) (h : Heap) (L : List Loc) : Prop := v = none ∧ Fr n0 L ∧ Keep h0 h [a2_0] ∧ Exa Z h a2_0 "com/example/telemetree/telemetree/storage/BitReader" ∧ Fld Z h a2_0 "com/example/telemetree/telemetree/storage/BitReader" "bytes" "[B" (.ref a2_1) ∧ Fld Z h a2_0 "com/example/telemetree/telemetree/storage/BitReader" "position" "J" (.long (0 : Int64))
set_option maxRecDepth 65536 in
set_option maxHeartbeats 40000000 in
theorem rm2_1 (l : Launch) (Z : State) (a0 : Array Value) (hw : ∀ d ∈ tables_1, d.before a0 Z = true) (ws : List Jvm.Cond) (a2_0 : Addr) (a2_1 : Addr) (kc_a2_1 : ClassId) (t_a2_1_0 : Int32) (t_a2_1_1 : Int32) (t_a2_1_2 : Int32) (t_a2_1_3 : Int32) (t_a2_1_4 : Int32) (t_a2_1_5 : Int32) (t_a2_1_6 : Int32) (t_a2_1_7 : Int32) (t_a2_1_8 : Int32) (t_a2_1_9 : Int32) (t_a2_1_10 : Int32) (t_a2_1_11 : Int32) (t_a2_1_12 : Int32) (t_a2_1_13 : Int32) (t_a2_1_14 : Int32) (t_a2_1_15 : Int32) (t_a2_1_16 : Int32) (t_a2_1_17 : Int32) (t_a2_1_18 : Int32) (t_a2_1_19 : Int32) (t_a2_1_20 : Int32) (t_a2_1_21 : Int32) (t_a2_1_22 : Int32) (t_a2_1_23 : Int32) (h0 : Heap) (n0 : Nat) (Z0 : n0 ≤ h0.size) (E_a2_0 : Exa Z h0 a2_0 "com/example/telemetree/telemetree/storage/BitReader") (F_bytes_a2_0 : Fld Z h0 a2_0 "com/example/telemetree/telemetree/storage/BitReader" "bytes" "[B" .null) (F_position_a2_0 : Fld Z h0 a2_0 "com/example/telemetree/telemetree/storage/BitReader" "position" "J" (.long (0 : Int64))) (V_a2_1 : Arv Z h0 a2_1 kc_a2_1 .byte (24 : Int32) [(.int t_a2_1_0), (.int t_a2_1_1), (.int t_a2_1_2), (.int t_a2_1_3), (.int t_a2_1_4), (.int t_a2_1_5), (.int t_a2_1_6), (.int t_a2_1_7), (.int t_a2_1_8), (.int t_a2_1_9), (.int t_a2_1_10), (.int t_a2_1_11), (.int t_a2_1_12), (.int t_a2_1_13), (.int t_a2_1_14), (.int t_a2_1_15), (.int t_a2_1_16), (.int t_a2_1_17), (.int t_a2_1_18), (.int t_a2_1_19), (.int t_a2_1_20), (.int t_a2_1_21), (.int t_a2_1_22), (.int t_a2_1_23)] (.int (0 : Int32))) (g_a2_0 : n0 ≤ a2_0) :
    MetFree l (⟨"com/example/telemetree/telemetree/storage/BitReader", "<init>", "([B)V"⟩ : MethodName) (head1 (Jvm.Cond.code (⟨"com/example/telemetree/telemetree/storage/BitReader", "<init>", "([B)V"⟩ : MethodName) prog_11_method_1_code 2 none :: ws) ({ frames := 1, cells := 0, slots := 0, locals := 12 } : Room)) (fun a U => a = #[(.ref a2_0), (.ref a2_1)] ∧ Z.Warmed39 U.vm ∧ U.heap = h0) (fun _ _ _ _ _ => True) (fun _ U o U' => ∃ v L, o = .returned v ∧ Q_rm2_1 Z a2_0 a2_1 kc_a2_1 t_a2_1_0 t_a2_1_1 t_a2_1_2 t_a2_1_3 t_a2_1_4 t_a2_1_5 t_a2_1_6 t_a2_1_7 t_a2_1_8 t_a2_1_9 t_a2_1_10 t_a2_1_11 t_a2_1_12 t_a2_1_13 t_a2_1_14 t_a2_1_15 t_a2_1_16 t_a2_1_17 t_a2_1_18 t_a2_1_19 t_a2_1_20 t_a2_1_21 t_a2_1_22 t_a2_1_23 h0 n0 v U'.heap L ∧ FrameEnd U o U' L ({ frames := 1, cells := 0, slots := 0, locals := 12 } : Room).cells ({ frames := 1, cells := 0, slots := 0, locals := 12 } : Room).slots) := by
  refine MetFree.of_bodySF (plainFor_of_name pn_2) hisR ?_
  intro p e s m args below meth c s₁ Bd hml0 hP hK
  obtain ⟨rfl, hZ, hh⟩ := hP
  have hx := Bd.exec
  have hby := Bd.bytes
  have hml : c.maxLocals = 2 := hml0
  have hown : s.vm.findClass "com/example/telemetree/telemetree/storage/BitReader" = some m.cls := findClass_of_methodNamed Bd.named
  have hnm := (name_of_methodNamed Bd.named Bd.method).1
  have X0 : Stand p l e ({ frames := 1, cells := 0, slots := 0, locals := 12 } : Room) s m #[(.ref a2_0), (.ref a2_1)] below meth c s₁ [] 0 0 := Stand.of_body Bd
  have e0 : s₁.heap = h0 := by rw [← hh, Bd.state]; rfl
  have N0 := Fr.nil n0
  have pre0 : ∀ t, Steps p.tables e below (s₁.setTop (mkF m 0 #[.val (.ref a2_0), .val (.ref a2_1)] [])) t → Steps p.tables e below (s₁.setTop (entryFrame m #[(.ref a2_0), (.ref a2_1)] 2)) t := fun t k => castTop (ef_rm2_1 m a2_0 a2_1) k
  obtain ⟨T1, X1, e1, st1⟩ := initO X0 hx hZ hown (ow13 hw) (ow14 hw) (ow15 hw) e0 (g := (mkF m 1 #[.val (.ref a2_0), .val (.ref a2_1)] [(.ref a2_0)])) rfl (by rw [hml]; rfl) rfl (hb hby d2_1) (by decide) (W := 0) (by show 2 * 0 + _ ≤ _; exact Nat.le_of_eq rfl) (by decide)
  obtain ⟨T2, h2, X2, e2, W2, st2⟩ := putF X1 hx hZ hown (host := "") (Or.inl (ow16 hw)) Via.refl e1 F_bytes_a2_0 E_a2_0 (Or.inr ⟨(ow17 hw), rfl, hnm⟩) (ow8 hw) (ty := (.array .byte)) (by decide) rfl rfl (g := (mkF m 6 #[.val (.ref a2_0), .val (.ref a2_1)] [(.ref a2_1), (.ref a2_0)])) rfl rfl (hb hby d2_6)
  have F2 := F_bytes_a2_0.same W2
  have K2 : Keep h0 h2 [a2_0] := (Keep.refl h0 [a2_0]).wr W2 (Or.inl (List.mem_of_getElem? (i := 0) rfl))
  have Z2 : n0 ≤ h2.size := Nat.le_trans Z0 K2.1
  have N2 := Fr.snoc X2 N0 g_a2_0
  obtain ⟨fs, hr, hrun, hended, hW, hsame⟩ := X2.leave (v := none) (fun _ => rfl)
  refine ⟨_, _, pre0 _ ?_, hrun, hended, _, _, rfl, ?_, ⟨_, rfl⟩, hW, hsame.mono (by decide) (by decide)⟩
  · show Steps p.tables e below (s₁.setTop (mkF m 0 #[.val (.ref a2_0), .val (.ref a2_1)] [])) _
    refine XS.aloadN X0.here hx rfl (hb hby d2_0) rfl rfl ?_
    show Steps p.tables e below (s₁.setTop (mkF m 1 #[.val (.ref a2_0), .val (.ref a2_1)] [(.ref a2_0)])) _
    refine st1 _ ?_
    show Steps p.tables e below (T1.setTop (mkF m 4 #[.val (.ref a2_0), .val (.ref a2_1)] [])) _
    refine XS.aloadN X1.here hx rfl (hb hby d2_4) rfl rfl ?_
    show Steps p.tables e below (T1.setTop (mkF m 5 #[.val (.ref a2_0), .val (.ref a2_1)] [(.ref a2_0)])) _
    refine XS.aloadN X1.here hx rfl (hb hby d2_5) rfl rfl ?_
    show Steps p.tables e below (T1.setTop (mkF m 6 #[.val (.ref a2_0), .val (.ref a2_1)] [(.ref a2_1), (.ref a2_0)])) _
    refine st2 _ ?_
    show Steps p.tables e below (T2.setTop (mkF m 9 #[.val (.ref a2_0), .val (.ref a2_1)] [])) _
    exact X2.returnOut hx Bd.returns (hb hby d2_9) hr
  · have f3 := (E_a2_0.wr W2)
    have f4 := (F_position_a2_0.other W2 (Or.inr (slot_ne (Or.inl (ow24 hw)) (Or.inr (ow17 hw)) (by decide) (t := .long) (t' := (.array .byte)) (by decide) (by decide))))
    show Q_rm2_1 Z a2_0 a2_1 kc_a2_1 t_a2_1_0 t_a2_1_1 t_a2_1_2 t_a2_1_3 t_a2_1_4 t_a2_1_5 t_a2_1_6 t_a2_1_7 t_a2_1_8 t_a2_1_9 t_a2_1_10 t_a2_1_11 t_a2_1_12 t_a2_1_13 t_a2_1_14 t_a2_1_15 t_a2_1_16 t_a2_1_17 t_a2_1_18 t_a2_1_19 t_a2_1_20 t_a2_1_21 t_a2_1_22 t_a2_1_23 h0 n0 _ T2.heap _
    rw [e2]
    exact ⟨rfl, N2, K2, f3, F2, f4⟩
theorem pd___B_V : parseMethodDescriptor "([B)V" = some ⟨[(.array .byte)], none⟩ := by decide +kernel
theorem pd__I_J : parseMethodDescriptor "(I)J" = some ⟨[.int], some .long⟩ := by decide +kernel
theorem pd___JII_J : parseMethodDescriptor "([JII)J" = some ⟨[(.array .long), .int, .int], some .long⟩ := by decide +kernel
theorem own_fin (q0_0 : Int64) (q0_1 : Int64) (q0_2 : Int64) (p0_3 : Int32) (p0_4 : Int32) (p0_5 : Int32) (x2 : Int32) (hx2 : x2 = ((p0_3 &&& (2147483647 : Int32)) % (65 : Int32))) (x4 : Int32) (hx4 : x4 = ((p0_4 &&& (2147483647 : Int32)) % (65 : Int32))) (x6 : Int32) (hx6 : x6 = ((p0_5 &&& (2147483647 : Int32)) % (65 : Int32))) (y11 : Int32) (hy11 : y11 = (nar .byte ((((q0_0.toUInt64 >>> ((56 : Int32) &&& 0x3f).toInt64.toUInt64).toInt64).toInt32).toInt8.toInt32))) (y12 : Int32) (hy12 : y12 = (nar .byte ((((q0_0.toUInt64 >>> ((48 : Int32) &&& 0x3f).toInt64.toUInt64).toInt64).toInt32).toInt8.toInt32))) (y13 : Int32) (hy13 : y13 = (nar .byte ((((q0_0.toUInt64 >>> ((40 : Int32) &&& 0x3f).toInt64.toUInt64).toInt64).toInt32).toInt8.toInt32))) (y14 : Int32) (hy14 : y14 = (nar .byte ((((q0_0.toUInt64 >>> ((32 : Int32) &&& 0x3f).toInt64.toUInt64).toInt64).toInt32).toInt8.toInt32))) (y15 : Int32) (hy15 : y15 = (nar .byte ((((q0_0.toUInt64 >>> ((24 : Int32) &&& 0x3f).toInt64.toUInt64).toInt64).toInt32).toInt8.toInt32))) (y16 : Int32) (hy16 : y16 = (nar .byte ((((q0_0.toUInt64 >>> ((16 : Int32) &&& 0x3f).toInt64.toUInt64).toInt64).toInt32).toInt8.toInt32))) (y17 : Int32) (hy17 : y17 = (nar .byte ((((q0_0.toUInt64 >>> ((8 : Int32) &&& 0x3f).toInt64.toUInt64).toInt64).toInt32).toInt8.toInt32))) (y18 : Int32) (hy18 : y18 = (nar .byte ((q0_0.toInt32).toInt8.toInt32))) (y20 : Int32) (hy20 : y20 = (nar .byte ((((q0_1.toUInt64 >>> ((56 : Int32) &&& 0x3f).toInt64.toUInt64).toInt64).toInt32).toInt8.toInt32))) (y21 : Int32) (hy21 : y21 = (nar .byte ((((q0_1.toUInt64 >>> ((48 : Int32) &&& 0x3f).toInt64.toUInt64).toInt64).toInt32).toInt8.toInt32))) (y22 : Int32) (hy22 : y22 = (nar .byte ((((q0_1.toUInt64 >>> ((40 : Int32) &&& 0x3f).toInt64.toUInt64).toInt64).toInt32).toInt8.toInt32))) (y23 : Int32) (hy23 : y23 = (nar .byte ((((q0_1.toUInt64 >>> ((32 : Int32) &&& 0x3f).toInt64.toUInt64).toInt64).toInt32).toInt8.toInt32))) (y24 : Int32) (hy24 : y24 = (nar .byte ((((q0_1.toUInt64 >>> ((24 : Int32) &&& 0x3f).toInt64.toUInt64).toInt64).toInt32).toInt8.toInt32))) (y25 : Int32) (hy25 : y25 = (nar .byte ((((q0_1.toUInt64 >>> ((16 : Int32) &&& 0x3f).toInt64.toUInt64).toInt64).toInt32).toInt8.toInt32))) (y26 : Int32) (hy26 : y26 = (nar .byte ((((q0_1.toUInt64 >>> ((8 : Int32) &&& 0x3f).toInt64.toUInt64).toInt64).toInt32).toInt8.toInt32))) (y27 : Int32) (hy27 : y27 = (nar .byte ((q0_1.toInt32).toInt8.toInt32))) (y29 : Int32) (hy29 : y29 = (nar .byte ((((q0_2.toUInt64 >>> ((56 : Int32) &&& 0x3f).toInt64.toUInt64).toInt64).toInt32).toInt8.toInt32))) (y30 : Int32) (hy30 : y30 = (nar .byte ((((q0_2.toUInt64 >>> ((48 : Int32) &&& 0x3f).toInt64.toUInt64).toInt64).toInt32).toInt8.toInt32))) (y31 : Int32) (hy31 : y31 = (nar .byte ((((q0_2.toUInt64 >>> ((40 : Int32) &&& 0x3f).toInt64.toUInt64).toInt64).toInt32).toInt8.toInt32))) (y32 : Int32) (hy32 : y32 = (nar .byte ((((q0_2.toUInt64 >>> ((32 : Int32) &&& 0x3f).toInt64.toUInt64).toInt64).toInt32).toInt8.toInt32))) (y33 : Int32) (hy33 : y33 = (nar .byte ((((q0_2.toUInt64 >>> ((24 : Int32) &&& 0x3f).toInt64.toUInt64).toInt64).toInt32).toInt8.toInt32))) (y34 : Int32) (hy34 : y34 = (nar .byte ((((q0_2.toUInt64 >>> ((16 : Int32) &&& 0x3f).toInt64.toUInt64).toInt64).toInt32).toInt8.toInt32))) (y35 : Int32) (hy35 : y35 = (nar .byte ((((q0_2.toUInt64 >>> ((8 : Int32) &&& 0x3f).toInt64.toUInt64).toInt64).toInt32).toInt8.toInt32))) (y36 : Int32) (hy36 : y36 = (nar .byte ((q0_2.toInt32).toInt8.toInt32))) (f53 : Int32 → Int32) (hf53 : f53 = (fun i => ([y11, y12, y13, y14, y15, y16, y17, y18, y20, y21, y22, y23, y24, y25, y26, y27, y29, y30, y31, y32, y33, y34, y35, y36] : List Int32).getD i.toNatClampNeg 0)) (y55 : Int64) (hy55 : y55 = (own_rd f53 64 (0 : Int64) x2 (0 : Int64)).2) (x56 : Int64) (hx56 : x56 = (own_rd f53 64 (0 : Int64) x2 (0 : Int64)).1) (y60 : Int64) (hy60 : y60 = (own_rd f53 64 y55 x4 (0 : Int64)).2) (x61 : Int64) (hx61 : x61 = (own_rd f53 64 y55 x4 (0 : Int64)).1) (y65 : Int64) (hy65 : y65 = (own_rd f53 64 y60 x6 (0 : Int64)).2) (x66 : Int64) (hx66 : x66 = (own_rd f53 64 y60 x6 (0 : Int64)).1) (x70 : Int64) (hx70 : x70 = (if x2 = (0 : Int32) then (0 : Int64) else (((if ((0 : Int32) &&& (63 : Int32)) = (0 : Int32) then (own_w4 q0_0 q0_1 q0_2 (0 : Int64) (((0 : Int32).toUInt32 >>> ((6 : Int32) &&& 31).toUInt32).toInt32)) else (((own_w4 q0_0 q0_1 q0_2 (0 : Int64) (((0 : Int32).toUInt32 >>> ((6 : Int32) &&& 31).toUInt32).toInt32)) <<< (((0 : Int32) &&& (63 : Int32)) &&& 0x3f).toInt64) ||| (((own_w4 q0_0 q0_1 q0_2 (0 : Int64) ((((0 : Int32).toUInt32 >>> ((6 : Int32) &&& 31).toUInt32).toInt32) + (1 : Int32))).toUInt64 >>> (((64 : Int32) - ((0 : Int32) &&& (63 : Int32))) &&& 0x3f).toInt64.toUInt64).toInt64))).toUInt64 >>> (((64 : Int32) - x2) &&& 0x3f).toInt64.toUInt64).toInt64))) (v79 : Int32) (hv79 : v79 = (if x56 = x70 then (if x61 = (if x4 = (0 : Int32) then (0 : Int64) else (((if (x2 &&& (63 : Int32)) = (0 : Int32) then (own_w4 q0_0 q0_1 q0_2 (0 : Int64) ((x2.toUInt32 >>> ((6 : Int32) &&& 31).toUInt32).toInt32)) else (((own_w4 q0_0 q0_1 q0_2 (0 : Int64) ((x2.toUInt32 >>> ((6 : Int32) &&& 31).toUInt32).toInt32)) <<< ((x2 &&& (63 : Int32)) &&& 0x3f).toInt64) ||| (((own_w4 q0_0 q0_1 q0_2 (0 : Int64) (((x2.toUInt32 >>> ((6 : Int32) &&& 31).toUInt32).toInt32) + (1 : Int32))).toUInt64 >>> (((64 : Int32) - (x2 &&& (63 : Int32))) &&& 0x3f).toInt64.toUInt64).toInt64))).toUInt64 >>> (((64 : Int32) - x4) &&& 0x3f).toInt64.toUInt64).toInt64)) then (if x66 = (if x6 = (0 : Int32) then (0 : Int64) else (((if ((x2 + x4) &&& (63 : Int32)) = (0 : Int32) then (own_w4 q0_0 q0_1 q0_2 (0 : Int64) (((x2 + x4).toUInt32 >>> ((6 : Int32) &&& 31).toUInt32).toInt32)) else (((own_w4 q0_0 q0_1 q0_2 (0 : Int64) (((x2 + x4).toUInt32 >>> ((6 : Int32) &&& 31).toUInt32).toInt32)) <<< (((x2 + x4) &&& (63 : Int32)) &&& 0x3f).toInt64) ||| (((own_w4 q0_0 q0_1 q0_2 (0 : Int64) ((((x2 + x4).toUInt32 >>> ((6 : Int32) &&& 31).toUInt32).toInt32) + (1 : Int32))).toUInt64 >>> (((64 : Int32) - ((x2 + x4) &&& (63 : Int32))) &&& 0x3f).toInt64.toUInt64).toInt64))).toUInt64 >>> (((64 : Int32) - x6) &&& 0x3f).toInt64.toUInt64).toInt64)) then (1 : Int32) else (0 : Int32)) else (0 : Int32)) else (0 : Int32))) : v79 = (1 : Int32) := by
  have la := own_U_lt q0_0
  have lb := own_U_lt q0_1
  have ld := own_U_lt q0_2
  have hf : ∀ j : Nat, j < 24 → (f53 (Int32.ofNat j)).toInt % 256 = ((own_bits (own_N q0_0 q0_1 q0_2) (8 * j) 8 : Nat) : Int) := by
    intro j hj
    rw [hf53]
    match j, hj with
    | 0, _ =>
      show y11.toInt % 256 = _
      rw [hy11, own_by q0_0 (56 : Int32) 56 (by decide) (by decide)]
      show ((own_U q0_0 / 2 ^ 56 % 256 : Nat) : Int) = (((own_U q0_0 * 2 ^ 128 + own_U q0_1 * 2 ^ 64 + own_U q0_2) / 2 ^ 184 % 2 ^ 8 : Nat) : Int)
      omega
    | 1, _ =>
      show y12.toInt % 256 = _
      rw [hy12, own_by q0_0 (48 : Int32) 48 (by decide) (by decide)]
      show ((own_U q0_0 / 2 ^ 48 % 256 : Nat) : Int) = (((own_U q0_0 * 2 ^ 128 + own_U q0_1 * 2 ^ 64 + own_U q0_2) / 2 ^ 176 % 2 ^ 8 : Nat) : Int)
      omega
    | 2, _ =>
      show y13.toInt % 256 = _
      rw [hy13, own_by q0_0 (40 : Int32) 40 (by decide) (by decide)]
      show ((own_U q0_0 / 2 ^ 40 % 256 : Nat) : Int) = (((own_U q0_0 * 2 ^ 128 + own_U q0_1 * 2 ^ 64 + own_U q0_2) / 2 ^ 168 % 2 ^ 8 : Nat) : Int)
      omega
    | 3, _ =>
      show y14.toInt % 256 = _
      rw [hy14, own_by q0_0 (32 : Int32) 32 (by decide) (by decide)]
      show ((own_U q0_0 / 2 ^ 32 % 256 : Nat) : Int) = (((own_U q0_0 * 2 ^ 128 + own_U q0_1 * 2 ^ 64 + own_U q0_2) / 2 ^ 160 % 2 ^ 8 : Nat) : Int)
      omega
    | 4, _ =>
      show y15.toInt % 256 = _
      rw [hy15, own_by q0_0 (24 : Int32) 24 (by decide) (by decide)]
      show ((own_U q0_0 / 2 ^ 24 % 256 : Nat) : Int) = (((own_U q0_0 * 2 ^ 128 + own_U q0_1 * 2 ^ 64 + own_U q0_2) / 2 ^ 152 % 2 ^ 8 : Nat) : Int)
      omega
    | 5, _ =>
      show y16.toInt % 256 = _
      rw [hy16, own_by q0_0 (16 : Int32) 16 (by decide) (by decide)]
      show ((own_U q0_0 / 2 ^ 16 % 256 : Nat) : Int) = (((own_U q0_0 * 2 ^ 128 + own_U q0_1 * 2 ^ 64 + own_U q0_2) / 2 ^ 144 % 2 ^ 8 : Nat) : Int)
      omega
    | 6, _ =>
      show y17.toInt % 256 = _
      rw [hy17, own_by q0_0 (8 : Int32) 8 (by decide) (by decide)]
      show ((own_U q0_0 / 2 ^ 8 % 256 : Nat) : Int) = (((own_U q0_0 * 2 ^ 128 + own_U q0_1 * 2 ^ 64 + own_U q0_2) / 2 ^ 136 % 2 ^ 8 : Nat) : Int)
      omega
    | 7, _ =>
      show y18.toInt % 256 = _
      rw [hy18, own_by0 q0_0]
      show ((own_U q0_0 % 256 : Nat) : Int) = (((own_U q0_0 * 2 ^ 128 + own_U q0_1 * 2 ^ 64 + own_U q0_2) / 2 ^ 128 % 2 ^ 8 : Nat) : Int)
      omega
    | 8, _ =>
      show y20.toInt % 256 = _
      rw [hy20, own_by q0_1 (56 : Int32) 56 (by decide) (by decide)]
      show ((own_U q0_1 / 2 ^ 56 % 256 : Nat) : Int) = (((own_U q0_0 * 2 ^ 128 + own_U q0_1 * 2 ^ 64 + own_U q0_2) / 2 ^ 120 % 2 ^ 8 : Nat) : Int)
      omega
    | 9, _ =>
      show y21.toInt % 256 = _
      rw [hy21, own_by q0_1 (48 : Int32) 48 (by decide) (by decide)]
      show ((own_U q0_1 / 2 ^ 48 % 256 : Nat) : Int) = (((own_U q0_0 * 2 ^ 128 + own_U q0_1 * 2 ^ 64 + own_U q0_2) / 2 ^ 112 % 2 ^ 8 : Nat) : Int)
      omega
    | 10, _ =>
      show y22.toInt % 256 = _
      rw [hy22, own_by q0_1 (40 : Int32) 40 (by decide) (by decide)]
      show ((own_U q0_1 / 2 ^ 40 % 256 : Nat) : Int) = (((own_U q0_0 * 2 ^ 128 + own_U q0_1 * 2 ^ 64 + own_U q0_2) / 2 ^ 104 % 2 ^ 8 : Nat) : Int)
      omega
    | 11, _ =>
      show y23.toInt % 256 = _
      rw [hy23, own_by q0_1 (32 : Int32) 32 (by decide) (by decide)]
      show ((own_U q0_1 / 2 ^ 32 % 256 : Nat) : Int) = (((own_U q0_0 * 2 ^ 128 + own_U q0_1 * 2 ^ 64 + own_U q0_2) / 2 ^ 96 % 2 ^ 8 : Nat) : Int)
      omega
    | 12, _ =>
      show y24.toInt % 256 = _
      rw [hy24, own_by q0_1 (24 : Int32) 24 (by decide) (by decide)]
      show ((own_U q0_1 / 2 ^ 24 % 256 : Nat) : Int) = (((own_U q0_0 * 2 ^ 128 + own_U q0_1 * 2 ^ 64 + own_U q0_2) / 2 ^ 88 % 2 ^ 8 : Nat) : Int)
      omega
    | 13, _ =>
      show y25.toInt % 256 = _
      rw [hy25, own_by q0_1 (16 : Int32) 16 (by decide) (by decide)]
      show ((own_U q0_1 / 2 ^ 16 % 256 : Nat) : Int) = (((own_U q0_0 * 2 ^ 128 + own_U q0_1 * 2 ^ 64 + own_U q0_2) / 2 ^ 80 % 2 ^ 8 : Nat) : Int)
      omega
    | 14, _ =>
      show y26.toInt % 256 = _
      rw [hy26, own_by q0_1 (8 : Int32) 8 (by decide) (by decide)]
      show ((own_U q0_1 / 2 ^ 8 % 256 : Nat) : Int) = (((own_U q0_0 * 2 ^ 128 + own_U q0_1 * 2 ^ 64 + own_U q0_2) / 2 ^ 72 % 2 ^ 8 : Nat) : Int)
      omega
    | 15, _ =>
      show y27.toInt % 256 = _
      rw [hy27, own_by0 q0_1]
      show ((own_U q0_1 % 256 : Nat) : Int) = (((own_U q0_0 * 2 ^ 128 + own_U q0_1 * 2 ^ 64 + own_U q0_2) / 2 ^ 64 % 2 ^ 8 : Nat) : Int)
      omega
    | 16, _ =>
      show y29.toInt % 256 = _
      rw [hy29, own_by q0_2 (56 : Int32) 56 (by decide) (by decide)]
      show ((own_U q0_2 / 2 ^ 56 % 256 : Nat) : Int) = (((own_U q0_0 * 2 ^ 128 + own_U q0_1 * 2 ^ 64 + own_U q0_2) / 2 ^ 56 % 2 ^ 8 : Nat) : Int)
      omega
    | 17, _ =>
      show y30.toInt % 256 = _
      rw [hy30, own_by q0_2 (48 : Int32) 48 (by decide) (by decide)]
      show ((own_U q0_2 / 2 ^ 48 % 256 : Nat) : Int) = (((own_U q0_0 * 2 ^ 128 + own_U q0_1 * 2 ^ 64 + own_U q0_2) / 2 ^ 48 % 2 ^ 8 : Nat) : Int)
      omega
    | 18, _ =>
      show y31.toInt % 256 = _
      rw [hy31, own_by q0_2 (40 : Int32) 40 (by decide) (by decide)]
      show ((own_U q0_2 / 2 ^ 40 % 256 : Nat) : Int) = (((own_U q0_0 * 2 ^ 128 + own_U q0_1 * 2 ^ 64 + own_U q0_2) / 2 ^ 40 % 2 ^ 8 : Nat) : Int)
      omega
    | 19, _ =>
      show y32.toInt % 256 = _
      rw [hy32, own_by q0_2 (32 : Int32) 32 (by decide) (by decide)]
      show ((own_U q0_2 / 2 ^ 32 % 256 : Nat) : Int) = (((own_U q0_0 * 2 ^ 128 + own_U q0_1 * 2 ^ 64 + own_U q0_2) / 2 ^ 32 % 2 ^ 8 : Nat) : Int)
      omega
    | 20, _ =>
      show y33.toInt % 256 = _
      rw [hy33, own_by q0_2 (24 : Int32) 24 (by decide) (by decide)]
      show ((own_U q0_2 / 2 ^ 24 % 256 : Nat) : Int) = (((own_U q0_0 * 2 ^ 128 + own_U q0_1 * 2 ^ 64 + own_U q0_2) / 2 ^ 24 % 2 ^ 8 : Nat) : Int)
      omega
    | 21, _ =>
      show y34.toInt % 256 = _
      rw [hy34, own_by q0_2 (16 : Int32) 16 (by decide) (by decide)]
      show ((own_U q0_2 / 2 ^ 16 % 256 : Nat) : Int) = (((own_U q0_0 * 2 ^ 128 + own_U q0_1 * 2 ^ 64 + own_U q0_2) / 2 ^ 16 % 2 ^ 8 : Nat) : Int)
      omega
    | 22, _ =>
      show y35.toInt % 256 = _
      rw [hy35, own_by q0_2 (8 : Int32) 8 (by decide) (by decide)]
      show ((own_U q0_2 / 2 ^ 8 % 256 : Nat) : Int) = (((own_U q0_0 * 2 ^ 128 + own_U q0_1 * 2 ^ 64 + own_U q0_2) / 2 ^ 8 % 2 ^ 8 : Nat) : Int)
      omega
    | 23, _ =>
      show y36.toInt % 256 = _
      rw [hy36, own_by0 q0_2]
      show ((own_U q0_2 % 256 : Nat) : Int) = (((own_U q0_0 * 2 ^ 128 + own_U q0_1 * 2 ^ 64 + own_U q0_2) / 2 ^ 0 % 2 ^ 8 : Nat) : Int)
      omega
    | n + 24, h => exact absurd h (by omega)
  have b1 := (own_c65 p0_3 x2 hx2)
  have b2 := (own_c65 p0_4 x4 hx4)
  have b3 := (own_c65 p0_5 x6 hx6)
  obtain ⟨g2, p2⟩ := own_gd1 b1 b2 hy55
  obtain ⟨g3, p3⟩ := own_gd2 b1 b2 b3 hy55 hy60
  have s12 := own_add64 b1 b2
  have g1 : own_good 64 (0 : Int64) x2 := own_gd _ _ b1 (by decide) (by decide)
  have e1 : x56 = own_ref q0_0 q0_1 q0_2 (0 : Int64) (0 : Int32) x2 := by
    apply own_U_inj
    rw [hx56, own_rd_U f53 _ hf g1, own_ref_U q0_0 q0_1 q0_2 (0 : Int32) x2 0 x2.toInt.toNat (by decide) (by omega) (by omega) (by omega)]
    rfl
  have e2 : x61 = own_ref q0_0 q0_1 q0_2 (0 : Int64) x2 x4 := by
    apply own_U_inj
    rw [hx61, own_rd_U f53 _ hf g2, own_ref_U q0_0 q0_1 q0_2 x2 x4 x2.toInt.toNat x4.toInt.toNat (by omega) (by omega) (by omega) (by omega), p2]
  have e3 : x66 = own_ref q0_0 q0_1 q0_2 (0 : Int64) (x2 + x4) x6 := by
    apply own_U_inj
    rw [hx66, own_rd_U f53 _ hf g3, own_ref_U q0_0 q0_1 q0_2 (x2 + x4) x6 (x2 + x4).toInt.toNat x6.toInt.toNat (by omega) (by omega) (by omega) (by omega), p3, s12]
  rw [hv79, if_pos (e1.trans hx70.symm)]
  refine (if_pos e2).trans ?_
  exact if_pos e3
theorem pn_0 : plainName "com/example/telemetree/telemetree/storage/BitReaderReadPinLaw" = true := by first | (simp [plainName, overriddenIn]; done) | decide +kernel
theorem ef_rm0 (m : MethodId) (y0 : Int64) (y1 : Int64) (y2 : Int64) (y3 : Int32) (y4 : Int32) (y5 : Int32) : entryFrame m #[(.long y0), (.long y1), (.long y2), (.int y3), (.int y4), (.int y5)] maxLocals = mkF m 0 #[.val (.long y0), .second, .val (.long y1), .second, .val (.long y2), .second, .val (.int y3), .val (.int y4), .val (.int y5), .unset, .unset, .unset, .unset, .unset, .unset, .unset, .unset, .unset, .unset, .unset, .unset] [] := by first | (simp [entryFrame, mkF, argsToLocals, Value.category, maxLocals]; done) | rfl
def Q_rm0 (Z : State) (q0_0 : Int64) (q0_1 : Int64) (q0_2 : Int64) (p0_3 : Int32) (p0_4 : Int32) (p0_5 : Int32) (h0 : Heap) (n0 : Nat) (v : Option Value) (h : Heap) (L : List Loc) : Prop := v = some (.int (1 : Int32)) ∧ Fr n0 L
set_option maxRecDepth 65536 in
set_option maxHeartbeats 40000000 in
theorem rm0 (l : Launch) (Z : State) (a0 : Array Value) (hw : ∀ d ∈ tables_1, d.before a0 Z = true) (ws : List Jvm.Cond) (q0_0 : Int64) (q0_1 : Int64) (q0_2 : Int64) (p0_3 : Int32) (p0_4 : Int32) (p0_5 : Int32) (h0 : Heap) (n0 : Nat) (Z0 : n0 ≤ h0.size) :
    MetFree l x (head1 (Jvm.Cond.code x code maxLocals ret :: ws) room_1) (fun a U => a = #[(.long q0_0), (.long q0_1), (.long q0_2), (.int p0_3), (.int p0_4), (.int p0_5)] ∧ Z.Warmed39 U.vm ∧ U.heap = h0) (fun _ _ _ _ _ => True) (fun _ U o U' => ∃ v L, o = .returned v ∧ Q_rm0 Z q0_0 q0_1 q0_2 p0_3 p0_4 p0_5 h0 n0 v U'.heap L ∧ FrameEnd U o U' L 16 128) := by
  refine MetFree.of_bodySF (plainFor_of_name pn_0) hisR ?_
  intro p e s m args below meth c s₁ Bd hml0 hP hK
  obtain ⟨rfl, hZ, hh⟩ := hP
  have hx := Bd.exec
  have hby := Bd.bytes
  have hml : c.maxLocals = 21 := hml0
  have hown : s.vm.findClass "com/example/telemetree/telemetree/storage/BitReaderReadPinLaw" = some m.cls := findClass_of_methodNamed Bd.named
  have hnm := (name_of_methodNamed Bd.named Bd.method).1
  have X0 : Stand p l e room_1 s m #[(.long q0_0), (.long q0_1), (.long q0_2), (.int p0_3), (.int p0_4), (.int p0_5)] below meth c s₁ [] 0 0 := Stand.of_body Bd
  have e0 : s₁.heap = h0 := by rw [← hh, Bd.state]; rfl
  have N0 := Fr.nil n0
  have pre0 : ∀ t, Steps p.tables e below (s₁.setTop (mkF m 0 #[.val (.long q0_0), .second, .val (.long q0_1), .second, .val (.long q0_2), .second, .val (.int p0_3), .val (.int p0_4), .val (.int p0_5), .unset, .unset, .unset, .unset, .unset, .unset, .unset, .unset, .unset, .unset, .unset, .unset] [])) t → Steps p.tables e below (s₁.setTop (entryFrame m #[(.long q0_0), (.long q0_1), (.long q0_2), (.int p0_3), (.int p0_4), (.int p0_5)] maxLocals)) t := fun t k => castTop (ef_rm0 m q0_0 q0_1 q0_2 p0_3 p0_4 p0_5) k
  let A1 : Array Slot := #[.val (.long q0_0), .second, .val (.long q0_1), .second, .val (.long q0_2), .second, .val (.int p0_3), .val (.int p0_4), .val (.int p0_5), .unset, .unset, .unset, .unset, .unset, .unset, .unset, .unset, .unset, .unset, .unset, .unset]
  obtain ⟨x2, hx2⟩ : ∃ z : Int32, z = ((p0_3 &&& (2147483647 : Int32)) % (65 : Int32)) := ⟨_, rfl⟩
  let A3 : Array Slot := #[.val (.long q0_0), .second, .val (.long q0_1), .second, .val (.long q0_2), .second, .val (.int p0_3), .val (.int p0_4), .val (.int p0_5), .val (.int x2), .unset, .unset, .unset, .unset, .unset, .unset, .unset, .unset, .unset, .unset, .unset]
  obtain ⟨x4, hx4⟩ : ∃ z : Int32, z = ((p0_4 &&& (2147483647 : Int32)) % (65 : Int32)) := ⟨_, rfl⟩
  let A5 : Array Slot := #[.val (.long q0_0), .second, .val (.long q0_1), .second, .val (.long q0_2), .second, .val (.int p0_3), .val (.int p0_4), .val (.int p0_5), .val (.int x2), .val (.int x4), .unset, .unset, .unset, .unset, .unset, .unset, .unset, .unset, .unset, .unset]
  obtain ⟨x6, hx6⟩ : ∃ z : Int32, z = ((p0_5 &&& (2147483647 : Int32)) % (65 : Int32)) := ⟨_, rfl⟩
  let A7 : Array Slot := #[.val (.long q0_0), .second, .val (.long q0_1), .second, .val (.long q0_2), .second, .val (.int p0_3), .val (.int p0_4), .val (.int p0_5), .val (.int x2), .val (.int x4), .val (.int x6), .unset, .unset, .unset, .unset, .unset, .unset, .unset, .unset, .unset]
  obtain ⟨T8, h8, k8, X8, e8, E8, A8, st8⟩ := newP X0 hx hZ (aty := .byte) (ow1 hw) e0 (g := (mkF m 32 A7 [(.int (24 : Int32))])) rfl (hb hby at_32) rfl (by decide) (cap := 24) (by decide) (by decide) (by decide) (by decide)
  obtain ⟨b8, g8⟩ : ∃ z, z = h0.size := ⟨_, rfl⟩
  rw [← g8] at A8 st8
  have V_b8 : Arv Z h8 b8 k8 .byte (24 : Int32) [(.int (0 : Int32)), (.int (0 : Int32)), (.int (0 : Int32)), (.int (0 : Int32)), (.int (0 : Int32)), (.int (0 : Int32)), (.int (0 : Int32)), (.int (0 : Int32)), (.int (0 : Int32)), (.int (0 : Int32)), (.int (0 : Int32)), (.int (0 : Int32)), (.int (0 : Int32)), (.int (0 : Int32)), (.int (0 : Int32)), (.int (0 : Int32)), (.int (0 : Int32)), (.int (0 : Int32)), (.int (0 : Int32)), (.int (0 : Int32)), (.int (0 : Int32)), (.int (0 : Int32)), (.int (0 : Int32)), (.int (0 : Int32))] (.int (0 : Int32)) := (Arv.new A8 (by decide)).pad (pad_rep [] (.int (0 : Int32)) 24)
  have g_b8 : n0 ≤ b8 := Nat.le_trans Z0 (Nat.le_of_eq g8.symm)
  have sz_b8 : h0.size ≤ b8 := Nat.le_trans (Nat.le_refl _) (Nat.le_of_eq g8.symm)
  have K8 : Keep h0 h8 [] := (Keep.refl h0 []).ext E8
  have Z8 : n0 ≤ h8.size := Nat.le_trans Z0 K8.1
  let A9 : Array Slot := #[.val (.long q0_0), .second, .val (.long q0_1), .second, .val (.long q0_2), .second, .val (.int p0_3), .val (.int p0_4), .val (.int p0_5), .val (.int x2), .val (.int x4), .val (.int x6), .val (.ref b8), .unset, .unset, .unset, .unset, .unset, .unset, .unset, .unset]
  obtain ⟨_, _, ⟨T10, L10, k10, n10⟩, -, X10, ⟨Lc10, hQ10, l10, y10, z10⟩, st10⟩ := Jvm.LawKit.callS X8 hx (y := (⟨"com/example/telemetree/telemetree/storage/BitReaderReadPinLaw", "put", "([BIJ)V"⟩ : MethodName)) hown (mvT hZ (ow2 hw)) (mvT hZ (ow3 hw)) (mvT hZ (ow4 hw)) (mvT hZ (ow5 hw)) (by decide) (backOf (W := 0) (rm1_1 l Z a0 hw [] b8 q0_0 k8 (0 : Int32) (0 : Int32) (0 : Int32) (0 : Int32) (0 : Int32) (0 : Int32) (0 : Int32) (0 : Int32) (0 : Int32) (0 : Int32) (0 : Int32) (0 : Int32) (0 : Int32) (0 : Int32) (0 : Int32) (0 : Int32) (0 : Int32) (0 : Int32) (0 : Int32) (0 : Int32) (0 : Int32) (0 : Int32) (0 : Int32) (0 : Int32) h8 n0 Z8 V_b8 g_b8) hZ (ow5 hw) (ow4 hw) (by decide) (by decide)) (g := (mkF m 40 A9 [(.long q0_0), (.int (0 : Int32)), (.ref b8)])) rfl (by rw [hml]; rfl) (argsL := [(.ref b8), (.int (0 : Int32)), (.long q0_0)]) (rest := []) (lenOf pd___BIJ_V rfl) rfl (by show 2 * 0 + _ ≤ _; exact Nat.le_of_eq rfl) (hb hby at_40) (fun _ _ => ⟨rfl, e8, (by decide : 1 + 0 ≤ _), (by decide : 24 + 0 ≤ _)⟩)
  dsimp only [Pt.U, Pt.locs, Pt.cells, Pt.slots] at X10 l10 y10 z10 st10 hQ10
  subst l10 y10 z10
  obtain ⟨rfl, Nq10, Kc10, P10_0⟩ := hQ10
  have K10 : Keep h0 T10.heap [] := Keep.trans K8 Kc10 (allS (P := fun x => x ∈ ([] : List Addr) ∨ h0.size ≤ x) (Or.inr sz_b8) all0)
  have Z10 : n0 ≤ T10.heap.size := Nat.le_trans Z0 K10.1
  obtain ⟨y11, hy11⟩ : ∃ z : Int32, z = (nar .byte ((((q0_0.toUInt64 >>> ((56 : Int32) &&& 0x3f).toInt64.toUInt64).toInt64).toInt32).toInt8.toInt32)) := ⟨_, rfl⟩
  rw [← hy11] at P10_0
  obtain ⟨y12, hy12⟩ : ∃ z : Int32, z = (nar .byte ((((q0_0.toUInt64 >>> ((48 : Int32) &&& 0x3f).toInt64.toUInt64).toInt64).toInt32).toInt8.toInt32)) := ⟨_, rfl⟩
  rw [← hy12] at P10_0
  obtain ⟨y13, hy13⟩ : ∃ z : Int32, z = (nar .byte ((((q0_0.toUInt64 >>> ((40 : Int32) &&& 0x3f).toInt64.toUInt64).toInt64).toInt32).toInt8.toInt32)) := ⟨_, rfl⟩
  rw [← hy13] at P10_0
  obtain ⟨y14, hy14⟩ : ∃ z : Int32, z = (nar .byte ((((q0_0.toUInt64 >>> ((32 : Int32) &&& 0x3f).toInt64.toUInt64).toInt64).toInt32).toInt8.toInt32)) := ⟨_, rfl⟩
  rw [← hy14] at P10_0
  obtain ⟨y15, hy15⟩ : ∃ z : Int32, z = (nar .byte ((((q0_0.toUInt64 >>> ((24 : Int32) &&& 0x3f).toInt64.toUInt64).toInt64).toInt32).toInt8.toInt32)) := ⟨_, rfl⟩
  rw [← hy15] at P10_0
  obtain ⟨y16, hy16⟩ : ∃ z : Int32, z = (nar .byte ((((q0_0.toUInt64 >>> ((16 : Int32) &&& 0x3f).toInt64.toUInt64).toInt64).toInt32).toInt8.toInt32)) := ⟨_, rfl⟩
  rw [← hy16] at P10_0
  obtain ⟨y17, hy17⟩ : ∃ z : Int32, z = (nar .byte ((((q0_0.toUInt64 >>> ((8 : Int32) &&& 0x3f).toInt64.toUInt64).toInt64).toInt32).toInt8.toInt32)) := ⟨_, rfl⟩
  rw [← hy17] at P10_0
  obtain ⟨y18, hy18⟩ : ∃ z : Int32, z = (nar .byte ((q0_0.toInt32).toInt8.toInt32)) := ⟨_, rfl⟩
  rw [← hy18] at P10_0
  have N10 := Fr.app N0 Nq10
  obtain ⟨_, _, ⟨T19, L19, k19, n19⟩, -, X19, ⟨Lc19, hQ19, l19, y19, z19⟩, st19⟩ := Jvm.LawKit.callS X10 hx (y := (⟨"com/example/telemetree/telemetree/storage/BitReaderReadPinLaw", "put", "([BIJ)V"⟩ : MethodName)) hown (mvT hZ (ow2 hw)) (mvT hZ (ow3 hw)) (mvT hZ (ow4 hw)) (mvT hZ (ow5 hw)) (by decide) (backOf (W := 0) (rm1_2 l Z a0 hw [] b8 q0_1 k8 y11 y12 y13 y14 y15 y16 y17 y18 (0 : Int32) (0 : Int32) (0 : Int32) (0 : Int32) (0 : Int32) (0 : Int32) (0 : Int32) (0 : Int32) (0 : Int32) (0 : Int32) (0 : Int32) (0 : Int32) (0 : Int32) (0 : Int32) (0 : Int32) (0 : Int32) T10.heap n0 Z10 P10_0 g_b8) hZ (ow5 hw) (ow4 hw) (by decide) (by decide)) (g := (mkF m 48 A9 [(.long q0_1), (.int (8 : Int32)), (.ref b8)])) rfl (by rw [hml]; rfl) (argsL := [(.ref b8), (.int (8 : Int32)), (.long q0_1)]) (rest := []) (lenOf pd___BIJ_V rfl) rfl (by show 2 * 0 + _ ≤ _; exact Nat.le_of_eq rfl) (hb hby at_48) (fun _ _ => ⟨rfl, rfl, (by decide : 1 + 0 ≤ _), (by decide : 24 + 0 ≤ _)⟩)
  dsimp only [Pt.U, Pt.locs, Pt.cells, Pt.slots] at X19 l19 y19 z19 st19 hQ19
  subst l19 y19 z19
  obtain ⟨rfl, Nq19, Kc19, P19_0⟩ := hQ19
  have K19 : Keep h0 T19.heap [] := Keep.trans K10 Kc19 (allS (P := fun x => x ∈ ([] : List Addr) ∨ h0.size ≤ x) (Or.inr sz_b8) all0)
  have Z19 : n0 ≤ T19.heap.size := Nat.le_trans Z0 K19.1
  obtain ⟨y20, hy20⟩ : ∃ z : Int32, z = (nar .byte ((((q0_1.toUInt64 >>> ((56 : Int32) &&& 0x3f).toInt64.toUInt64).toInt64).toInt32).toInt8.toInt32)) := ⟨_, rfl⟩
  rw [← hy20] at P19_0
  obtain ⟨y21, hy21⟩ : ∃ z : Int32, z = (nar .byte ((((q0_1.toUInt64 >>> ((48 : Int32) &&& 0x3f).toInt64.toUInt64).toInt64).toInt32).toInt8.toInt32)) := ⟨_, rfl⟩
  rw [← hy21] at P19_0
  obtain ⟨y22, hy22⟩ : ∃ z : Int32, z = (nar .byte ((((q0_1.toUInt64 >>> ((40 : Int32) &&& 0x3f).toInt64.toUInt64).toInt64).toInt32).toInt8.toInt32)) := ⟨_, rfl⟩
  rw [← hy22] at P19_0
  obtain ⟨y23, hy23⟩ : ∃ z : Int32, z = (nar .byte ((((q0_1.toUInt64 >>> ((32 : Int32) &&& 0x3f).toInt64.toUInt64).toInt64).toInt32).toInt8.toInt32)) := ⟨_, rfl⟩
  rw [← hy23] at P19_0
  obtain ⟨y24, hy24⟩ : ∃ z : Int32, z = (nar .byte ((((q0_1.toUInt64 >>> ((24 : Int32) &&& 0x3f).toInt64.toUInt64).toInt64).toInt32).toInt8.toInt32)) := ⟨_, rfl⟩
  rw [← hy24] at P19_0
  obtain ⟨y25, hy25⟩ : ∃ z : Int32, z = (nar .byte ((((q0_1.toUInt64 >>> ((16 : Int32) &&& 0x3f).toInt64.toUInt64).toInt64).toInt32).toInt8.toInt32)) := ⟨_, rfl⟩
  rw [← hy25] at P19_0
  obtain ⟨y26, hy26⟩ : ∃ z : Int32, z = (nar .byte ((((q0_1.toUInt64 >>> ((8 : Int32) &&& 0x3f).toInt64.toUInt64).toInt64).toInt32).toInt8.toInt32)) := ⟨_, rfl⟩
  rw [← hy26] at P19_0
  obtain ⟨y27, hy27⟩ : ∃ z : Int32, z = (nar .byte ((q0_1.toInt32).toInt8.toInt32)) := ⟨_, rfl⟩
  rw [← hy27] at P19_0
  have N19 := Fr.app N10 Nq19
  obtain ⟨_, _, ⟨T28, L28, k28, n28⟩, -, X28, ⟨Lc28, hQ28, l28, y28, z28⟩, st28⟩ := Jvm.LawKit.callS X19 hx (y := (⟨"com/example/telemetree/telemetree/storage/BitReaderReadPinLaw", "put", "([BIJ)V"⟩ : MethodName)) hown (mvT hZ (ow2 hw)) (mvT hZ (ow3 hw)) (mvT hZ (ow4 hw)) (mvT hZ (ow5 hw)) (by decide) (backOf (W := 0) (rm1_3 l Z a0 hw [] b8 q0_2 k8 y11 y12 y13 y14 y15 y16 y17 y18 y20 y21 y22 y23 y24 y25 y26 y27 (0 : Int32) (0 : Int32) (0 : Int32) (0 : Int32) (0 : Int32) (0 : Int32) (0 : Int32) (0 : Int32) T19.heap n0 Z19 P19_0 g_b8) hZ (ow5 hw) (ow4 hw) (by decide) (by decide)) (g := (mkF m 57 A9 [(.long q0_2), (.int (16 : Int32)), (.ref b8)])) rfl (by rw [hml]; rfl) (argsL := [(.ref b8), (.int (16 : Int32)), (.long q0_2)]) (rest := []) (lenOf pd___BIJ_V rfl) rfl (by show 2 * 0 + _ ≤ _; exact Nat.le_of_eq rfl) (hb hby at_57) (fun _ _ => ⟨rfl, rfl, (by decide : 1 + 0 ≤ _), (by decide : 24 + 0 ≤ _)⟩)
  dsimp only [Pt.U, Pt.locs, Pt.cells, Pt.slots] at X28 l28 y28 z28 st28 hQ28
  subst l28 y28 z28
  obtain ⟨rfl, Nq28, Kc28, P28_0⟩ := hQ28
  have K28 : Keep h0 T28.heap [] := Keep.trans K19 Kc28 (allS (P := fun x => x ∈ ([] : List Addr) ∨ h0.size ≤ x) (Or.inr sz_b8) all0)
  have Z28 : n0 ≤ T28.heap.size := Nat.le_trans Z0 K28.1
  obtain ⟨y29, hy29⟩ : ∃ z : Int32, z = (nar .byte ((((q0_2.toUInt64 >>> ((56 : Int32) &&& 0x3f).toInt64.toUInt64).toInt64).toInt32).toInt8.toInt32)) := ⟨_, rfl⟩
  rw [← hy29] at P28_0
  obtain ⟨y30, hy30⟩ : ∃ z : Int32, z = (nar .byte ((((q0_2.toUInt64 >>> ((48 : Int32) &&& 0x3f).toInt64.toUInt64).toInt64).toInt32).toInt8.toInt32)) := ⟨_, rfl⟩
  rw [← hy30] at P28_0
  obtain ⟨y31, hy31⟩ : ∃ z : Int32, z = (nar .byte ((((q0_2.toUInt64 >>> ((40 : Int32) &&& 0x3f).toInt64.toUInt64).toInt64).toInt32).toInt8.toInt32)) := ⟨_, rfl⟩
  rw [← hy31] at P28_0
  obtain ⟨y32, hy32⟩ : ∃ z : Int32, z = (nar .byte ((((q0_2.toUInt64 >>> ((32 : Int32) &&& 0x3f).toInt64.toUInt64).toInt64).toInt32).toInt8.toInt32)) := ⟨_, rfl⟩
  rw [← hy32] at P28_0
  obtain ⟨y33, hy33⟩ : ∃ z : Int32, z = (nar .byte ((((q0_2.toUInt64 >>> ((24 : Int32) &&& 0x3f).toInt64.toUInt64).toInt64).toInt32).toInt8.toInt32)) := ⟨_, rfl⟩
  rw [← hy33] at P28_0
  obtain ⟨y34, hy34⟩ : ∃ z : Int32, z = (nar .byte ((((q0_2.toUInt64 >>> ((16 : Int32) &&& 0x3f).toInt64.toUInt64).toInt64).toInt32).toInt8.toInt32)) := ⟨_, rfl⟩
  rw [← hy34] at P28_0
  obtain ⟨y35, hy35⟩ : ∃ z : Int32, z = (nar .byte ((((q0_2.toUInt64 >>> ((8 : Int32) &&& 0x3f).toInt64.toUInt64).toInt64).toInt32).toInt8.toInt32)) := ⟨_, rfl⟩
  rw [← hy35] at P28_0
  obtain ⟨y36, hy36⟩ : ∃ z : Int32, z = (nar .byte ((q0_2.toInt32).toInt8.toInt32)) := ⟨_, rfl⟩
  rw [← hy36] at P28_0
  have N28 := Fr.app N19 Nq28
  obtain ⟨T37, h37, k37, X37, e37, E37, A37, st37⟩ := newP X28 hx hZ (aty := .long) (ow6 hw) rfl (g := (mkF m 61 A9 [(.int (4 : Int32))])) rfl (hb hby at_61) rfl (by decide) (cap := 4) (by decide) (by decide) (by decide) (by decide)
  obtain ⟨b37, g37⟩ : ∃ z, z = T28.heap.size := ⟨_, rfl⟩
  rw [← g37] at A37 st37
  have ne_b8_b37 : b8 ≠ b37 := Nat.ne_of_lt (Nat.lt_of_lt_of_le P28_0.lt (Nat.le_of_eq g37.symm))
  have V_b37 : Arv Z h37 b37 k37 .long (4 : Int32) [(.long (0 : Int64)), (.long (0 : Int64)), (.long (0 : Int64)), (.long (0 : Int64))] (.long (0 : Int64)) := (Arv.new A37 (by decide)).pad (pad_rep [] (.long (0 : Int64)) 4)
  have g_b37 : n0 ≤ b37 := Nat.le_trans Z28 (Nat.le_of_eq g37.symm)
  have sz_b37 : h0.size ≤ b37 := Nat.le_trans K28.1 (Nat.le_of_eq g37.symm)
  have K37 : Keep h0 h37 [] := K28.ext E37
  have Z37 : n0 ≤ h37.size := Nat.le_trans Z0 K37.1
  let A38 : Array Slot := #[.val (.long q0_0), .second, .val (.long q0_1), .second, .val (.long q0_2), .second, .val (.int p0_3), .val (.int p0_4), .val (.int p0_5), .val (.int x2), .val (.int x4), .val (.int x6), .val (.ref b8), .val (.ref b37), .unset, .unset, .unset, .unset, .unset, .unset, .unset]
  obtain ⟨cl39, Ar39, qk39, Sz39, Nz39, Hh39, Gf39⟩ := id V_b37
  obtain ⟨T40, h40, X40, e40, W40, st40⟩ := stJ X37 hx hZ e37 Ar39 (j := (0 : Int32)) (inb_of Sz39 ⟨by decide, by decide⟩) (g := (mkF m 69 A38 [(.long q0_0), (.int (0 : Int32)), (.ref b37)])) rfl rfl (hb hby at_69)
  have V40 : Arv Z h40 b37 k37 .long (4 : Int32) [(.long q0_0), (.long (0 : Int64)), (.long (0 : Int64)), (.long (0 : Int64))] (.long (0 : Int64)) := Arv.set Ar39 qk39 Sz39 Nz39 Hh39 Gf39 rfl W40 0 rfl (Nat.le_of_ble_eq_true rfl)
  have K40 : Keep h0 h40 [] := K37.wr W40 (Or.inr sz_b37)
  have Z40 : n0 ≤ h40.size := Nat.le_trans Z0 K40.1
  have N40 := Fr.snoc X40 N28 g_b37
  obtain ⟨cl41, Ar41, qk41, Sz41, Nz41, Hh41, Gf41⟩ := id V40
  obtain ⟨T42, h42, X42, e42, W42, st42⟩ := stJ X40 hx hZ e40 Ar41 (j := (1 : Int32)) (inb_of Sz41 ⟨by decide, by decide⟩) (g := (mkF m 74 A38 [(.long q0_1), (.int (1 : Int32)), (.ref b37)])) rfl rfl (hb hby at_74)
  have V42 : Arv Z h42 b37 k37 .long (4 : Int32) [(.long q0_0), (.long q0_1), (.long (0 : Int64)), (.long (0 : Int64))] (.long (0 : Int64)) := Arv.set Ar41 qk41 Sz41 Nz41 Hh41 Gf41 rfl W42 1 rfl (Nat.le_of_ble_eq_true rfl)
  have K42 : Keep h0 h42 [] := K40.wr W42 (Or.inr sz_b37)
  have Z42 : n0 ≤ h42.size := Nat.le_trans Z0 K42.1
  have N42 := Fr.snoc X42 N40 g_b37
  obtain ⟨cl43, Ar43, qk43, Sz43, Nz43, Hh43, Gf43⟩ := id V42
  obtain ⟨T44, h44, X44, e44, W44, st44⟩ := stJ X42 hx hZ e42 Ar43 (j := (2 : Int32)) (inb_of Sz43 ⟨by decide, by decide⟩) (g := (mkF m 80 A38 [(.long q0_2), (.int (2 : Int32)), (.ref b37)])) rfl rfl (hb hby at_80)
  have V44 : Arv Z h44 b37 k37 .long (4 : Int32) [(.long q0_0), (.long q0_1), (.long q0_2), (.long (0 : Int64))] (.long (0 : Int64)) := Arv.set Ar43 qk43 Sz43 Nz43 Hh43 Gf43 rfl W44 2 rfl (Nat.le_of_ble_eq_true rfl)
  have K44 : Keep h0 h44 [] := K42.wr W44 (Or.inr sz_b37)
  have Z44 : n0 ≤ h44.size := Nat.le_trans Z0 K44.1
  have N44 := Fr.snoc X44 N42 g_b37
  obtain ⟨cl45, Ar45, qk45, Sz45, Nz45, Hh45, Gf45⟩ := id V44
  obtain ⟨T46, h46, X46, e46, W46, st46⟩ := stJ X44 hx hZ e44 Ar45 (j := (3 : Int32)) (inb_of Sz45 ⟨by decide, by decide⟩) (g := (mkF m 85 A38 [(.long (0 : Int64)), (.int (3 : Int32)), (.ref b37)])) rfl rfl (hb hby at_85)
  have V46 : Arv Z h46 b37 k37 .long (4 : Int32) [(.long q0_0), (.long q0_1), (.long q0_2), (.long (0 : Int64))] (.long (0 : Int64)) := Arv.set Ar45 qk45 Sz45 Nz45 Hh45 Gf45 rfl W46 3 rfl (Nat.le_of_ble_eq_true rfl)
  have K46 : Keep h0 h46 [] := K44.wr W46 (Or.inr sz_b37)
  have Z46 : n0 ≤ h46.size := Nat.le_trans Z0 K46.1
  have N46 := Fr.snoc X46 N44 g_b37
  have f47 := (((((P28_0.ext E37).other W40 ne_b8_b37).other W42 ne_b8_b37).other W44 ne_b8_b37).other W46 ne_b8_b37)
  obtain ⟨T48, h48, X48, e48, E48, A48, D48, -, st48⟩ := newO X46 hx hZ hown (ow7 hw) (ow8 hw) (ow9 hw) e46 (g := (mkF m 86 A38 [])) rfl (hb hby at_86) (by decide) (by decide)
  obtain ⟨b48, g48⟩ : ∃ z, z = h46.size := ⟨_, rfl⟩
  rw [← g48] at A48 D48 st48
  have ne_b8_b48 : b8 ≠ b48 := Nat.ne_of_lt (Nat.lt_of_lt_of_le f47.lt (Nat.le_of_eq g48.symm))
  have ne_b37_b48 : b37 ≠ b48 := Nat.ne_of_lt (Nat.lt_of_lt_of_le V46.lt (Nat.le_of_eq g48.symm))
  have F_bytes_b48 : Fld Z h48 b48 "com/example/telemetree/telemetree/storage/BitReader" "bytes" "[B" .null := D48 (Or.inr (ow17 hw)) (ty := (.array .byte)) (by decide)
  have F_position_b48 : Fld Z h48 b48 "com/example/telemetree/telemetree/storage/BitReader" "position" "J" (.long (0 : Int64)) := D48 (Or.inl (ow24 hw)) (ty := .long) (by decide)
  have g_b48 : n0 ≤ b48 := Nat.le_trans Z46 (Nat.le_of_eq g48.symm)
  have sz_b48 : h0.size ≤ b48 := Nat.le_trans K46.1 (Nat.le_of_eq g48.symm)
  have K48 : Keep h0 h48 [] := K46.ext E48
  have Z48 : n0 ≤ h48.size := Nat.le_trans Z0 K48.1
  have f49 := (f47.ext E48)
  obtain ⟨_, _, ⟨T50, L50, k50, n50⟩, -, X50, ⟨Lc50, hQ50, l50, y50, z50⟩, st50⟩ := X48.specialBack hx (y := (⟨"com/example/telemetree/telemetree/storage/BitReader", "<init>", "([B)V"⟩ : MethodName)) rfl hown (mvT hZ (ow10 hw)) (mvT hZ (ow11 hw)) (mvT hZ (ow12 hw)) (by decide) (backOf (W := 1) (rm2_1 l Z a0 hw [] b48 b8 k8 y11 y12 y13 y14 y15 y16 y17 y18 y20 y21 y22 y23 y24 y25 y26 y27 y29 y30 y31 y32 y33 y34 y35 y36 h48 n0 Z48 A48 F_bytes_b48 F_position_b48 f49 g_b48) hZ (ow12 hw) (ow9 hw) (by decide) (by decide)) (g := (mkF m 92 A38 [(.ref b8), (.ref b48), (.ref b48)])) rfl (by rw [hml]; rfl) (Steps.refl _) (a := b48) (argsL := [(.ref b8)]) (rest := [(.ref b48)]) (lenOf pd___B_V rfl) rfl (by show 2 * 0 + _ ≤ _; exact Nat.le_of_eq rfl) (hb hby at_92) (fun _ _ => ⟨rfl, e48, (by decide : 3 + 0 ≤ _), (by decide : 30 + 0 ≤ _)⟩)
  dsimp only [Pt.U, Pt.locs, Pt.cells, Pt.slots] at X50 l50 y50 z50 st50 hQ50
  subst l50 y50 z50
  obtain ⟨rfl, Nq50, Kc50, P50_0, P50_1, P50_2⟩ := hQ50
  have K50 : Keep h0 T50.heap [] := Keep.trans K48 Kc50 (allS (P := fun x => x ∈ ([] : List Addr) ∨ h0.size ≤ x) (Or.inr sz_b48) all0)
  have Z50 : n0 ≤ T50.heap.size := Nat.le_trans Z0 K50.1
  have N50 := Fr.app N46 Nq50
  let A51 : Array Slot := #[.val (.long q0_0), .second, .val (.long q0_1), .second, .val (.long q0_2), .second, .val (.int p0_3), .val (.int p0_4), .val (.int p0_5), .val (.int x2), .val (.int x4), .val (.int x6), .val (.ref b8), .val (.ref b37), .val (.ref b48), .unset, .unset, .unset, .unset, .unset, .unset]
  have f52 := (f49.keep Kc50 (ninS ne_b8_b48 nin0))
  have Bf53 := Bya.of_arv (es := [y11, y12, y13, y14, y15, y16, y17, y18, y20, y21, y22, y23, y24, y25, y26, y27, y29, y30, y31, y32, y33, y34, y35, y36]) f52 rfl
  obtain ⟨f53, hf53⟩ : ∃ g : Int32 → Int32, g = (fun i => ([y11, y12, y13, y14, y15, y16, y17, y18, y20, y21, y22, y23, y24, y25, y26, y27, y29, y30, y31, y32, y33, y34, y35, y36] : List Int32).getD i.toNatClampNeg 0) := ⟨_, rfl⟩
  rw [← hf53] at Bf53
  obtain ⟨cq54, kq54, q54a, q54b, q54c⟩ := isOf hZ rfl P50_0
  obtain ⟨_, _, ⟨T54, L54, k54, n54⟩, -, X54, ⟨Lc54, hQ54, l54, y54, z54⟩, st54⟩ := X50.virtualBack hx (y := (⟨"com/example/telemetree/telemetree/storage/BitReader", "read", "(I)J"⟩ : MethodName)) (z := (⟨"com/example/telemetree/telemetree/storage/BitReader", "read", "(I)J"⟩ : MethodName)) hown (mvT hZ (ow18 hw)) (mvT hZ (ow19 hw)) (notFace_of_selects (args := #[]) (mvT hZ (ow21 hw))) (mvT hZ (ow21 hw)) (mvT hZ (ow20 hw)) (by decide) (backOf (W := 0) (rm4 l Z a0 hw [] b48 x2 b8 (0 : Int64) f53 T50.heap n0 Z50 (own_gd _ _ (own_c65 p0_3 x2 hx2) (by decide) (by decide)) P50_0 P50_1 P50_2 Bf53 g_b48 ne_b8_b48) hZ (ow22 hw) (ow9 hw) (by decide) (by decide)) q54a q54c (g := (mkF m 101 A51 [(.int x2), (.ref b48)])) rfl (by rw [hml]; rfl) (Steps.refl _) (argsL := [(.int x2)]) (rest := []) (lenOf pd__I_J rfl) rfl (by show 2 * 0 + _ ≤ _; exact Nat.le_of_eq rfl) (hb hby at_101) (fun _ _ => ⟨rfl, rfl, (by decide : 3 + 0 ≤ _), (by decide : 30 + 0 ≤ _)⟩)
  dsimp only [Pt.U, Pt.locs, Pt.cells, Pt.slots] at X54 l54 y54 z54 st54 hQ54
  subst l54 y54 z54
  obtain ⟨rfl, Nq54, Kc54, P54_0, P54_1, P54_2⟩ := hQ54
  have K54 : Keep h0 T54.heap [] := Keep.trans K50 Kc54 (allS (P := fun x => x ∈ ([] : List Addr) ∨ h0.size ≤ x) (Or.inr sz_b48) all0)
  have Z54 : n0 ≤ T54.heap.size := Nat.le_trans Z0 K54.1
  obtain ⟨y55, hy55⟩ : ∃ z : Int64, z = (own_rd f53 64 (0 : Int64) x2 (0 : Int64)).2 := ⟨_, rfl⟩
  rw [← hy55] at P54_2
  have N54 := Fr.app N50 Nq54
  obtain ⟨x56, hx56⟩ : ∃ z : Int64, z = (own_rd f53 64 (0 : Int64) x2 (0 : Int64)).1 := ⟨_, rfl⟩
  let A57 : Array Slot := #[.val (.long q0_0), .second, .val (.long q0_1), .second, .val (.long q0_2), .second, .val (.int p0_3), .val (.int p0_4), .val (.int p0_5), .val (.int x2), .val (.int x4), .val (.int x6), .val (.ref b8), .val (.ref b37), .val (.ref b48), .val (.long x56), .second, .unset, .unset, .unset, .unset]
  have f58 := (Bf53.keep Kc54 (ninS ne_b8_b48 nin0))
  obtain ⟨cq59, kq59, q59a, q59b, q59c⟩ := isOf hZ rfl P54_0
  obtain ⟨_, _, ⟨T59, L59, k59, n59⟩, -, X59, ⟨Lc59, hQ59, l59, y59, z59⟩, st59⟩ := X54.virtualBack hx (y := (⟨"com/example/telemetree/telemetree/storage/BitReader", "read", "(I)J"⟩ : MethodName)) (z := (⟨"com/example/telemetree/telemetree/storage/BitReader", "read", "(I)J"⟩ : MethodName)) hown (mvT hZ (ow18 hw)) (mvT hZ (ow19 hw)) (notFace_of_selects (args := #[]) (mvT hZ (ow21 hw))) (mvT hZ (ow21 hw)) (mvT hZ (ow20 hw)) (by decide) (backOf (W := 0) (rm4 l Z a0 hw [] b48 x4 b8 y55 f53 T54.heap n0 Z54 (own_gd1 (own_c65 p0_3 x2 hx2) (own_c65 p0_4 x4 hx4) hy55).1 P54_0 P54_1 P54_2 f58 g_b48 ne_b8_b48) hZ (ow22 hw) (ow9 hw) (by decide) (by decide)) q59a q59c (g := (mkF m 110 A57 [(.int x4), (.ref b48)])) rfl (by rw [hml]; rfl) (Steps.refl _) (argsL := [(.int x4)]) (rest := []) (lenOf pd__I_J rfl) rfl (by show 2 * 0 + _ ≤ _; exact Nat.le_of_eq rfl) (hb hby at_110) (fun _ _ => ⟨rfl, rfl, (by decide : 3 + 0 ≤ _), (by decide : 30 + 0 ≤ _)⟩)
  dsimp only [Pt.U, Pt.locs, Pt.cells, Pt.slots] at X59 l59 y59 z59 st59 hQ59
  subst l59 y59 z59
  obtain ⟨rfl, Nq59, Kc59, P59_0, P59_1, P59_2⟩ := hQ59
  have K59 : Keep h0 T59.heap [] := Keep.trans K54 Kc59 (allS (P := fun x => x ∈ ([] : List Addr) ∨ h0.size ≤ x) (Or.inr sz_b48) all0)
  have Z59 : n0 ≤ T59.heap.size := Nat.le_trans Z0 K59.1
  obtain ⟨y60, hy60⟩ : ∃ z : Int64, z = (own_rd f53 64 y55 x4 (0 : Int64)).2 := ⟨_, rfl⟩
  rw [← hy60] at P59_2
  have N59 := Fr.app N54 Nq59
  obtain ⟨x61, hx61⟩ : ∃ z : Int64, z = (own_rd f53 64 y55 x4 (0 : Int64)).1 := ⟨_, rfl⟩
  let A62 : Array Slot := #[.val (.long q0_0), .second, .val (.long q0_1), .second, .val (.long q0_2), .second, .val (.int p0_3), .val (.int p0_4), .val (.int p0_5), .val (.int x2), .val (.int x4), .val (.int x6), .val (.ref b8), .val (.ref b37), .val (.ref b48), .val (.long x56), .second, .val (.long x61), .second, .unset, .unset]
  have f63 := (f58.keep Kc59 (ninS ne_b8_b48 nin0))
  obtain ⟨cq64, kq64, q64a, q64b, q64c⟩ := isOf hZ rfl P59_0
  obtain ⟨_, _, ⟨T64, L64, k64, n64⟩, -, X64, ⟨Lc64, hQ64, l64, y64, z64⟩, st64⟩ := X59.virtualBack hx (y := (⟨"com/example/telemetree/telemetree/storage/BitReader", "read", "(I)J"⟩ : MethodName)) (z := (⟨"com/example/telemetree/telemetree/storage/BitReader", "read", "(I)J"⟩ : MethodName)) hown (mvT hZ (ow18 hw)) (mvT hZ (ow19 hw)) (notFace_of_selects (args := #[]) (mvT hZ (ow21 hw))) (mvT hZ (ow21 hw)) (mvT hZ (ow20 hw)) (by decide) (backOf (W := 0) (rm4 l Z a0 hw [] b48 x6 b8 y60 f53 T59.heap n0 Z59 (own_gd2 (own_c65 p0_3 x2 hx2) (own_c65 p0_4 x4 hx4) (own_c65 p0_5 x6 hx6) hy55 hy60).1 P59_0 P59_1 P59_2 f63 g_b48 ne_b8_b48) hZ (ow22 hw) (ow9 hw) (by decide) (by decide)) q64a q64c (g := (mkF m 119 A62 [(.int x6), (.ref b48)])) rfl (by rw [hml]; rfl) (Steps.refl _) (argsL := [(.int x6)]) (rest := []) (lenOf pd__I_J rfl) rfl (by show 2 * 0 + _ ≤ _; exact Nat.le_of_eq rfl) (hb hby at_119) (fun _ _ => ⟨rfl, rfl, (by decide : 3 + 0 ≤ _), (by decide : 30 + 0 ≤ _)⟩)
  dsimp only [Pt.U, Pt.locs, Pt.cells, Pt.slots] at X64 l64 y64 z64 st64 hQ64
  subst l64 y64 z64
  obtain ⟨rfl, Nq64, Kc64, P64_0, P64_1, P64_2⟩ := hQ64
  have K64 : Keep h0 T64.heap [] := Keep.trans K59 Kc64 (allS (P := fun x => x ∈ ([] : List Addr) ∨ h0.size ≤ x) (Or.inr sz_b48) all0)
  have Z64 : n0 ≤ T64.heap.size := Nat.le_trans Z0 K64.1
  obtain ⟨y65, hy65⟩ : ∃ z : Int64, z = (own_rd f53 64 y60 x6 (0 : Int64)).2 := ⟨_, rfl⟩
  rw [← hy65] at P64_2
  have N64 := Fr.app N59 Nq64
  obtain ⟨x66, hx66⟩ : ∃ z : Int64, z = (own_rd f53 64 y60 x6 (0 : Int64)).1 := ⟨_, rfl⟩
  let A67 : Array Slot := #[.val (.long q0_0), .second, .val (.long q0_1), .second, .val (.long q0_2), .second, .val (.int p0_3), .val (.int p0_4), .val (.int p0_5), .val (.int x2), .val (.int x4), .val (.int x6), .val (.ref b8), .val (.ref b37), .val (.ref b48), .val (.long x56), .second, .val (.long x61), .second, .val (.long x66), .second]
  have f68 := (((((V46.ext E48).keep Kc50 (ninS ne_b37_b48 nin0)).keep Kc54 (ninS ne_b37_b48 nin0)).keep Kc59 (ninS ne_b37_b48 nin0)).keep Kc64 (ninS ne_b37_b48 nin0))
  obtain ⟨_, _, ⟨T69, L69, k69, n69⟩, -, X69, ⟨Lc69, hQ69, l69, y69, z69⟩, st69⟩ := Jvm.LawKit.callS X64 hx (y := (⟨"com/example/telemetree/telemetree/storage/BitReaderReadPinLaw", "ref", "([JII)J"⟩ : MethodName)) hown (mvT hZ (ow30 hw)) (mvT hZ (ow31 hw)) (mvT hZ (ow4 hw)) (mvT hZ (ow32 hw)) (by decide) (backOf (W := 2) (rm6 l Z a0 hw [] b37 (0 : Int32) x2 k37 q0_0 q0_1 q0_2 (0 : Int64) k37 q0_0 q0_1 q0_2 (0 : Int64) T64.heap n0 Z64 (fun _ => by decide) f68) hZ (ow32 hw) (ow4 hw) (by decide) (by decide)) (g := (mkF m 131 A67 [(.int x2), (.int (0 : Int32)), (.ref b37), (.long x56)])) rfl (by rw [hml]; rfl) (argsL := [(.ref b37), (.int (0 : Int32)), (.int x2)]) (rest := [(.long x56)]) (lenOf pd___JII_J rfl) rfl (by show 2 * 0 + _ ≤ _; exact Nat.le_of_eq rfl) (hb hby at_131) (fun _ _ => ⟨rfl, rfl, (by decide : 3 + 0 ≤ _), (by decide : 30 + 0 ≤ _)⟩)
  dsimp only [Pt.U, Pt.locs, Pt.cells, Pt.slots] at X69 l69 y69 z69 st69 hQ69
  subst l69 y69 z69
  obtain ⟨rfl, Nq69, e69⟩ := hQ69
  have N69 := Fr.app N64 Nq69
  obtain ⟨x70, hx70⟩ : ∃ z : Int64, z = (if x2 = (0 : Int32) then (0 : Int64) else (((if ((0 : Int32) &&& (63 : Int32)) = (0 : Int32) then (own_w4 q0_0 q0_1 q0_2 (0 : Int64) (((0 : Int32).toUInt32 >>> ((6 : Int32) &&& 31).toUInt32).toInt32)) else (((own_w4 q0_0 q0_1 q0_2 (0 : Int64) (((0 : Int32).toUInt32 >>> ((6 : Int32) &&& 31).toUInt32).toInt32)) <<< (((0 : Int32) &&& (63 : Int32)) &&& 0x3f).toInt64) ||| (((own_w4 q0_0 q0_1 q0_2 (0 : Int64) ((((0 : Int32).toUInt32 >>> ((6 : Int32) &&& 31).toUInt32).toInt32) + (1 : Int32))).toUInt64 >>> (((64 : Int32) - ((0 : Int32) &&& (63 : Int32))) &&& 0x3f).toInt64.toUInt64).toInt64))).toUInt64 >>> (((64 : Int32) - x2) &&& 0x3f).toInt64.toUInt64).toInt64)) := ⟨_, rfl⟩
  have G71 : ∀ t, Steps p.tables e below (T69.setTop (mkF m 135 A67 [(.int (lcmpW x56 x70))])) t → Steps p.tables e below (s₁.setTop (mkF m 0 A1 [])) t := by
    intro t k
    show Steps p.tables e below (s₁.setTop (mkF m 0 A1 [])) _
    refine XS.iload X0.here hx rfl (hb hby at_0) rfl ?_
    show Steps p.tables e below (s₁.setTop (mkF m 2 A1 [(.int p0_3)])) _
    refine X0.ldcInt hx hown (mvT hZ (ow0 hw)) (g := (mkF m 2 A1 [(.int p0_3)])) rfl (hb hby at_2) _ ?_
    show Steps p.tables e below (s₁.setTop (mkF m 4 A1 [(.int (2147483647 : Int32)), (.int p0_3)])) _
    refine XS.iand X0.here hx rfl (hb hby at_4) rfl ?_
    show Steps p.tables e below (s₁.setTop (mkF m 5 A1 [(.int (p0_3 &&& (2147483647 : Int32)))])) _
    refine XS.bipush X0.here hx rfl (hb hby at_5) ?_
    show Steps p.tables e below (s₁.setTop (mkF m 7 A1 [(.int (65 : Int32)), (.int (p0_3 &&& (2147483647 : Int32)))])) _
    refine iremM X0 hx rfl (hb hby at_7) rfl (by decide : ¬ ((65 : Int32) = (0 : Int32))) ?_
    show Steps p.tables e below (s₁.setTop (mkF m 8 A1 [(.int ((p0_3 &&& (2147483647 : Int32)) % (65 : Int32)))])) _
    refine XS.istore X0.here hx rfl (hb hby at_8) rfl (l' := #[.val (.long q0_0), .second, .val (.long q0_1), .second, .val (.long q0_2), .second, .val (.int p0_3), .val (.int p0_4), .val (.int p0_5), .val (.int ((p0_3 &&& (2147483647 : Int32)) % (65 : Int32))), .unset, .unset, .unset, .unset, .unset, .unset, .unset, .unset, .unset, .unset, .unset]) rfl ?_
    show Steps p.tables e below (s₁.setTop (mkF m 10 #[.val (.long q0_0), .second, .val (.long q0_1), .second, .val (.long q0_2), .second, .val (.int p0_3), .val (.int p0_4), .val (.int p0_5), .val (.int ((p0_3 &&& (2147483647 : Int32)) % (65 : Int32))), .unset, .unset, .unset, .unset, .unset, .unset, .unset, .unset, .unset, .unset, .unset] [])) _
    rw [← hx2]
    show Steps p.tables e below (s₁.setTop (mkF m 10 A3 [])) _
    refine XS.iload X0.here hx rfl (hb hby at_10) rfl ?_
    show Steps p.tables e below (s₁.setTop (mkF m 12 A3 [(.int p0_4)])) _
    refine X0.ldcInt hx hown (mvT hZ (ow0 hw)) (g := (mkF m 12 A3 [(.int p0_4)])) rfl (hb hby at_12) _ ?_
    show Steps p.tables e below (s₁.setTop (mkF m 14 A3 [(.int (2147483647 : Int32)), (.int p0_4)])) _
    refine XS.iand X0.here hx rfl (hb hby at_14) rfl ?_
    show Steps p.tables e below (s₁.setTop (mkF m 15 A3 [(.int (p0_4 &&& (2147483647 : Int32)))])) _
    refine XS.bipush X0.here hx rfl (hb hby at_15) ?_
    show Steps p.tables e below (s₁.setTop (mkF m 17 A3 [(.int (65 : Int32)), (.int (p0_4 &&& (2147483647 : Int32)))])) _
    refine iremM X0 hx rfl (hb hby at_17) rfl (by decide : ¬ ((65 : Int32) = (0 : Int32))) ?_
    show Steps p.tables e below (s₁.setTop (mkF m 18 A3 [(.int ((p0_4 &&& (2147483647 : Int32)) % (65 : Int32)))])) _
    refine XS.istore X0.here hx rfl (hb hby at_18) rfl (l' := #[.val (.long q0_0), .second, .val (.long q0_1), .second, .val (.long q0_2), .second, .val (.int p0_3), .val (.int p0_4), .val (.int p0_5), .val (.int x2), .val (.int ((p0_4 &&& (2147483647 : Int32)) % (65 : Int32))), .unset, .unset, .unset, .unset, .unset, .unset, .unset, .unset, .unset, .unset]) rfl ?_
    show Steps p.tables e below (s₁.setTop (mkF m 20 #[.val (.long q0_0), .second, .val (.long q0_1), .second, .val (.long q0_2), .second, .val (.int p0_3), .val (.int p0_4), .val (.int p0_5), .val (.int x2), .val (.int ((p0_4 &&& (2147483647 : Int32)) % (65 : Int32))), .unset, .unset, .unset, .unset, .unset, .unset, .unset, .unset, .unset, .unset] [])) _
    rw [← hx4]
    show Steps p.tables e below (s₁.setTop (mkF m 20 A5 [])) _
    refine XS.iload X0.here hx rfl (hb hby at_20) rfl ?_
    show Steps p.tables e below (s₁.setTop (mkF m 22 A5 [(.int p0_5)])) _
    refine X0.ldcInt hx hown (mvT hZ (ow0 hw)) (g := (mkF m 22 A5 [(.int p0_5)])) rfl (hb hby at_22) _ ?_
    show Steps p.tables e below (s₁.setTop (mkF m 24 A5 [(.int (2147483647 : Int32)), (.int p0_5)])) _
    refine XS.iand X0.here hx rfl (hb hby at_24) rfl ?_
    show Steps p.tables e below (s₁.setTop (mkF m 25 A5 [(.int (p0_5 &&& (2147483647 : Int32)))])) _
    refine XS.bipush X0.here hx rfl (hb hby at_25) ?_
    show Steps p.tables e below (s₁.setTop (mkF m 27 A5 [(.int (65 : Int32)), (.int (p0_5 &&& (2147483647 : Int32)))])) _
    refine iremM X0 hx rfl (hb hby at_27) rfl (by decide : ¬ ((65 : Int32) = (0 : Int32))) ?_
    show Steps p.tables e below (s₁.setTop (mkF m 28 A5 [(.int ((p0_5 &&& (2147483647 : Int32)) % (65 : Int32)))])) _
    refine XS.istore X0.here hx rfl (hb hby at_28) rfl (l' := #[.val (.long q0_0), .second, .val (.long q0_1), .second, .val (.long q0_2), .second, .val (.int p0_3), .val (.int p0_4), .val (.int p0_5), .val (.int x2), .val (.int x4), .val (.int ((p0_5 &&& (2147483647 : Int32)) % (65 : Int32))), .unset, .unset, .unset, .unset, .unset, .unset, .unset, .unset, .unset]) rfl ?_
    show Steps p.tables e below (s₁.setTop (mkF m 30 #[.val (.long q0_0), .second, .val (.long q0_1), .second, .val (.long q0_2), .second, .val (.int p0_3), .val (.int p0_4), .val (.int p0_5), .val (.int x2), .val (.int x4), .val (.int ((p0_5 &&& (2147483647 : Int32)) % (65 : Int32))), .unset, .unset, .unset, .unset, .unset, .unset, .unset, .unset, .unset] [])) _
    rw [← hx6]
    show Steps p.tables e below (s₁.setTop (mkF m 30 A7 [])) _
    refine XS.bipush X0.here hx rfl (hb hby at_30) ?_
    show Steps p.tables e below (s₁.setTop (mkF m 32 A7 [(.int (24 : Int32))])) _
    refine st8 _ ?_
    show Steps p.tables e below (T8.setTop (mkF m 34 A7 [(.ref b8)])) _
    refine XS.astore X8.here hx rfl (hb hby at_34) rfl rfl (l' := A9) rfl ?_
    show Steps p.tables e below (T8.setTop (mkF m 36 A9 [])) _
    refine XS.aload X8.here hx rfl (hb hby at_36) rfl rfl ?_
    show Steps p.tables e below (T8.setTop (mkF m 38 A9 [(.ref b8)])) _
    refine XS.iconst X8.here hx rfl (hb hby at_38) ?_
    show Steps p.tables e below (T8.setTop (mkF m 39 A9 [(.int (0 : Int32)), (.ref b8)])) _
    refine XS.lloadN X8.here hx rfl (hb hby at_39) rfl ?_
    show Steps p.tables e below (T8.setTop (mkF m 40 A9 [(.long q0_0), (.int (0 : Int32)), (.ref b8)])) _
    refine st10 _ ?_
    show Steps p.tables e below (T10.setTop (mkF m 43 A9 [])) _
    refine XS.aload X10.here hx rfl (hb hby at_43) rfl rfl ?_
    show Steps p.tables e below (T10.setTop (mkF m 45 A9 [(.ref b8)])) _
    refine XS.bipush X10.here hx rfl (hb hby at_45) ?_
    show Steps p.tables e below (T10.setTop (mkF m 47 A9 [(.int (8 : Int32)), (.ref b8)])) _
    refine XS.lloadN X10.here hx rfl (hb hby at_47) rfl ?_
    show Steps p.tables e below (T10.setTop (mkF m 48 A9 [(.long q0_1), (.int (8 : Int32)), (.ref b8)])) _
    refine st19 _ ?_
    show Steps p.tables e below (T19.setTop (mkF m 51 A9 [])) _
    refine XS.aload X19.here hx rfl (hb hby at_51) rfl rfl ?_
    show Steps p.tables e below (T19.setTop (mkF m 53 A9 [(.ref b8)])) _
    refine XS.bipush X19.here hx rfl (hb hby at_53) ?_
    show Steps p.tables e below (T19.setTop (mkF m 55 A9 [(.int (16 : Int32)), (.ref b8)])) _
    refine XS.lload X19.here hx rfl (hb hby at_55) rfl ?_
    show Steps p.tables e below (T19.setTop (mkF m 57 A9 [(.long q0_2), (.int (16 : Int32)), (.ref b8)])) _
    refine st28 _ ?_
    show Steps p.tables e below (T28.setTop (mkF m 60 A9 [])) _
    refine XS.iconst X28.here hx rfl (hb hby at_60) ?_
    show Steps p.tables e below (T28.setTop (mkF m 61 A9 [(.int (4 : Int32))])) _
    refine st37 _ ?_
    show Steps p.tables e below (T37.setTop (mkF m 63 A9 [(.ref b37)])) _
    refine XS.astore X37.here hx rfl (hb hby at_63) rfl rfl (l' := A38) rfl ?_
    show Steps p.tables e below (T37.setTop (mkF m 65 A38 [])) _
    refine XS.aload X37.here hx rfl (hb hby at_65) rfl rfl ?_
    show Steps p.tables e below (T37.setTop (mkF m 67 A38 [(.ref b37)])) _
    refine XS.iconst X37.here hx rfl (hb hby at_67) ?_
    show Steps p.tables e below (T37.setTop (mkF m 68 A38 [(.int (0 : Int32)), (.ref b37)])) _
    refine XS.lloadN X37.here hx rfl (hb hby at_68) rfl ?_
    show Steps p.tables e below (T37.setTop (mkF m 69 A38 [(.long q0_0), (.int (0 : Int32)), (.ref b37)])) _
    refine st40 _ ?_
    show Steps p.tables e below (T40.setTop (mkF m 70 A38 [])) _
    refine XS.aload X40.here hx rfl (hb hby at_70) rfl rfl ?_
    show Steps p.tables e below (T40.setTop (mkF m 72 A38 [(.ref b37)])) _
    refine XS.iconst X40.here hx rfl (hb hby at_72) ?_
    show Steps p.tables e below (T40.setTop (mkF m 73 A38 [(.int (1 : Int32)), (.ref b37)])) _
    refine XS.lloadN X40.here hx rfl (hb hby at_73) rfl ?_
    show Steps p.tables e below (T40.setTop (mkF m 74 A38 [(.long q0_1), (.int (1 : Int32)), (.ref b37)])) _
    refine st42 _ ?_
    show Steps p.tables e below (T42.setTop (mkF m 75 A38 [])) _
    refine XS.aload X42.here hx rfl (hb hby at_75) rfl rfl ?_
    show Steps p.tables e below (T42.setTop (mkF m 77 A38 [(.ref b37)])) _
    refine XS.iconst X42.here hx rfl (hb hby at_77) ?_
    show Steps p.tables e below (T42.setTop (mkF m 78 A38 [(.int (2 : Int32)), (.ref b37)])) _
    refine XS.lload X42.here hx rfl (hb hby at_78) rfl ?_
    show Steps p.tables e below (T42.setTop (mkF m 80 A38 [(.long q0_2), (.int (2 : Int32)), (.ref b37)])) _
    refine st44 _ ?_
    show Steps p.tables e below (T44.setTop (mkF m 81 A38 [])) _
    refine XS.aload X44.here hx rfl (hb hby at_81) rfl rfl ?_
    show Steps p.tables e below (T44.setTop (mkF m 83 A38 [(.ref b37)])) _
    refine XS.iconst X44.here hx rfl (hb hby at_83) ?_
    show Steps p.tables e below (T44.setTop (mkF m 84 A38 [(.int (3 : Int32)), (.ref b37)])) _
    refine XS.lconst X44.here hx rfl (hb hby at_84) ?_
    show Steps p.tables e below (T44.setTop (mkF m 85 A38 [(.long (0 : Int64)), (.int (3 : Int32)), (.ref b37)])) _
    refine st46 _ ?_
    show Steps p.tables e below (T46.setTop (mkF m 86 A38 [])) _
    refine st48 _ ?_
    show Steps p.tables e below (T48.setTop (mkF m 89 A38 [(.ref b48)])) _
    refine XS.dup X48.here hx rfl (hb hby at_89) rfl rfl ?_
    show Steps p.tables e below (T48.setTop (mkF m 90 A38 [(.ref b48), (.ref b48)])) _
    refine XS.aload X48.here hx rfl (hb hby at_90) rfl rfl ?_
    show Steps p.tables e below (T48.setTop (mkF m 92 A38 [(.ref b8), (.ref b48), (.ref b48)])) _
    refine st50.trans ?_
    show Steps p.tables e below (T50.setTop (mkF m 95 A38 [(.ref b48)])) _
    refine XS.astore X50.here hx rfl (hb hby at_95) rfl rfl (l' := A51) rfl ?_
    show Steps p.tables e below (T50.setTop (mkF m 97 A51 [])) _
    refine XS.aload X50.here hx rfl (hb hby at_97) rfl rfl ?_
    show Steps p.tables e below (T50.setTop (mkF m 99 A51 [(.ref b48)])) _
    refine XS.iload X50.here hx rfl (hb hby at_99) rfl ?_
    show Steps p.tables e below (T50.setTop (mkF m 101 A51 [(.int x2), (.ref b48)])) _
    refine st54.trans ?_
    show Steps p.tables e below (T54.setTop (mkF m 104 #[.val (.long q0_0), .second, .val (.long q0_1), .second, .val (.long q0_2), .second, .val (.int p0_3), .val (.int p0_4), .val (.int p0_5), .val (.int x2), .val (.int x4), .val (.int x6), .val (.ref b8), .val (.ref b37), .val (.ref b48), .unset, .unset, .unset, .unset, .unset, .unset] [(.long (own_rd f53 64 (0 : Int64) x2 (0 : Int64)).1)])) _
    rw [← hx56]
    show Steps p.tables e below (T54.setTop (mkF m 104 A51 [(.long x56)])) _
    refine XS.lstore X54.here hx rfl (hb hby at_104) rfl (l' := A57) rfl ?_
    show Steps p.tables e below (T54.setTop (mkF m 106 A57 [])) _
    refine XS.aload X54.here hx rfl (hb hby at_106) rfl rfl ?_
    show Steps p.tables e below (T54.setTop (mkF m 108 A57 [(.ref b48)])) _
    refine XS.iload X54.here hx rfl (hb hby at_108) rfl ?_
    show Steps p.tables e below (T54.setTop (mkF m 110 A57 [(.int x4), (.ref b48)])) _
    refine st59.trans ?_
    show Steps p.tables e below (T59.setTop (mkF m 113 #[.val (.long q0_0), .second, .val (.long q0_1), .second, .val (.long q0_2), .second, .val (.int p0_3), .val (.int p0_4), .val (.int p0_5), .val (.int x2), .val (.int x4), .val (.int x6), .val (.ref b8), .val (.ref b37), .val (.ref b48), .val (.long x56), .second, .unset, .unset, .unset, .unset] [(.long (own_rd f53 64 y55 x4 (0 : Int64)).1)])) _
    rw [← hx61]
    show Steps p.tables e below (T59.setTop (mkF m 113 A57 [(.long x61)])) _
    refine XS.lstore X59.here hx rfl (hb hby at_113) rfl (l' := A62) rfl ?_
    show Steps p.tables e below (T59.setTop (mkF m 115 A62 [])) _
    refine XS.aload X59.here hx rfl (hb hby at_115) rfl rfl ?_
    show Steps p.tables e below (T59.setTop (mkF m 117 A62 [(.ref b48)])) _
    refine XS.iload X59.here hx rfl (hb hby at_117) rfl ?_
    show Steps p.tables e below (T59.setTop (mkF m 119 A62 [(.int x6), (.ref b48)])) _
    refine st64.trans ?_
    show Steps p.tables e below (T64.setTop (mkF m 122 #[.val (.long q0_0), .second, .val (.long q0_1), .second, .val (.long q0_2), .second, .val (.int p0_3), .val (.int p0_4), .val (.int p0_5), .val (.int x2), .val (.int x4), .val (.int x6), .val (.ref b8), .val (.ref b37), .val (.ref b48), .val (.long x56), .second, .val (.long x61), .second, .unset, .unset] [(.long (own_rd f53 64 y60 x6 (0 : Int64)).1)])) _
    rw [← hx66]
    show Steps p.tables e below (T64.setTop (mkF m 122 A62 [(.long x66)])) _
    refine XS.lstore X64.here hx rfl (hb hby at_122) rfl (l' := A67) rfl ?_
    show Steps p.tables e below (T64.setTop (mkF m 124 A67 [])) _
    refine XS.lload X64.here hx rfl (hb hby at_124) rfl ?_
    show Steps p.tables e below (T64.setTop (mkF m 126 A67 [(.long x56)])) _
    refine XS.aload X64.here hx rfl (hb hby at_126) rfl rfl ?_
    show Steps p.tables e below (T64.setTop (mkF m 128 A67 [(.ref b37), (.long x56)])) _
    refine XS.iconst X64.here hx rfl (hb hby at_128) ?_
    show Steps p.tables e below (T64.setTop (mkF m 129 A67 [(.int (0 : Int32)), (.ref b37), (.long x56)])) _
    refine XS.iload X64.here hx rfl (hb hby at_129) rfl ?_
    show Steps p.tables e below (T64.setTop (mkF m 131 A67 [(.int x2), (.int (0 : Int32)), (.ref b37), (.long x56)])) _
    refine st69 _ ?_
    show Steps p.tables e below (T69.setTop (mkF m 134 #[.val (.long q0_0), .second, .val (.long q0_1), .second, .val (.long q0_2), .second, .val (.int p0_3), .val (.int p0_4), .val (.int p0_5), .val (.int x2), .val (.int x4), .val (.int x6), .val (.ref b8), .val (.ref b37), .val (.ref b48), .val (.long x56), .second, .val (.long x61), .second, .val (.long x66), .second] [(.long (if x2 = (0 : Int32) then (0 : Int64) else (((if ((0 : Int32) &&& (63 : Int32)) = (0 : Int32) then (own_w4 q0_0 q0_1 q0_2 (0 : Int64) (((0 : Int32).toUInt32 >>> ((6 : Int32) &&& 31).toUInt32).toInt32)) else (((own_w4 q0_0 q0_1 q0_2 (0 : Int64) (((0 : Int32).toUInt32 >>> ((6 : Int32) &&& 31).toUInt32).toInt32)) <<< (((0 : Int32) &&& (63 : Int32)) &&& 0x3f).toInt64) ||| (((own_w4 q0_0 q0_1 q0_2 (0 : Int64) ((((0 : Int32).toUInt32 >>> ((6 : Int32) &&& 31).toUInt32).toInt32) + (1 : Int32))).toUInt64 >>> (((64 : Int32) - ((0 : Int32) &&& (63 : Int32))) &&& 0x3f).toInt64.toUInt64).toInt64))).toUInt64 >>> (((64 : Int32) - x2) &&& 0x3f).toInt64.toUInt64).toInt64))), (.long x56)])) _
    rw [← hx70]
    show Steps p.tables e below (T69.setTop (mkF m 134 A67 [(.long x70), (.long x56)])) _
    refine XS.lcmp X69.here hx rfl (hb hby at_134) rfl ?_
    exact k
  obtain ⟨v79, hv79⟩ : ∃ z : Int32, z = (if x56 = x70 then (if x61 = (if x4 = (0 : Int32) then (0 : Int64) else (((if (x2 &&& (63 : Int32)) = (0 : Int32) then (own_w4 q0_0 q0_1 q0_2 (0 : Int64) ((x2.toUInt32 >>> ((6 : Int32) &&& 31).toUInt32).toInt32)) else (((own_w4 q0_0 q0_1 q0_2 (0 : Int64) ((x2.toUInt32 >>> ((6 : Int32) &&& 31).toUInt32).toInt32)) <<< ((x2 &&& (63 : Int32)) &&& 0x3f).toInt64) ||| (((own_w4 q0_0 q0_1 q0_2 (0 : Int64) (((x2.toUInt32 >>> ((6 : Int32) &&& 31).toUInt32).toInt32) + (1 : Int32))).toUInt64 >>> (((64 : Int32) - (x2 &&& (63 : Int32))) &&& 0x3f).toInt64.toUInt64).toInt64))).toUInt64 >>> (((64 : Int32) - x4) &&& 0x3f).toInt64.toUInt64).toInt64)) then (if x66 = (if x6 = (0 : Int32) then (0 : Int64) else (((if ((x2 + x4) &&& (63 : Int32)) = (0 : Int32) then (own_w4 q0_0 q0_1 q0_2 (0 : Int64) (((x2 + x4).toUInt32 >>> ((6 : Int32) &&& 31).toUInt32).toInt32)) else (((own_w4 q0_0 q0_1 q0_2 (0 : Int64) (((x2 + x4).toUInt32 >>> ((6 : Int32) &&& 31).toUInt32).toInt32)) <<< (((x2 + x4) &&& (63 : Int32)) &&& 0x3f).toInt64) ||| (((own_w4 q0_0 q0_1 q0_2 (0 : Int64) ((((x2 + x4).toUInt32 >>> ((6 : Int32) &&& 31).toUInt32).toInt32) + (1 : Int32))).toUInt64 >>> (((64 : Int32) - ((x2 + x4) &&& (63 : Int32))) &&& 0x3f).toInt64.toUInt64).toInt64))).toUInt64 >>> (((64 : Int32) - x6) &&& 0x3f).toInt64.toUInt64).toInt64)) then (1 : Int32) else (0 : Int32)) else (0 : Int32)) else (0 : Int32)) := ⟨_, rfl⟩
  obtain ⟨T80, Lo80, X80, N80, e80, G80⟩ := own_join X69 N69 (h := T64.heap) (mkF m 135 A67 [(.int (lcmpW x56 x70))]) (mkF m 176 A67 [(.int v79)]) (by
    by_cases h135_72 : x56 = x70
    · obtain ⟨_, _, ⟨T73, L73, k73, n73⟩, -, X73, ⟨Lc73, hQ73, l73, y73, z73⟩, st73⟩ := Jvm.LawKit.callS X69 hx (y := (⟨"com/example/telemetree/telemetree/storage/BitReaderReadPinLaw", "ref", "([JII)J"⟩ : MethodName)) hown (mvT hZ (ow30 hw)) (mvT hZ (ow31 hw)) (mvT hZ (ow4 hw)) (mvT hZ (ow32 hw)) (by decide) (backOf (W := 2) (rm6 l Z a0 hw [] b37 x2 x4 k37 q0_0 q0_1 q0_2 (0 : Int64) k37 q0_0 q0_1 q0_2 (0 : Int64) T64.heap n0 Z64 (fun _ => own_hq (own_c65 p0_3 x2 hx2).1 (by have := (own_c65 p0_3 x2 hx2).2; omega)) f68) hZ (ow32 hw) (ow4 hw) (by decide) (by decide)) (g := (mkF m 146 A67 [(.int x4), (.int x2), (.ref b37), (.long x61)])) rfl (by rw [hml]; rfl) (argsL := [(.ref b37), (.int x2), (.int x4)]) (rest := [(.long x61)]) (lenOf pd___JII_J rfl) rfl (by show 2 * 0 + _ ≤ _; exact Nat.le_of_eq rfl) (hb hby at_146) (fun _ _ => ⟨rfl, e69, (by decide : 3 + 0 ≤ _), (by decide : 30 + 0 ≤ _)⟩)
      dsimp only [Pt.U, Pt.locs, Pt.cells, Pt.slots] at X73 l73 y73 z73 st73 hQ73
      subst l73 y73 z73
      obtain ⟨rfl, Nq73, e73⟩ := hQ73
      have N73 := Fr.app N69 Nq73
      have G74 : ∀ t, Steps p.tables e below (T73.setTop (mkF m 150 A67 [(.int (lcmpW x61 (if x4 = (0 : Int32) then (0 : Int64) else (((if (x2 &&& (63 : Int32)) = (0 : Int32) then (own_w4 q0_0 q0_1 q0_2 (0 : Int64) ((x2.toUInt32 >>> ((6 : Int32) &&& 31).toUInt32).toInt32)) else (((own_w4 q0_0 q0_1 q0_2 (0 : Int64) ((x2.toUInt32 >>> ((6 : Int32) &&& 31).toUInt32).toInt32)) <<< ((x2 &&& (63 : Int32)) &&& 0x3f).toInt64) ||| (((own_w4 q0_0 q0_1 q0_2 (0 : Int64) (((x2.toUInt32 >>> ((6 : Int32) &&& 31).toUInt32).toInt32) + (1 : Int32))).toUInt64 >>> (((64 : Int32) - (x2 &&& (63 : Int32))) &&& 0x3f).toInt64.toUInt64).toInt64))).toUInt64 >>> (((64 : Int32) - x4) &&& 0x3f).toInt64.toUInt64).toInt64))))])) t → Steps p.tables e below (T69.setTop (mkF m 135 A67 [(.int (lcmpW x56 x70))])) t := by
        intro t k
        show Steps p.tables e below (T69.setTop (mkF m 135 A67 [(.int (lcmpW x56 x70))])) _
        refine XS.ifNo X69.here hx rfl (hb hby at_135) rfl ((if0 _ _).trans (teq ((lw_eq _ _).mpr h135_72)).2) ?_
        show Steps p.tables e below (T69.setTop (mkF m 138 A67 [])) _
        refine XS.lload X69.here hx rfl (hb hby at_138) rfl ?_
        show Steps p.tables e below (T69.setTop (mkF m 140 A67 [(.long x61)])) _
        refine XS.aload X69.here hx rfl (hb hby at_140) rfl rfl ?_
        show Steps p.tables e below (T69.setTop (mkF m 142 A67 [(.ref b37), (.long x61)])) _
        refine XS.iload X69.here hx rfl (hb hby at_142) rfl ?_
        show Steps p.tables e below (T69.setTop (mkF m 144 A67 [(.int x2), (.ref b37), (.long x61)])) _
        refine XS.iload X69.here hx rfl (hb hby at_144) rfl ?_
        show Steps p.tables e below (T69.setTop (mkF m 146 A67 [(.int x4), (.int x2), (.ref b37), (.long x61)])) _
        refine st73 _ ?_
        show Steps p.tables e below (T73.setTop (mkF m 149 A67 [(.long (if x4 = (0 : Int32) then (0 : Int64) else (((if (x2 &&& (63 : Int32)) = (0 : Int32) then (own_w4 q0_0 q0_1 q0_2 (0 : Int64) ((x2.toUInt32 >>> ((6 : Int32) &&& 31).toUInt32).toInt32)) else (((own_w4 q0_0 q0_1 q0_2 (0 : Int64) ((x2.toUInt32 >>> ((6 : Int32) &&& 31).toUInt32).toInt32)) <<< ((x2 &&& (63 : Int32)) &&& 0x3f).toInt64) ||| (((own_w4 q0_0 q0_1 q0_2 (0 : Int64) (((x2.toUInt32 >>> ((6 : Int32) &&& 31).toUInt32).toInt32) + (1 : Int32))).toUInt64 >>> (((64 : Int32) - (x2 &&& (63 : Int32))) &&& 0x3f).toInt64.toUInt64).toInt64))).toUInt64 >>> (((64 : Int32) - x4) &&& 0x3f).toInt64.toUInt64).toInt64))), (.long x61)])) _
        refine XS.lcmp X73.here hx rfl (hb hby at_149) rfl ?_
        exact k
      by_cases h150_75 : x61 = (if x4 = (0 : Int32) then (0 : Int64) else (((if (x2 &&& (63 : Int32)) = (0 : Int32) then (own_w4 q0_0 q0_1 q0_2 (0 : Int64) ((x2.toUInt32 >>> ((6 : Int32) &&& 31).toUInt32).toInt32)) else (((own_w4 q0_0 q0_1 q0_2 (0 : Int64) ((x2.toUInt32 >>> ((6 : Int32) &&& 31).toUInt32).toInt32)) <<< ((x2 &&& (63 : Int32)) &&& 0x3f).toInt64) ||| (((own_w4 q0_0 q0_1 q0_2 (0 : Int64) (((x2.toUInt32 >>> ((6 : Int32) &&& 31).toUInt32).toInt32) + (1 : Int32))).toUInt64 >>> (((64 : Int32) - (x2 &&& (63 : Int32))) &&& 0x3f).toInt64.toUInt64).toInt64))).toUInt64 >>> (((64 : Int32) - x4) &&& 0x3f).toInt64.toUInt64).toInt64))
      · obtain ⟨_, _, ⟨T76, L76, k76, n76⟩, -, X76, ⟨Lc76, hQ76, l76, y76, z76⟩, st76⟩ := Jvm.LawKit.callS X73 hx (y := (⟨"com/example/telemetree/telemetree/storage/BitReaderReadPinLaw", "ref", "([JII)J"⟩ : MethodName)) hown (mvT hZ (ow30 hw)) (mvT hZ (ow31 hw)) (mvT hZ (ow4 hw)) (mvT hZ (ow32 hw)) (by decide) (backOf (W := 2) (rm6 l Z a0 hw [] b37 (x2 + x4) x6 k37 q0_0 q0_1 q0_2 (0 : Int64) k37 q0_0 q0_1 q0_2 (0 : Int64) T64.heap n0 Z64 (fun _ => own_hq (by rw [own_add64 (own_c65 p0_3 x2 hx2) (own_c65 p0_4 x4 hx4)]; have := (own_c65 p0_3 x2 hx2).1; have := (own_c65 p0_4 x4 hx4).1; omega) (by rw [own_add64 (own_c65 p0_3 x2 hx2) (own_c65 p0_4 x4 hx4)]; have := (own_c65 p0_3 x2 hx2).2; have := (own_c65 p0_4 x4 hx4).2; omega)) f68) hZ (ow32 hw) (ow4 hw) (by decide) (by decide)) (g := (mkF m 164 A67 [(.int x6), (.int (x2 + x4)), (.ref b37), (.long x66)])) rfl (by rw [hml]; rfl) (argsL := [(.ref b37), (.int (x2 + x4)), (.int x6)]) (rest := [(.long x66)]) (lenOf pd___JII_J rfl) rfl (by show 2 * 0 + _ ≤ _; exact Nat.le_of_eq rfl) (hb hby at_164) (fun _ _ => ⟨rfl, e73, (by decide : 3 + 0 ≤ _), (by decide : 30 + 0 ≤ _)⟩)
        dsimp only [Pt.U, Pt.locs, Pt.cells, Pt.slots] at X76 l76 y76 z76 st76 hQ76
        subst l76 y76 z76
        obtain ⟨rfl, Nq76, e76⟩ := hQ76
        have N76 := Fr.app N73 Nq76
        have G77 : ∀ t, Steps p.tables e below (T76.setTop (mkF m 168 A67 [(.int (lcmpW x66 (if x6 = (0 : Int32) then (0 : Int64) else (((if ((x2 + x4) &&& (63 : Int32)) = (0 : Int32) then (own_w4 q0_0 q0_1 q0_2 (0 : Int64) (((x2 + x4).toUInt32 >>> ((6 : Int32) &&& 31).toUInt32).toInt32)) else (((own_w4 q0_0 q0_1 q0_2 (0 : Int64) (((x2 + x4).toUInt32 >>> ((6 : Int32) &&& 31).toUInt32).toInt32)) <<< (((x2 + x4) &&& (63 : Int32)) &&& 0x3f).toInt64) ||| (((own_w4 q0_0 q0_1 q0_2 (0 : Int64) ((((x2 + x4).toUInt32 >>> ((6 : Int32) &&& 31).toUInt32).toInt32) + (1 : Int32))).toUInt64 >>> (((64 : Int32) - ((x2 + x4) &&& (63 : Int32))) &&& 0x3f).toInt64.toUInt64).toInt64))).toUInt64 >>> (((64 : Int32) - x6) &&& 0x3f).toInt64.toUInt64).toInt64))))])) t → Steps p.tables e below (T73.setTop (mkF m 150 A67 [(.int (lcmpW x61 (if x4 = (0 : Int32) then (0 : Int64) else (((if (x2 &&& (63 : Int32)) = (0 : Int32) then (own_w4 q0_0 q0_1 q0_2 (0 : Int64) ((x2.toUInt32 >>> ((6 : Int32) &&& 31).toUInt32).toInt32)) else (((own_w4 q0_0 q0_1 q0_2 (0 : Int64) ((x2.toUInt32 >>> ((6 : Int32) &&& 31).toUInt32).toInt32)) <<< ((x2 &&& (63 : Int32)) &&& 0x3f).toInt64) ||| (((own_w4 q0_0 q0_1 q0_2 (0 : Int64) (((x2.toUInt32 >>> ((6 : Int32) &&& 31).toUInt32).toInt32) + (1 : Int32))).toUInt64 >>> (((64 : Int32) - (x2 &&& (63 : Int32))) &&& 0x3f).toInt64.toUInt64).toInt64))).toUInt64 >>> (((64 : Int32) - x4) &&& 0x3f).toInt64.toUInt64).toInt64))))])) t := by
          intro t k
          show Steps p.tables e below (T73.setTop (mkF m 150 A67 [(.int (lcmpW x61 (if x4 = (0 : Int32) then (0 : Int64) else (((if (x2 &&& (63 : Int32)) = (0 : Int32) then (own_w4 q0_0 q0_1 q0_2 (0 : Int64) ((x2.toUInt32 >>> ((6 : Int32) &&& 31).toUInt32).toInt32)) else (((own_w4 q0_0 q0_1 q0_2 (0 : Int64) ((x2.toUInt32 >>> ((6 : Int32) &&& 31).toUInt32).toInt32)) <<< ((x2 &&& (63 : Int32)) &&& 0x3f).toInt64) ||| (((own_w4 q0_0 q0_1 q0_2 (0 : Int64) (((x2.toUInt32 >>> ((6 : Int32) &&& 31).toUInt32).toInt32) + (1 : Int32))).toUInt64 >>> (((64 : Int32) - (x2 &&& (63 : Int32))) &&& 0x3f).toInt64.toUInt64).toInt64))).toUInt64 >>> (((64 : Int32) - x4) &&& 0x3f).toInt64.toUInt64).toInt64))))])) _
          refine XS.ifNo X73.here hx rfl (hb hby at_150) rfl ((if0 _ _).trans (teq ((lw_eq _ _).mpr h150_75)).2) ?_
          show Steps p.tables e below (T73.setTop (mkF m 153 A67 [])) _
          refine XS.lload X73.here hx rfl (hb hby at_153) rfl ?_
          show Steps p.tables e below (T73.setTop (mkF m 155 A67 [(.long x66)])) _
          refine XS.aload X73.here hx rfl (hb hby at_155) rfl rfl ?_
          show Steps p.tables e below (T73.setTop (mkF m 157 A67 [(.ref b37), (.long x66)])) _
          refine XS.iload X73.here hx rfl (hb hby at_157) rfl ?_
          show Steps p.tables e below (T73.setTop (mkF m 159 A67 [(.int x2), (.ref b37), (.long x66)])) _
          refine XS.iload X73.here hx rfl (hb hby at_159) rfl ?_
          show Steps p.tables e below (T73.setTop (mkF m 161 A67 [(.int x4), (.int x2), (.ref b37), (.long x66)])) _
          refine XS.iadd X73.here hx rfl (hb hby at_161) rfl ?_
          show Steps p.tables e below (T73.setTop (mkF m 162 A67 [(.int (x2 + x4)), (.ref b37), (.long x66)])) _
          refine XS.iload X73.here hx rfl (hb hby at_162) rfl ?_
          show Steps p.tables e below (T73.setTop (mkF m 164 A67 [(.int x6), (.int (x2 + x4)), (.ref b37), (.long x66)])) _
          refine st76 _ ?_
          show Steps p.tables e below (T76.setTop (mkF m 167 A67 [(.long (if x6 = (0 : Int32) then (0 : Int64) else (((if ((x2 + x4) &&& (63 : Int32)) = (0 : Int32) then (own_w4 q0_0 q0_1 q0_2 (0 : Int64) (((x2 + x4).toUInt32 >>> ((6 : Int32) &&& 31).toUInt32).toInt32)) else (((own_w4 q0_0 q0_1 q0_2 (0 : Int64) (((x2 + x4).toUInt32 >>> ((6 : Int32) &&& 31).toUInt32).toInt32)) <<< (((x2 + x4) &&& (63 : Int32)) &&& 0x3f).toInt64) ||| (((own_w4 q0_0 q0_1 q0_2 (0 : Int64) ((((x2 + x4).toUInt32 >>> ((6 : Int32) &&& 31).toUInt32).toInt32) + (1 : Int32))).toUInt64 >>> (((64 : Int32) - ((x2 + x4) &&& (63 : Int32))) &&& 0x3f).toInt64.toUInt64).toInt64))).toUInt64 >>> (((64 : Int32) - x6) &&& 0x3f).toInt64.toUInt64).toInt64))), (.long x66)])) _
          refine XS.lcmp X76.here hx rfl (hb hby at_167) rfl ?_
          exact k
        by_cases h168_78 : x66 = (if x6 = (0 : Int32) then (0 : Int64) else (((if ((x2 + x4) &&& (63 : Int32)) = (0 : Int32) then (own_w4 q0_0 q0_1 q0_2 (0 : Int64) (((x2 + x4).toUInt32 >>> ((6 : Int32) &&& 31).toUInt32).toInt32)) else (((own_w4 q0_0 q0_1 q0_2 (0 : Int64) (((x2 + x4).toUInt32 >>> ((6 : Int32) &&& 31).toUInt32).toInt32)) <<< (((x2 + x4) &&& (63 : Int32)) &&& 0x3f).toInt64) ||| (((own_w4 q0_0 q0_1 q0_2 (0 : Int64) ((((x2 + x4).toUInt32 >>> ((6 : Int32) &&& 31).toUInt32).toInt32) + (1 : Int32))).toUInt64 >>> (((64 : Int32) - ((x2 + x4) &&& (63 : Int32))) &&& 0x3f).toInt64.toUInt64).toInt64))).toUInt64 >>> (((64 : Int32) - x6) &&& 0x3f).toInt64.toUInt64).toInt64))
        · refine ⟨T76, _, X76, N76, e76, fun t k => ?_⟩
          rw [show v79 = (1 : Int32) from hv79.trans ((if_pos h135_72).trans ((if_pos h150_75).trans (if_pos h168_78)))] at k
          refine G74 _ ?_
          refine G77 _ ?_
          show Steps p.tables e below (T76.setTop (mkF m 168 A67 [(.int (lcmpW x66 (if x6 = (0 : Int32) then (0 : Int64) else (((if ((x2 + x4) &&& (63 : Int32)) = (0 : Int32) then (own_w4 q0_0 q0_1 q0_2 (0 : Int64) (((x2 + x4).toUInt32 >>> ((6 : Int32) &&& 31).toUInt32).toInt32)) else (((own_w4 q0_0 q0_1 q0_2 (0 : Int64) (((x2 + x4).toUInt32 >>> ((6 : Int32) &&& 31).toUInt32).toInt32)) <<< (((x2 + x4) &&& (63 : Int32)) &&& 0x3f).toInt64) ||| (((own_w4 q0_0 q0_1 q0_2 (0 : Int64) ((((x2 + x4).toUInt32 >>> ((6 : Int32) &&& 31).toUInt32).toInt32) + (1 : Int32))).toUInt64 >>> (((64 : Int32) - ((x2 + x4) &&& (63 : Int32))) &&& 0x3f).toInt64.toUInt64).toInt64))).toUInt64 >>> (((64 : Int32) - x6) &&& 0x3f).toInt64.toUInt64).toInt64))))])) _
          refine XS.ifNo X76.here hx rfl (hb hby at_168) rfl ((if0 _ _).trans (teq ((lw_eq _ _).mpr h168_78)).2) ?_
          show Steps p.tables e below (T76.setTop (mkF m 171 A67 [])) _
          refine XS.iconst X76.here hx rfl (hb hby at_171) ?_
          show Steps p.tables e below (T76.setTop (mkF m 172 A67 [(.int (1 : Int32))])) _
          refine XS.goto X76.here hx rfl (pc0 := 172) (pc' := 176) rfl (hb hby at_172) (by decide) (by decide) ?_
          exact k
        · refine ⟨T76, _, X76, N76, e76, fun t k => ?_⟩
          rw [show v79 = (0 : Int32) from hv79.trans ((if_pos h135_72).trans ((if_pos h150_75).trans (if_neg h168_78)))] at k
          refine G74 _ ?_
          refine G77 _ ?_
          show Steps p.tables e below (T76.setTop (mkF m 168 A67 [(.int (lcmpW x66 (if x6 = (0 : Int32) then (0 : Int64) else (((if ((x2 + x4) &&& (63 : Int32)) = (0 : Int32) then (own_w4 q0_0 q0_1 q0_2 (0 : Int64) (((x2 + x4).toUInt32 >>> ((6 : Int32) &&& 31).toUInt32).toInt32)) else (((own_w4 q0_0 q0_1 q0_2 (0 : Int64) (((x2 + x4).toUInt32 >>> ((6 : Int32) &&& 31).toUInt32).toInt32)) <<< (((x2 + x4) &&& (63 : Int32)) &&& 0x3f).toInt64) ||| (((own_w4 q0_0 q0_1 q0_2 (0 : Int64) ((((x2 + x4).toUInt32 >>> ((6 : Int32) &&& 31).toUInt32).toInt32) + (1 : Int32))).toUInt64 >>> (((64 : Int32) - ((x2 + x4) &&& (63 : Int32))) &&& 0x3f).toInt64.toUInt64).toInt64))).toUInt64 >>> (((64 : Int32) - x6) &&& 0x3f).toInt64.toUInt64).toInt64))))])) _
          refine XS.ifYes X76.here hx rfl (pc0 := 168) (pc' := 175) rfl (hb hby at_168) rfl ((if0 _ _).trans (feq (fun q => h168_78 ((lw_eq _ _).mp q))).2) (by decide) (by decide) ?_
          show Steps p.tables e below (T76.setTop (mkF m 175 A67 [])) _
          refine XS.iconst X76.here hx rfl (hb hby at_175) ?_
          exact k
      · refine ⟨T73, _, X73, N73, e73, fun t k => ?_⟩
        rw [show v79 = (0 : Int32) from hv79.trans ((if_pos h135_72).trans (if_neg h150_75))] at k
        refine G74 _ ?_
        show Steps p.tables e below (T73.setTop (mkF m 150 A67 [(.int (lcmpW x61 (if x4 = (0 : Int32) then (0 : Int64) else (((if (x2 &&& (63 : Int32)) = (0 : Int32) then (own_w4 q0_0 q0_1 q0_2 (0 : Int64) ((x2.toUInt32 >>> ((6 : Int32) &&& 31).toUInt32).toInt32)) else (((own_w4 q0_0 q0_1 q0_2 (0 : Int64) ((x2.toUInt32 >>> ((6 : Int32) &&& 31).toUInt32).toInt32)) <<< ((x2 &&& (63 : Int32)) &&& 0x3f).toInt64) ||| (((own_w4 q0_0 q0_1 q0_2 (0 : Int64) (((x2.toUInt32 >>> ((6 : Int32) &&& 31).toUInt32).toInt32) + (1 : Int32))).toUInt64 >>> (((64 : Int32) - (x2 &&& (63 : Int32))) &&& 0x3f).toInt64.toUInt64).toInt64))).toUInt64 >>> (((64 : Int32) - x4) &&& 0x3f).toInt64.toUInt64).toInt64))))])) _
        refine XS.ifYes X73.here hx rfl (pc0 := 150) (pc' := 175) rfl (hb hby at_150) rfl ((if0 _ _).trans (feq (fun q => h150_75 ((lw_eq _ _).mp q))).2) (by decide) (by decide) ?_
        show Steps p.tables e below (T73.setTop (mkF m 175 A67 [])) _
        refine XS.iconst X73.here hx rfl (hb hby at_175) ?_
        exact k
    · refine ⟨T69, _, X69, N69, e69, fun t k => ?_⟩
      rw [show v79 = (0 : Int32) from hv79.trans (if_neg h135_72)] at k
      show Steps p.tables e below (T69.setTop (mkF m 135 A67 [(.int (lcmpW x56 x70))])) _
      refine XS.ifYes X69.here hx rfl (pc0 := 135) (pc' := 175) rfl (hb hby at_135) rfl ((if0 _ _).trans (feq (fun q => h135_72 ((lw_eq _ _).mp q))).2) (by decide) (by decide) ?_
      show Steps p.tables e below (T69.setTop (mkF m 175 A67 [])) _
      refine XS.iconst X69.here hx rfl (hb hby at_175) ?_
      exact k)
  have fin : v79 = (1 : Int32) := by
    exact own_fin q0_0 q0_1 q0_2 p0_3 p0_4 p0_5 x2 hx2 x4 hx4 x6 hx6 y11 hy11 y12 hy12 y13 hy13 y14 hy14 y15 hy15 y16 hy16 y17 hy17 y18 hy18 y20 hy20 y21 hy21 y22 hy22 y23 hy23 y24 hy24 y25 hy25 y26 hy26 y27 hy27 y29 hy29 y30 hy30 y31 hy31 y32 hy32 y33 hy33 y34 hy34 y35 hy35 y36 hy36 f53 hf53 y55 hy55 x56 hx56 y60 hy60 x61 hx61 y65 hy65 x66 hx66 x70 hx70 v79 hv79
  obtain ⟨fs, hr, hrun, hended, hW, hsame⟩ := X80.leave (v := some (.int (1 : Int32))) (fun h => by rw [Bd.returns] at h; cases h)
  refine ⟨_, _, pre0 _ ?_, hrun, hended, _, _, rfl, ?_, ⟨_, rfl⟩, hW, hsame.mono (by decide) (by decide)⟩
  · refine G71 _ ?_
    refine G80 _ ?_
    show Steps p.tables e below (T80.setTop (mkF m 176 A67 [(.int v79)])) _
    rw [fin]
    exact retN X80 hx (t := .boolean) Bd.returns (by simp) (hb hby at_176) hr
  · exact ⟨rfl, N80⟩
set_option maxRecDepth 65536 in
set_option maxHeartbeats 40000000 in
theorem comes_1 {Post : Tables → Env → Array Value → State → Outcome → State → Prop} (hpost : ∀ tb e args s v u, (limb_1_1.after args s (.returned v) u = true ∧ limb_1_2.after args s (.returned v) u = true ∧ True) → FrameEnd s (.returned v) u (Jvm.fieldLocs frame_1_writes args s ++ Jvm.arrayLocs frame_1_arrays args s ++ Jvm.staticLocs frame_1_statics s) 16 128 → Post tb e args s (.returned v) u) :
    ArmFor flags0 classFile x code maxLocals ret World_1 tables_1 room_1 Calls_1 rest_1 Pre_1 Post := by
  intro l hfl _ _ p e ha hc hk s m args below hf hA hF happ hP
  obtain ⟨hcalls, hrest, hpre⟩ := hP
  obtain ⟨-, -, -, hnamed, -, -, -, hat⟩ := (Spec.applies_iff hf).mp happ
  obtain ⟨hg, hn⟩ := and_e (Cond.before_iff.mp (show (Jvm.Cond.and given_1 narrow_1).before args s = true from hpre))
  obtain ⟨g1, g2⟩ := and_e hg
  obtain ⟨g3, g4⟩ := and_e g2
  obtain ⟨g5, g6⟩ := and_e g4
  obtain ⟨g7, g8⟩ := and_e g6
  obtain ⟨g9, g10⟩ := and_e g8
  obtain ⟨g11, g12⟩ := and_e g10
  obtain ⟨w0, w1, w2, w3, w4, w5, rfl⟩ : ∃ w0 w1 w2 w3 w4 w5 : Value, args = #[w0, w1, w2, w3, w4, w5] := by
    have hs : args.size = 6 := by simpa [Cond.value, given_1] using g1
    obtain ⟨L⟩ := args
    match L, hs with
    | [w0, w1, w2, w3, w4, w5], _ => exact ⟨w0, w1, w2, w3, w4, w5, rfl⟩
  have hw := fun d (hd : d ∈ tables_1) => atoms_spec (ws := Jvm.Cond.code x code maxLocals ret :: tables_1) hat d (List.mem_cons_of_mem _ hd)
  have hfit : Fit s := fun {y c} hc i hi => by
    obtain ⟨ha, rfl⟩ := Array.getElem?_eq_some_iff.mp hc
    have q := List.all_eq_true.mp ((Array.all_eq_true_iff_forall_mem.mp hF) _ (Array.getElem_mem ha)) i (List.mem_range.mpr hi)
    simpa [Array.getElem?_eq_getElem hi] using q
  obtain ⟨i0, ei0⟩ := isL_v g3
  obtain rfl : w0 = (.long i0) := Option.some.inj ei0
  obtain ⟨i1, ei1⟩ := isL_v g5
  obtain rfl : w1 = (.long i1) := Option.some.inj ei1
  obtain ⟨i2, ei2⟩ := isL_v g7
  obtain rfl : w2 = (.long i2) := Option.some.inj ei2
  obtain ⟨i3, ei3⟩ := is_v g9
  obtain rfl : w3 = (.int i3) := Option.some.inj ei3
  obtain ⟨i4, ei4⟩ := is_v g11
  obtain rfl : w4 = (.int i4) := Option.some.inj ei4
  obtain ⟨i5, ei5⟩ := is_v g12
  obtain rfl : w5 = (.int i5) := Option.some.inj ei5
  obtain ⟨n, o, h1, h2, h3, _, L, rfl, ⟨rfl, N⟩, hq⟩ := rm0 l s _ hw tables_1 i0 i1 i2 i3 i4 i5 s.heap s.heap.size (Nat.le_refl _) p e ha hc hk s m _ below hf ((Spec.applies_iff_loose hf).mp happ).1 ⟨rfl, State.Warmed39.refl s, rfl⟩ trivial
  refine ⟨n, _, h1, h2, h3, hpost _ _ _ _ _ _ ⟨Cond.after_iff.mpr rfl, Cond.after_iff.mpr (eq_i res_at (Term.int_eval (1)) rfl), trivial⟩ ⟨hq.1, hq.2.1, (hq.2.2.sift fun y hy => Or.inr (N y hy)).mono (by decide) (by decide)⟩⟩
theorem main_1_1 : Claimed_1_1 := comes_1 fun _ _ _ _ _ _ h hF => ⟨h.1, hF⟩
theorem main_1_2 : Claimed_1_2 := comes_1 fun _ _ _ _ _ _ h hF => ⟨h.2.1, hF⟩
end Jvm.Pilot.@@N@@
namespace Jvm.Pilot.@@N@@
open Jvm Jvm.ClassFile Sem Op Lib Jvm.Free Jvm.Stand Jvm.Pilot.@@N@@.Jvm.D
/-! MADE BY PROGRAM (witnessworld.py) out of the Statement's table words and the real class files: 12 classes; the members and pool entries that the words name. The judged class is class 1, her method 1. -/
namespace start1
open Jvm.ClassFile
def u (s : String) : CpInfo := .utf8 (stringToUtf16 s)
/-- a pool by its gaps: so many unusable entries, then the entry; so many at the end -/
def gap : Nat → List CpInfo → List CpInfo
  | 0, r => r
  | n + 1, r => .unusable :: gap n r
def poolList (es : List (Nat × CpInfo)) (last : Nat) : List CpInfo := es.foldr (fun e r => gap e.1 (e.2 :: r)) (gap last [])
def pool (es : List (Nat × CpInfo)) (last : Nat) : Array CpInfo := ⟨poolList es last⟩
def fileOf (pool : Array CpInfo) (this : Nat) (attrs : Array Attribute := #[]) (ms : Array MethodInfo := #[]) (fl : Nat := 33) (sup : Nat := 0) (ifs : Array Nat := #[]) (fds : Array FieldInfo := #[]) : ClassFile where
  minorVersion := 0
  majorVersion := 65
  constantPool := pool
  accessFlags := fl
  thisClass := this
  superClass := sup
  interfaces := ifs
  fields := fds
  methods := ms
  attributes := attrs
def plain (name : String) (sup : Option ClassId) : Class where
  name := name
  kind := .ordinary
  loader := none
  accessFlags := 33
  super := sup
  interfaces := #[]
  cf := none
  fields := #[]
  methods := #[]
  instanceTypes := #[]
  staticTypes := #[]
  resolved := #[]
  callSites := []
  init := .initialized
  statics := none
  mirror := none

def pool0 : Array CpInfo := pool [(5, u "<init>"), (0, u "()V"), (1, .class_ 10), (1, u "java/lang/Object")] 113

def k0c0 : Code := { maxStack := 0, maxLocals := 1, code := object_method_1_code, exceptionTable := #[], attributes := #[] }
def k0m0 : Method := { name := "<init>", desc := "()V", sig := { parameters := [], returnType := none }, accessFlags := 1, code := some k0c0 }
/-- java/lang/Object -/
def k0 : Class := { plain "java/lang/Object" none with
  accessFlags := 33
  interfaces := #[]
  cf := some (fileOf pool0 8 #[] #[{ accessFlags := 1, nameIndex := 5, descriptorIndex := 6, attributes := #[] }] 33 0 #[] #[])
  fields := #[]
  methods := #[k0m0]
  instanceTypes := #[]
  staticTypes := #[]
  resolved := Array.replicate 124 none
  statics := none }

def pool1 : Array CpInfo := pool [(2, .class_ 4), (1, u "java/lang/Object"), (0, u "<init>"), (0, u "()V"), (0, .integer 2147483647), (0, .methodref 9 10), (0, .class_ 11), (0, .nameAndType 12 13), (0, u "com/example/telemetree/telemetree/storage/BitReaderReadPinLaw"), (0, u "put"), (0, u "([BIJ)V"), (0, .class_ 15), (0, u "com/example/telemetree/telemetree/storage/BitReader"), (0, .methodref 14 17), (0, .nameAndType 5 18), (0, u "([B)V"), (0, .methodref 14 20), (0, .nameAndType 21 22), (0, u "read"), (0, u "(I)J"), (0, .methodref 9 24), (0, .nameAndType 25 26), (0, u "ref"), (0, u "([JII)J"), (2, u "law"), (0, u "(JJJIII)Z")] 7

def k1m0 : Method := { name := "<init>", desc := "()V", sig := { parameters := [], returnType := none }, accessFlags := 1, code := none }
def k1c1 : Code := { maxStack := 5, maxLocals := 21, code := code, exceptionTable := #[], attributes := #[] }
def k1m1 : Method := { name := "law", desc := "(JJJIII)Z", sig := { parameters := [.long, .long, .long, .int, .int, .int], returnType := some .boolean }, accessFlags := 9, code := some k1c1 }
def k1c2 : Code := { maxStack := 5, maxLocals := 4, code := method_3_code, exceptionTable := #[], attributes := #[] }
def k1m2 : Method := { name := "put", desc := "([BIJ)V", sig := { parameters := [(.array .byte), .int, .long], returnType := none }, accessFlags := 10, code := some k1c2 }
def k1c3 : Code := { maxStack := 6, maxLocals := 7, code := method_4_code, exceptionTable := #[], attributes := #[] }
def k1m3 : Method := { name := "ref", desc := "([JII)J", sig := { parameters := [(.array .long), .int, .int], returnType := some .long }, accessFlags := 10, code := some k1c3 }
/-- com/example/telemetree/telemetree/storage/BitReaderReadPinLaw -/
def k1 : Class := { plain "com/example/telemetree/telemetree/storage/BitReaderReadPinLaw" (some 0) with
  accessFlags := 49
  interfaces := #[]
  cf := some (fileOf pool1 9 #[] #[{ accessFlags := 1, nameIndex := 5, descriptorIndex := 6, attributes := #[] }, { accessFlags := 9, nameIndex := 29, descriptorIndex := 30, attributes := #[] }, { accessFlags := 10, nameIndex := 12, descriptorIndex := 13, attributes := #[] }, { accessFlags := 10, nameIndex := 25, descriptorIndex := 26, attributes := #[] }] 49 2 #[] #[])
  fields := #[]
  methods := #[k1m0, k1m1, k1m2, k1m3]
  instanceTypes := #[]
  staticTypes := #[]
  resolved := Array.replicate 38 none
  statics := none }

def pool2 : Array CpInfo := pool [(1, .methodref 2 3), (0, .class_ 4), (0, .nameAndType 5 6), (0, u "java/lang/Object"), (0, u "<init>"), (0, u "()V"), (0, .fieldref 8 9), (0, .class_ 10), (0, .nameAndType 11 12), (0, u "com/example/telemetree/telemetree/storage/BitReader"), (0, u "bytes"), (0, u "[B"), (0, .fieldref 8 14), (0, .nameAndType 15 16), (0, u "position"), (0, u "J"), (0, .long 7), (1, .methodref 20 21), (0, .class_ 22), (0, .nameAndType 23 24), (0, u "java/lang/Math"), (0, u "min"), (0, u "(II)I"), (2, u "read"), (0, u "(I)J"), (8, u "LENGTH_BITS"), (0, u "I"), (2, u "([B)V")] 10

def k2c0 : Code := { maxStack := 2, maxLocals := 2, code := prog_11_method_1_code, exceptionTable := #[], attributes := #[] }
def k2m0 : Method := { name := "<init>", desc := "([B)V", sig := { parameters := [(.array .byte)], returnType := none }, accessFlags := 0, code := some k2c0 }
def k2c1 : Code := { maxStack := 5, maxLocals := 9, code := prog_11_method_2_code, exceptionTable := #[], attributes := #[] }
def k2m1 : Method := { name := "read", desc := "(I)J", sig := { parameters := [.int], returnType := some .long }, accessFlags := 0, code := some k2c1 }
/-- com/example/telemetree/telemetree/storage/BitReader -/
def k2 : Class := { plain "com/example/telemetree/telemetree/storage/BitReader" (some 0) with
  accessFlags := 32
  interfaces := #[]
  cf := some (fileOf pool2 8 #[] #[{ accessFlags := 0, nameIndex := 5, descriptorIndex := 41, attributes := #[] }, { accessFlags := 0, nameIndex := 27, descriptorIndex := 28, attributes := #[] }] 32 2 #[] #[{ accessFlags := 26, nameIndex := 37, descriptorIndex := 38, attributes := #[] }, { accessFlags := 18, nameIndex := 11, descriptorIndex := 12, attributes := #[] }, { accessFlags := 2, nameIndex := 15, descriptorIndex := 16, attributes := #[] }])
  fields := #[{ name := "LENGTH_BITS", type := .int, accessFlags := 26, slot := 0, constantValue := 0 }, { name := "bytes", type := (.array .byte), accessFlags := 18, slot := 0, constantValue := 0 }, { name := "position", type := .long, accessFlags := 2, slot := 1, constantValue := 0 }]
  methods := #[k2m0, k2m1]
  instanceTypes := #[(.array .byte), .long]
  staticTypes := #[.int]
  resolved := Array.replicate 52 none
  statics := none }

def pool3 : Array CpInfo := pool [(1, .class_ 2), (0, u "java/lang/Math"), (1, .class_ 6), (1, u "java/lang/Object"), (0, u "<init>"), (0, u "()V"), (89, .class_ 100), (1, u "java/lang/Math$RandomNumberGeneratorHolder"), (71, u "negativeZeroFloatBits"), (0, u "J"), (2, u "negativeZeroDoubleBits"), (24, u "min"), (43, u "$assertionsDisabled"), (0, u "Z"), (88, u "(II)I"), (2, u "twoToTheDoubleScaleDown"), (0, u "D"), (4, u "twoToTheDoubleScaleUp"), (9, u "E"), (3, u "PI"), (2, u "TAU"), (2, u "DEGREES_TO_RADIANS"), (0, u "RADIANS_TO_DEGREES")] 94

def k3m0 : Method := { name := "<init>", desc := "()V", sig := { parameters := [], returnType := none }, accessFlags := 2, code := none }
def k3c1 : Code := { maxStack := 2, maxLocals := 2, code := jdk_29_method_69_code, exceptionTable := #[], attributes := #[] }
def k3m1 : Method := { name := "min", desc := "(II)I", sig := { parameters := [.int, .int], returnType := some .int }, accessFlags := 9, code := some k3c1 }
/-- java/lang/Math -/
def k3 : Class := { plain "java/lang/Math" (some 0) with
  accessFlags := 49
  interfaces := #[]
  cf := some (fileOf pool3 1 #[.nestMembers #[98]] #[{ accessFlags := 2, nameIndex := 7, descriptorIndex := 8, attributes := #[] }, { accessFlags := 9, nameIndex := 201, descriptorIndex := 335, attributes := #[] }] 49 4 #[] #[{ accessFlags := 25, nameIndex := 354, descriptorIndex := 339, attributes := #[] }, { accessFlags := 25, nameIndex := 358, descriptorIndex := 339, attributes := #[] }, { accessFlags := 25, nameIndex := 361, descriptorIndex := 339, attributes := #[] }, { accessFlags := 26, nameIndex := 364, descriptorIndex := 339, attributes := #[] }, { accessFlags := 26, nameIndex := 365, descriptorIndex := 339, attributes := #[] }, { accessFlags := 26, nameIndex := 172, descriptorIndex := 173, attributes := #[] }, { accessFlags := 26, nameIndex := 176, descriptorIndex := 173, attributes := #[] }, { accessFlags := 8, nameIndex := 344, descriptorIndex := 339, attributes := #[] }, { accessFlags := 8, nameIndex := 338, descriptorIndex := 339, attributes := #[] }, { accessFlags := 4120, nameIndex := 245, descriptorIndex := 246, attributes := #[] }])
  fields := #[{ name := "E", type := .double, accessFlags := 25, slot := 0, constantValue := 0 }, { name := "PI", type := .double, accessFlags := 25, slot := 1, constantValue := 0 }, { name := "TAU", type := .double, accessFlags := 25, slot := 2, constantValue := 0 }, { name := "DEGREES_TO_RADIANS", type := .double, accessFlags := 26, slot := 3, constantValue := 0 }, { name := "RADIANS_TO_DEGREES", type := .double, accessFlags := 26, slot := 4, constantValue := 0 }, { name := "negativeZeroFloatBits", type := .long, accessFlags := 26, slot := 5, constantValue := 0 }, { name := "negativeZeroDoubleBits", type := .long, accessFlags := 26, slot := 6, constantValue := 0 }, { name := "twoToTheDoubleScaleUp", type := .double, accessFlags := 8, slot := 7, constantValue := 0 }, { name := "twoToTheDoubleScaleDown", type := .double, accessFlags := 8, slot := 8, constantValue := 0 }, { name := "$assertionsDisabled", type := .boolean, accessFlags := 4120, slot := 9, constantValue := 0 }]
  methods := #[k3m0, k3m1]
  instanceTypes := #[]
  staticTypes := #[.double, .double, .double, .double, .double, .long, .long, .double, .double, .boolean]
  resolved := Array.replicate 460 none
  statics := none }

def pool4 : Array CpInfo := pool [(1, u "java/lang/Cloneable"), (0, .class_ 1), (0, u "java/lang/Object"), (0, .class_ 3)] 3

/-- java/lang/Cloneable -/
def k4 : Class := { plain "java/lang/Cloneable" (some 0) with
  accessFlags := 1537
  interfaces := #[]
  cf := some (fileOf pool4 2 #[] #[] 1537 4 #[] #[])
  fields := #[]
  methods := #[]
  instanceTypes := #[]
  staticTypes := #[]
  resolved := Array.replicate 8 none
  statics := none }

def pool5 : Array CpInfo := pool [(1, u "java/io/Serializable"), (0, .class_ 1), (0, u "java/lang/Object"), (0, .class_ 3)] 3

/-- java/io/Serializable -/
def k5 : Class := { plain "java/io/Serializable" (some 0) with
  accessFlags := 1537
  interfaces := #[]
  cf := some (fileOf pool5 2 #[] #[] 1537 4 #[] #[])
  fields := #[]
  methods := #[]
  instanceTypes := #[]
  staticTypes := #[]
  resolved := Array.replicate 8 none
  statics := none }

/-- the primitive byte -/
def k6 : Class := { plain "byte" none with kind := .primitive 'B', accessFlags := 0x411 }
/-- [B -/
def k7 : Class := { plain "[B" (some 0) with kind := .array 6 .byte, interfaces := #[4, 5], accessFlags := 1041 }

/-- the primitive int -/
def k8 : Class := { plain "int" none with kind := .primitive 'I', accessFlags := 0x411 }
/-- [I -/
def k9 : Class := { plain "[I" (some 0) with kind := .array 8 .int, interfaces := #[4, 5], accessFlags := 1041 }

/-- the primitive long -/
def k10 : Class := { plain "long" none with kind := .primitive 'J', accessFlags := 0x411 }
/-- [J -/
def k11 : Class := { plain "[J" (some 0) with kind := .array 10 .long, interfaces := #[4, 5], accessFlags := 1041 }

def heap : Heap := #[]
def classes : Array Class := #[k0, k1, k2, k3, k4, k5, k6, k7, k8, k9, k10, k11]
def interned : List (Array UInt16 × Addr) := []
def slotsUsed : Nat := 0
def theMethod : MethodId := ⟨1, 1⟩
def args0 : Array Value := #[.long 5, .long 5, .long 5, .int 5, .int 5, .int 5]
def aboutOver (below : List Frame) : State where
  vm := { classes := classes, interned := interned.toArray }
  heap := heap
  slotsUsed := slotsUsed
  threads := #[{ frames := .invoking theMethod args0 :: below }]
def below0 : List Frame := [.native { method := ⟨0, 0⟩, args := #[] }]
def about1 : State := aboutOver below0
def p0 : Program := .bare "" "" ""
def e0 : Env := launch0.env 0 0 0
theorem w_frames : about1.frames = Frame.invoking theMethod args0 :: below0 := rfl
set_option maxRecDepth 65536 in
theorem w_args : argsFit about1.vm theMethod args0 = true := by decide +kernel
set_option maxRecDepth 65536 in
theorem w_heap : heapFits about1 = true := by decide +kernel
set_option maxRecDepth 65536 in
theorem w_runnable : about1.curStatus? = some .runnable := by decide +kernel
set_option maxRecDepth 65536 in
theorem w_alone : about1.alone = true := by decide +kernel
set_option maxRecDepth 65536 in
theorem w_named : about1.methodNamed? x = some theMethod := by decide +kernel
set_option maxRecDepth 65536 in
theorem w_hears : about1.hears theMethod below0 = true := by decide +kernel
set_option maxRecDepth 65536 in
theorem w_ripe : about1.ripe theMethod args0 below0 = true := by decide +kernel
theorem w_running : about1.status = .running := rfl
set_option maxRecDepth 65536 in
theorem w_room : about1.hasRoom e0.platform room_1 = true :=
  launch0.hasRoom_least _ room_1 (by decide +kernel) (by decide +kernel) (by decide +kernel) (by decide +kernel) (by decide +kernel) (by decide +kernel)
theorem allAtoms_all (ts : List Jvm.Cond) (a : Array Jvm.Value) (st : Jvm.State) : (allAtoms ts).before a st = ts.all (fun c => c.before a st) := by
  induction ts with
  | nil => rfl
  | cons c t ih =>
    show (Jvm.Cond.and c (allAtoms t)).before a st = _
    rw [Jvm.Cond.before_and, ih, List.all_cons]
def words1 : List Jvm.Cond := Jvm.Cond.code x code maxLocals ret :: tables_1
/-- a 'code' word, met by the world's own term for the bytes: nothing is compared byte by byte -/
theorem code_word {y : MethodName} {bytes : ByteArray} {mx : Nat} {rt : Option FieldType} {a : Array Value} {s : State} {m : MethodId} {meth : Method} {c : Code} (h1 : s.methodNamed? y = some m) (h2 : s.vm.method? m = some meth) (h3 : meth.code = some c) (h4 : c.code = bytes)
    (h5 : (c.maxLocals == mx && c.exceptionTable.isEmpty && decide (c.maxStack ≤ mostOperands) && decide (meth.sig.returnType = rt) && !meth.locks && decide (parseMethodDescriptor y.desc = some meth.sig)) = true) : (Jvm.Cond.code y bytes mx rt).before a s = true := by
  simp only [Bool.and_eq_true, beq_iff_eq, Bool.not_eq_true', decide_eq_true_eq] at h5
  obtain ⟨⟨⟨⟨⟨g1, g2⟩, g3⟩, g4⟩, g5⟩, g6⟩ := h5
  simp [Cond.before, Cond.holds, Cond.value, h1, h2, h3, h4, g1, g2, g3, g4, g5, g6]
def isCode : Jvm.Cond → Bool
  | .code _ _ _ _ => true
  | _ => false
theorem all_split {L : List Jvm.Cond} {P : Jvm.Cond → Bool} (h1 : L.all (fun c => isCode c || P c) = true) (h2 : ∀ c ∈ L.filter isCode, P c = true) : L.all P = true := by
  refine List.all_eq_true.mpr fun c hc => ?_
  have h := List.all_eq_true.mp h1 c hc
  rcases Bool.eq_false_or_eq_true (isCode c) with hi | hi
  · exact h2 c (List.mem_filter.mpr ⟨hc, hi⟩)
  · simpa [hi] using h
set_option maxRecDepth 65536 in
theorem w_c0 : (Jvm.Cond.code x code maxLocals ret).before args0 about1 = true := code_word (m := ⟨1, 1⟩) (meth := k1m1) (c := k1c1) (by decide +kernel) rfl rfl rfl (by decide +kernel)
set_option maxRecDepth 65536 in
theorem w_c1 : (Jvm.Cond.code ({ cls := "com/example/telemetree/telemetree/storage/BitReaderReadPinLaw", name := "put", desc := "([BIJ)V" } : Jvm.MethodName) method_3_code (4 : Nat) (Option.none : Option Jvm.ClassFile.FieldType)).before args0 about1 = true := code_word (m := ⟨1, 2⟩) (meth := k1m2) (c := k1c2) (by decide +kernel) rfl rfl rfl (by decide +kernel)
set_option maxRecDepth 65536 in
theorem w_c2 : (Jvm.Cond.code ({ cls := "com/example/telemetree/telemetree/storage/BitReader", name := "<init>", desc := "([B)V" } : Jvm.MethodName) prog_11_method_1_code (2 : Nat) (Option.none : Option Jvm.ClassFile.FieldType)).before args0 about1 = true := code_word (m := ⟨2, 0⟩) (meth := k2m0) (c := k2c0) (by decide +kernel) rfl rfl rfl (by decide +kernel)
set_option maxRecDepth 65536 in
theorem w_c3 : (Jvm.Cond.code ({ cls := "java/lang/Object", name := "<init>", desc := "()V" } : Jvm.MethodName) object_method_1_code (1 : Nat) (Option.none : Option Jvm.ClassFile.FieldType)).before args0 about1 = true := code_word (m := ⟨0, 0⟩) (meth := k0m0) (c := k0c0) (by decide +kernel) rfl rfl rfl (by decide +kernel)
set_option maxRecDepth 65536 in
theorem w_c4 : (Jvm.Cond.code ({ cls := "com/example/telemetree/telemetree/storage/BitReader", name := "read", desc := "(I)J" } : Jvm.MethodName) prog_11_method_2_code (9 : Nat) (Option.some Jvm.ClassFile.FieldType.long)).before args0 about1 = true := code_word (m := ⟨2, 1⟩) (meth := k2m1) (c := k2c1) (by decide +kernel) rfl rfl rfl (by decide +kernel)
set_option maxRecDepth 65536 in
theorem w_c5 : (Jvm.Cond.code ({ cls := "java/lang/Math", name := "min", desc := "(II)I" } : Jvm.MethodName) jdk_29_method_69_code (2 : Nat) (Option.some Jvm.ClassFile.FieldType.int)).before args0 about1 = true := code_word (m := ⟨3, 1⟩) (meth := k3m1) (c := k3c1) (by decide +kernel) rfl rfl rfl (by decide +kernel)
set_option maxRecDepth 65536 in
theorem w_c6 : (Jvm.Cond.code ({ cls := "com/example/telemetree/telemetree/storage/BitReaderReadPinLaw", name := "ref", desc := "([JII)J" } : Jvm.MethodName) method_4_code (7 : Nat) (Option.some Jvm.ClassFile.FieldType.long)).before args0 about1 = true := code_word (m := ⟨1, 3⟩) (meth := k1m3) (c := k1c3) (by decide +kernel) rfl rfl rfl (by decide +kernel)
def codes1 : List Jvm.Cond := [Jvm.Cond.code x code maxLocals ret, Jvm.Cond.code ({ cls := "com/example/telemetree/telemetree/storage/BitReaderReadPinLaw", name := "put", desc := "([BIJ)V" } : Jvm.MethodName) method_3_code (4 : Nat) (Option.none : Option Jvm.ClassFile.FieldType), Jvm.Cond.code ({ cls := "com/example/telemetree/telemetree/storage/BitReader", name := "<init>", desc := "([B)V" } : Jvm.MethodName) prog_11_method_1_code (2 : Nat) (Option.none : Option Jvm.ClassFile.FieldType), Jvm.Cond.code ({ cls := "java/lang/Object", name := "<init>", desc := "()V" } : Jvm.MethodName) object_method_1_code (1 : Nat) (Option.none : Option Jvm.ClassFile.FieldType), Jvm.Cond.code ({ cls := "com/example/telemetree/telemetree/storage/BitReader", name := "read", desc := "(I)J" } : Jvm.MethodName) prog_11_method_2_code (9 : Nat) (Option.some Jvm.ClassFile.FieldType.long), Jvm.Cond.code ({ cls := "java/lang/Math", name := "min", desc := "(II)I" } : Jvm.MethodName) jdk_29_method_69_code (2 : Nat) (Option.some Jvm.ClassFile.FieldType.int), Jvm.Cond.code ({ cls := "com/example/telemetree/telemetree/storage/BitReaderReadPinLaw", name := "ref", desc := "([JII)J" } : Jvm.MethodName) method_4_code (7 : Nat) (Option.some Jvm.ClassFile.FieldType.long)]
set_option maxRecDepth 65536 in
theorem codes_eq : words1.filter isCode = codes1 := rfl
theorem w_codes : ∀ c ∈ words1.filter isCode, c.before args0 about1 = true := by
  rw [codes_eq]
  intro c hc
  simp only [codes1, List.mem_cons, List.not_mem_nil, or_false] at hc
  rcases hc with rfl | rfl | rfl | rfl | rfl | rfl | rfl
  · exact w_c0
  · exact w_c1
  · exact w_c2
  · exact w_c3
  · exact w_c4
  · exact w_c5
  · exact w_c6
set_option maxRecDepth 65536 in
theorem w_t1 : (words1.take 24).all (fun c => isCode c || c.before args0 about1) = true := by decide +kernel
set_option maxRecDepth 65536 in
theorem w_t2 : (words1.drop 24).all (fun c => isCode c || c.before args0 about1) = true := by decide +kernel
theorem w_tables : (allAtoms (Jvm.Cond.code x code maxLocals ret :: tables_1)).before args0 about1 = true := by
  rw [allAtoms_all]
  show words1.all (fun c => c.before args0 about1) = true
  refine all_split ?_ w_codes
  rw [← List.take_append_drop 24 words1, List.all_append, w_t1, w_t2]
  rfl
set_option maxRecDepth 65536 in
theorem w_case : (Jvm.Cond.and given_1 narrow_1).before args0 about1 = true := by decide +kernel
theorem w_applies : (headSpec (Jvm.Cond.code x code maxLocals ret :: tables_1) room_1).applies x e0.platform about1 = true :=
  (Spec.applies_iff w_frames).mpr ⟨w_running, w_runnable, w_alone, w_named, w_hears, w_ripe, w_room, w_tables⟩
theorem atStart : AtStart classFile x code maxLocals ret World_1 tables_1 room_1 Calls_1 rest_1 Pre_1 launch0 p0 e0 about1 theMethod args0 below0 :=
  ⟨lists_1, trivial, launch0.admits_env _ _ _, launch0.least_env, fairChoices_fair.cas, fairChoices_fair.clock, w_frames, w_args, w_heap, w_applies, trivial, trivial, w_case⟩
end start1
theorem witness_1 : WitnessClaimed_1 := ⟨start1.p0, start1.e0, start1.about1, start1.theMethod, start1.args0, start1.below0, start1.atStart⟩
end Jvm.Pilot.@@N@@
