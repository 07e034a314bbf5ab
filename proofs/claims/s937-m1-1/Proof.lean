import JvmDerived
import JvmDerived.Pilot.@@N@@Statement
import JvmDerived.Pilot.@@N@@Code
set_option linter.unusedVariables false
set_option linter.unusedSimpArgs false
namespace Jvm.RoadKit
open Sem ClassFile Op Lib Jvm.Stand Jvm.Free Jvm.LawKit
section New
variable {p : Program} {l : Launch} {e : Env} {R : Room} {s : State} {m : MethodId} {args : Array Value} {below : List Frame} {meth : Method} {c : Code} {T : State} {locs : List Loc} {cells slots : Nat}
theorem retI (X : Stand p l e R s m args below meth c T locs cells slots) (hx : p.tables.exec = Jvm.exec) {pc : Nat} {Ls : Array Slot} {z : Int32} {rest : List Value} (hret : meth.sig.returnType = some .int) (hd : decode c.code pc = .ok (.ireturn, 1)) {fs : List Frame}
    (hl : ∀ (f : JFrame) (acts : List Action), f.method = m → f.locked = none → f.entered = [] → (doReturn e (T.setTop f) acts (some (.int z))).1 = T.setFrames fs) : Steps p.tables e below (T.setTop (mkF m pc Ls (.int z :: rest))) (T.setFrames fs) := by
  have hm' : T.vm.method? m = some meth := X.method'
  have hn : narrow .int (.int z) = .int z := rfl
  show Steps p.tables e below (T.setTop { method := m, pc := pc, locals := Ls, stack := _ :: rest, locked := none }) _
  jvm_step X.here [X.here.top, hx, hd, hm', hret, hn]
  first | (intro acts; rw [hl _ acts rfl rfl rfl]) | rw [hl _ _ rfl rfl rfl]
  exact Steps.refl _
theorem own_join {n0 : Nat} (X : Stand p l e R s m args below meth c T locs cells slots) (N : Fr n0 locs) {h : Heap} (g g' : JFrame)
    (H : ∃ (T' : State) (locs' : List Loc), Stand p l e R s m args below meth c T' locs' cells slots ∧ Fr n0 locs' ∧ T'.heap = h ∧ ∀ t, Steps p.tables e below (T'.setTop g') t → Steps p.tables e below (T.setTop g) t) :
    ∃ (T' : State) (locs' : List Loc), Stand p l e R s m args below meth c T' locs' cells slots ∧ Fr n0 locs' ∧ T'.heap = h ∧ ∀ t, Steps p.tables e below (T'.setTop g') t → Steps p.tables e below (T.setTop g) t := H
theorem own_mono (X : Stand p l e R s m args below meth c T locs cells slots) {c' s' : Nat} (h1 : cells ≤ c') (h2 : slots ≤ s') : Stand p l e R s m args below meth c T locs c' s' :=
  ⟨X.admits, X.cas, X.clock, X.frames, X.room, X.hears, X.method, X.code, X.here, X.tail, X.warmed, X.limits, X.bytes, X.same.mono h1 h2⟩
theorem own_lrem {g : JFrame} {target : State} (X : Stand p l e R s m args below meth c T locs cells slots) (hx : p.tables.exec = Jvm.exec) (hg : g.method = m) {x y : Int64} {rest : List Value} (hd : decode c.code g.pc = .ok (.lrem, 1)) (hs : g.stack = .long y :: .long x :: rest) (hy : y ≠ 0)
    (hr : Steps p.tables e below (T.setTop { g with pc := g.pc + 1, stack := .long (x % y) :: rest }) target) : Steps p.tables e below (T.setTop g) target :=
  Jvm.Free.XS.lrem X.here hx hg hd hs hy (by rw [lrem_mod x y]; exact hr)
def Bya (Z : State) (h : Heap) (a : Addr) (z : Int32) (f : Int32 → Int32) : Prop := ∃ c : Cell, Arr Z h a c .byte ∧ c.slots.size = z.toNatClampNeg ∧ ∀ j : Int32, ¬ j < 0 → j < z → c.slots[j.toNatClampNeg]? = some (.int (f j))
theorem Bya.lt {Z : State} {h : Heap} {a : Addr} {z : Int32} {f : Int32 → Int32} (F : Bya Z h a z f) : a < h.size := by obtain ⟨c, A, -⟩ := F; exact A.lt
theorem Bya.ext {Z : State} {h h' : Heap} {a : Addr} {z : Int32} {f : Int32 → Int32} (F : Bya Z h a z f) (E : Ext h h') : Bya Z h' a z f := by obtain ⟨c, A, r⟩ := F; exact ⟨c, A.ext E, r⟩
theorem Bya.other {Z : State} {h h' : Heap} {a b : Addr} {z : Int32} {f : Int32 → Int32} {sl : Nat} {v : Value} (F : Bya Z h b z f) (W : Wr h h' a sl v) (q : b ≠ a) : Bya Z h' b z f := by obtain ⟨c, A, r⟩ := F; exact ⟨c, A.other W q, r⟩
theorem Bya.keep {Z : State} {h h' : Heap} {a : Addr} {z : Int32} {f : Int32 → Int32} {ws : List Addr} (F : Bya Z h a z f) (K : Keep h h' ws) (q : a ∉ ws) : Bya Z h' a z f := by obtain ⟨c, A, r⟩ := F; exact ⟨c, ⟨K.2.1 a c A.1 q, A.2⟩, r⟩
theorem Bya.set {Z : State} {h h' : Heap} {a : Addr} {z j v : Int32} {f : Int32 → Int32} {c : Cell} (A : Arr Z h a c .byte) (S : c.slots.size = z.toNatClampNeg) (H : ∀ j : Int32, ¬ j < 0 → j < z → c.slots[j.toNatClampNeg]? = some (.int (f j))) (hj : ¬ j < 0 ∧ j < z) (W : Wr h h' a j.toNatClampNeg (.int v)) : Bya Z h' a z (fun i => if i = j then v else f i) := by
  refine ⟨_, A.same W, by rw [sz_set]; exact S, fun i h1 h2 => ?_⟩
  by_cases q : i = j
  · rw [get_hit (inb_of S hj) q]; simp [q]
  · rw [get_miss hj.1 h1 q, H i h1 h2]; simp [q]
theorem Bya.of_arv {Z : State} {h : Heap} {a : Addr} {k : ClassId} {z : Int32} {vs : List Value} {es : List Int32} (F : Arv Z h a k .byte z vs (.int (0 : Int32))) (e : vs = es.map Value.int) : Bya Z h a z (fun i => es.getD i.toNatClampNeg 0) := by
  obtain ⟨c, A, -, S, -, H, -⟩ := F
  refine ⟨c, A, S, fun j h1 h2 => ?_⟩
  refine H.at (inb_of S ⟨h1, h2⟩) ?_
  subst e
  simp only [List.getD_eq_getElem?_getD, List.getElem?_map]
  cases es[j.toNatClampNeg]? <;> rfl
theorem own_b1 {x : Int32} (h : x = 1) : ¬ x = 0 := by rw [h]; decide
theorem own_cons {α : Type} {a b : α} {l m : List α} (h1 : a = b) (h2 : l = m) : a :: l = b :: m := by rw [h1, h2]
theorem own_arv {Z : State} {h : Heap} {a : Addr} {k : ClassId} {ty : FieldType} {z : Int32} {vs ws : List Value} {d : Value} (A : Arv Z h a k ty z vs d) (q : ws = vs) : Arv Z h a k ty z ws d := q ▸ A
theorem own_fld {Z : State} {h : Heap} {a : Addr} {C n d : String} {v w : Value} (F : Fld Z h a C n d v) (q : w = v) : Fld Z h a C n d w := q ▸ F
end New
end Jvm.RoadKit
namespace Jvm.Pilot.@@N@@
open Jvm Jvm.ClassFile Sem Op Lib Jvm.Free Jvm.Stand Jvm.LawKit Jvm.RoadKit Bundle Jvm.Pilot.@@N@@.Jvm.D
theorem ow0 {Z : State} {a0 : Array Value} (hw : ∀ d ∈ tables_1, d.before a0 Z = true) : (Jvm.Cond.classLink "com/example/markush/markush/index/TextSizeWithinPinLaw" (13 : Nat) "com/example/markush/markush/index/TextSize").before a0 Z = true := hw _ (List.mem_of_getElem? (i := 0) rfl)
theorem ow1 {Z : State} {a0 : Array Value} (hw : ∀ d ∈ tables_1, d.before a0 Z = true) : (Jvm.Cond.instantiable "com/example/markush/markush/index/TextSize" (3 : Nat)).before a0 Z = true := hw _ (List.mem_of_getElem? (i := 1) rfl)
theorem ow2 {Z : State} {a0 : Array Value} (hw : ∀ d ∈ tables_1, d.before a0 Z = true) : (Jvm.Cond.initialized "com/example/markush/markush/index/TextSize").before a0 Z = true := hw _ (List.mem_of_getElem? (i := 2) rfl)
theorem ow3 {Z : State} {a0 : Array Value} (hw : ∀ d ∈ tables_1, d.before a0 Z = true) : (Jvm.Cond.methodLink "com/example/markush/markush/index/TextSizeWithinPinLaw" (15 : Nat) ({ cls := "com/example/markush/markush/index/TextSize", name := "<init>", desc := "(JJJ)V" } : Jvm.MethodName)).before a0 Z = true := hw _ (List.mem_of_getElem? (i := 3) rfl)
theorem ow4 {Z : State} {a0 : Array Value} (hw : ∀ d ∈ tables_1, d.before a0 Z = true) : (Jvm.Cond.instanceMethod ({ cls := "com/example/markush/markush/index/TextSize", name := "<init>", desc := "(JJJ)V" } : Jvm.MethodName)).before a0 Z = true := hw _ (List.mem_of_getElem? (i := 4) rfl)
theorem ow5 {Z : State} {a0 : Array Value} (hw : ∀ d ∈ tables_1, d.before a0 Z = true) : (Jvm.Cond.code ({ cls := "com/example/markush/markush/index/TextSize", name := "<init>", desc := "(JJJ)V" } : Jvm.MethodName) prog_50_method_1_code (7 : Nat) (Option.none : Option Jvm.ClassFile.FieldType)).before a0 Z = true := hw _ (List.mem_of_getElem? (i := 5) rfl)
theorem ow6 {Z : State} {a0 : Array Value} (hw : ∀ d ∈ tables_1, d.before a0 Z = true) : (Jvm.Cond.methodLink "com/example/markush/markush/index/TextSize" (1 : Nat) ({ cls := "java/lang/Record", name := "<init>", desc := "()V" } : Jvm.MethodName)).before a0 Z = true := hw _ (List.mem_of_getElem? (i := 6) rfl)
theorem ow7 {Z : State} {a0 : Array Value} (hw : ∀ d ∈ tables_1, d.before a0 Z = true) : (Jvm.Cond.instanceMethod ({ cls := "java/lang/Record", name := "<init>", desc := "()V" } : Jvm.MethodName)).before a0 Z = true := hw _ (List.mem_of_getElem? (i := 7) rfl)
theorem ow9 {Z : State} {a0 : Array Value} (hw : ∀ d ∈ tables_1, d.before a0 Z = true) : (Jvm.Cond.initialized "java/lang/Record").before a0 Z = true := hw _ (List.mem_of_getElem? (i := 9) rfl)
theorem ow10 {Z : State} {a0 : Array Value} (hw : ∀ d ∈ tables_1, d.before a0 Z = true) : (Jvm.Cond.code ({ cls := "java/lang/Record", name := "<init>", desc := "()V" } : Jvm.MethodName) jdk_30_method_1_code (1 : Nat) (Option.none : Option Jvm.ClassFile.FieldType)).before a0 Z = true := hw _ (List.mem_of_getElem? (i := 10) rfl)
theorem ow11 {Z : State} {a0 : Array Value} (hw : ∀ d ∈ tables_1, d.before a0 Z = true) : (Jvm.Cond.methodLink "java/lang/Record" (1 : Nat) ({ cls := "java/lang/Object", name := "<init>", desc := "()V" } : Jvm.MethodName)).before a0 Z = true := hw _ (List.mem_of_getElem? (i := 11) rfl)
theorem ow12 {Z : State} {a0 : Array Value} (hw : ∀ d ∈ tables_1, d.before a0 Z = true) : (Jvm.Cond.instanceMethod ({ cls := "java/lang/Object", name := "<init>", desc := "()V" } : Jvm.MethodName)).before a0 Z = true := hw _ (List.mem_of_getElem? (i := 12) rfl)
theorem ow13 {Z : State} {a0 : Array Value} (hw : ∀ d ∈ tables_1, d.before a0 Z = true) : (Jvm.Cond.code ({ cls := "java/lang/Object", name := "<init>", desc := "()V" } : Jvm.MethodName) object_method_1_code (1 : Nat) (Option.none : Option Jvm.ClassFile.FieldType)).before a0 Z = true := hw _ (List.mem_of_getElem? (i := 13) rfl)
theorem ow14 {Z : State} {a0 : Array Value} (hw : ∀ d ∈ tables_1, d.before a0 Z = true) : (Jvm.Cond.fieldLink "com/example/markush/markush/index/TextSize" (7 : Nat) "com/example/markush/markush/index/TextSize" "characters" "J").before a0 Z = true := hw _ (List.mem_of_getElem? (i := 14) rfl)
theorem ow15 {Z : State} {a0 : Array Value} (hw : ∀ d ∈ tables_1, d.before a0 Z = true) : (Jvm.Cond.laysFinal "com/example/markush/markush/index/TextSize" "com/example/markush/markush/index/TextSize" "characters" "J").before a0 Z = true := hw _ (List.mem_of_getElem? (i := 15) rfl)
theorem ow16 {Z : State} {a0 : Array Value} (hw : ∀ d ∈ tables_1, d.before a0 Z = true) : (Jvm.Cond.fieldLink "com/example/markush/markush/index/TextSize" (13 : Nat) "com/example/markush/markush/index/TextSize" "terms" "J").before a0 Z = true := hw _ (List.mem_of_getElem? (i := 16) rfl)
theorem ow17 {Z : State} {a0 : Array Value} (hw : ∀ d ∈ tables_1, d.before a0 Z = true) : (Jvm.Cond.laysFinal "com/example/markush/markush/index/TextSize" "com/example/markush/markush/index/TextSize" "terms" "J").before a0 Z = true := hw _ (List.mem_of_getElem? (i := 17) rfl)
theorem ow18 {Z : State} {a0 : Array Value} (hw : ∀ d ∈ tables_1, d.before a0 Z = true) : (Jvm.Cond.fieldLink "com/example/markush/markush/index/TextSize" (16 : Nat) "com/example/markush/markush/index/TextSize" "termBytes" "J").before a0 Z = true := hw _ (List.mem_of_getElem? (i := 18) rfl)
theorem ow19 {Z : State} {a0 : Array Value} (hw : ∀ d ∈ tables_1, d.before a0 Z = true) : (Jvm.Cond.laysFinal "com/example/markush/markush/index/TextSize" "com/example/markush/markush/index/TextSize" "termBytes" "J").before a0 Z = true := hw _ (List.mem_of_getElem? (i := 19) rfl)
theorem ow20 {Z : State} {a0 : Array Value} (hw : ∀ d ∈ tables_1, d.before a0 Z = true) : (Jvm.Cond.methodLink "com/example/markush/markush/index/TextSizeWithinPinLaw" (18 : Nat) ({ cls := "com/example/markush/markush/index/TextSizeWithinPinLaw", name := "atMost", desc := "(JJ)Z" } : Jvm.MethodName)).before a0 Z = true := hw _ (List.mem_of_getElem? (i := 20) rfl)
theorem ow21 {Z : State} {a0 : Array Value} (hw : ∀ d ∈ tables_1, d.before a0 Z = true) : (Jvm.Cond.static ({ cls := "com/example/markush/markush/index/TextSizeWithinPinLaw", name := "atMost", desc := "(JJ)Z" } : Jvm.MethodName)).before a0 Z = true := hw _ (List.mem_of_getElem? (i := 21) rfl)
theorem ow22 {Z : State} {a0 : Array Value} (hw : ∀ d ∈ tables_1, d.before a0 Z = true) : (Jvm.Cond.initialized "com/example/markush/markush/index/TextSizeWithinPinLaw").before a0 Z = true := hw _ (List.mem_of_getElem? (i := 22) rfl)
theorem ow23 {Z : State} {a0 : Array Value} (hw : ∀ d ∈ tables_1, d.before a0 Z = true) : (Jvm.Cond.code ({ cls := "com/example/markush/markush/index/TextSizeWithinPinLaw", name := "atMost", desc := "(JJ)Z" } : Jvm.MethodName) method_2_code (4 : Nat) (Option.some Jvm.ClassFile.FieldType.boolean)).before a0 Z = true := hw _ (List.mem_of_getElem? (i := 23) rfl)
theorem ow24 {Z : State} {a0 : Array Value} (hw : ∀ d ∈ tables_1, d.before a0 Z = true) : (Jvm.Cond.methodLink "com/example/markush/markush/index/TextSizeWithinPinLaw" (7 : Nat) ({ cls := "java/lang/Math", name := "max", desc := "(JJ)J" } : Jvm.MethodName)).before a0 Z = true := hw _ (List.mem_of_getElem? (i := 24) rfl)
theorem ow25 {Z : State} {a0 : Array Value} (hw : ∀ d ∈ tables_1, d.before a0 Z = true) : (Jvm.Cond.static ({ cls := "java/lang/Math", name := "max", desc := "(JJ)J" } : Jvm.MethodName)).before a0 Z = true := hw _ (List.mem_of_getElem? (i := 25) rfl)
theorem ow26 {Z : State} {a0 : Array Value} (hw : ∀ d ∈ tables_1, d.before a0 Z = true) : (Jvm.Cond.initialized "java/lang/Math").before a0 Z = true := hw _ (List.mem_of_getElem? (i := 26) rfl)
theorem ow27 {Z : State} {a0 : Array Value} (hw : ∀ d ∈ tables_1, d.before a0 Z = true) : (Jvm.Cond.code ({ cls := "java/lang/Math", name := "max", desc := "(JJ)J" } : Jvm.MethodName) jdk_29_method_66_code (4 : Nat) (Option.some Jvm.ClassFile.FieldType.long)).before a0 Z = true := hw _ (List.mem_of_getElem? (i := 27) rfl)
theorem ow28 {Z : State} {a0 : Array Value} (hw : ∀ d ∈ tables_1, d.before a0 Z = true) : (Jvm.Cond.methodLink "com/example/markush/markush/index/TextSizeWithinPinLaw" (24 : Nat) ({ cls := "com/example/markush/markush/index/TextSize", name := "within", desc := "(Lcom/example/markush/markush/index/TextSize;)Z" } : Jvm.MethodName)).before a0 Z = true := hw _ (List.mem_of_getElem? (i := 28) rfl)
theorem ow29 {Z : State} {a0 : Array Value} (hw : ∀ d ∈ tables_1, d.before a0 Z = true) : (Jvm.Cond.declares ({ cls := "com/example/markush/markush/index/TextSize", name := "within", desc := "(Lcom/example/markush/markush/index/TextSize;)Z" } : Jvm.MethodName)).before a0 Z = true := hw _ (List.mem_of_getElem? (i := 29) rfl)
theorem ow30 {Z : State} {a0 : Array Value} (hw : ∀ d ∈ tables_1, d.before a0 Z = true) : (Jvm.Cond.instanceMethod ({ cls := "com/example/markush/markush/index/TextSize", name := "within", desc := "(Lcom/example/markush/markush/index/TextSize;)Z" } : Jvm.MethodName)).before a0 Z = true := hw _ (List.mem_of_getElem? (i := 30) rfl)
theorem ow31 {Z : State} {a0 : Array Value} (hw : ∀ d ∈ tables_1, d.before a0 Z = true) : (Jvm.Cond.selects "com/example/markush/markush/index/TextSize" ({ cls := "com/example/markush/markush/index/TextSize", name := "within", desc := "(Lcom/example/markush/markush/index/TextSize;)Z" } : Jvm.MethodName) ({ cls := "com/example/markush/markush/index/TextSize", name := "within", desc := "(Lcom/example/markush/markush/index/TextSize;)Z" } : Jvm.MethodName)).before a0 Z = true := hw _ (List.mem_of_getElem? (i := 31) rfl)
theorem ow32 {Z : State} {a0 : Array Value} (hw : ∀ d ∈ tables_1, d.before a0 Z = true) : (Jvm.Cond.code ({ cls := "com/example/markush/markush/index/TextSize", name := "within", desc := "(Lcom/example/markush/markush/index/TextSize;)Z" } : Jvm.MethodName) prog_50_method_4_code (2 : Nat) (Option.some Jvm.ClassFile.FieldType.boolean)).before a0 Z = true := hw _ (List.mem_of_getElem? (i := 32) rfl)
theorem own_max (a b : Int64) : ((if a < b then b else a) = b) ↔ ¬ b < a := by
  by_cases h : a < b
  · rw [if_pos h]
    exact ⟨fun _ => by rw [Int64.lt_iff_toInt_lt] at h ⊢; omega, fun _ => rfl⟩
  · rw [if_neg h]
    constructor
    · intro q; subst q; exact h
    · intro q
      apply Int64.toInt_inj.mp
      rw [Int64.lt_iff_toInt_lt] at h q; omega
theorem d2_0 : decode jdk_30_method_1_code 0 = .ok (.aload_n 0, 1) := by decide +kernel
theorem d2_1 : decode jdk_30_method_1_code 1 = .ok (.invokespecial 1, 3) := by decide +kernel
theorem d2_4 : decode jdk_30_method_1_code 4 = .ok (.return_, 1) := by decide +kernel
theorem pn_2 : plainName "java/lang/Record" = true := by first | (simp [plainName, overriddenIn]; done) | decide +kernel
theorem ef_rm2 (m : MethodId) (y0 : Addr) : entryFrame m #[(.ref y0)] 1 = mkF m 0 #[.val (.ref y0)] [] := by first | (simp [entryFrame, mkF, argsToLocals, Value.category]; done) | rfl
def Q_rm2 (Z : State) (a2_0 : Addr) (h0 : Heap) (n0 : Nat) (v : Option Value) (h : Heap) (L : List Loc) : Prop := v = none ∧ Fr n0 L ∧ h = h0
set_option maxRecDepth 65536 in
set_option maxHeartbeats 40000000 in
theorem rm2 (l : Launch) (Z : State) (a0 : Array Value) (hw : ∀ d ∈ tables_1, d.before a0 Z = true) (ws : List Jvm.Cond) (a2_0 : Addr) (h0 : Heap) (n0 : Nat) (Z0 : n0 ≤ h0.size) :
    MetFree l (⟨"java/lang/Record", "<init>", "()V"⟩ : MethodName) (head1 (Jvm.Cond.code (⟨"java/lang/Record", "<init>", "()V"⟩ : MethodName) jdk_30_method_1_code 1 none :: ws) ({ frames := 1, cells := 0, slots := 0, locals := 12 } : Room)) (fun a U => a = #[(.ref a2_0)] ∧ Z.Warmed39 U.vm ∧ U.heap = h0) (fun _ _ _ _ _ => True) (fun _ U o U' => ∃ v L, o = .returned v ∧ Q_rm2 Z a2_0 h0 n0 v U'.heap L ∧ FrameEnd U o U' L ({ frames := 1, cells := 0, slots := 0, locals := 12 } : Room).cells ({ frames := 1, cells := 0, slots := 0, locals := 12 } : Room).slots) := by
  refine MetFree.of_bodySF (plainFor_of_name pn_2) hisR ?_
  intro p e s m args below meth c s₁ Bd hml0 hP hK
  obtain ⟨rfl, hZ, hh⟩ := hP
  have hx := Bd.exec
  have hby := Bd.bytes
  have hml : c.maxLocals = 1 := hml0
  have hown : s.vm.findClass "java/lang/Record" = some m.cls := findClass_of_methodNamed Bd.named
  have hnm := (name_of_methodNamed Bd.named Bd.method).1
  have X0 : Stand p l e ({ frames := 1, cells := 0, slots := 0, locals := 12 } : Room) s m #[(.ref a2_0)] below meth c s₁ [] 0 0 := Stand.of_body Bd
  have e0 : s₁.heap = h0 := by rw [← hh, Bd.state]; rfl
  have N0 := Fr.nil n0
  have pre0 : ∀ t, Steps p.tables e below (s₁.setTop (mkF m 0 #[.val (.ref a2_0)] [])) t → Steps p.tables e below (s₁.setTop (entryFrame m #[(.ref a2_0)] 1)) t := fun t k => castTop (ef_rm2 m a2_0) k
  obtain ⟨T1, X1, e1, st1⟩ := initO X0 hx hZ hown (ow11 hw) (ow12 hw) (ow13 hw) e0 (g := (mkF m 1 #[.val (.ref a2_0)] [(.ref a2_0)])) rfl (by rw [hml]; rfl) rfl (hb hby d2_1) (by decide) (W := 0) (by show 2 * 0 + _ ≤ _; exact Nat.le_of_eq rfl) (by decide)
  obtain ⟨fs, hr, hrun, hended, hW, hsame⟩ := X1.leave (v := none) (fun _ => rfl)
  refine ⟨_, _, pre0 _ ?_, hrun, hended, _, _, rfl, ?_, ⟨_, rfl⟩, hW, hsame.mono (by decide) (by decide)⟩
  · show Steps p.tables e below (s₁.setTop (mkF m 0 #[.val (.ref a2_0)] [])) _
    refine XS.aloadN X0.here hx rfl (hb hby d2_0) rfl rfl ?_
    show Steps p.tables e below (s₁.setTop (mkF m 1 #[.val (.ref a2_0)] [(.ref a2_0)])) _
    refine st1 _ ?_
    show Steps p.tables e below (T1.setTop (mkF m 4 #[.val (.ref a2_0)] [])) _
    exact X1.returnOut hx Bd.returns (hb hby d2_4) hr
  · show Q_rm2 Z a2_0 h0 n0 _ T1.heap _
    rw [e1]
    exact ⟨rfl, N0, rfl⟩
theorem pd___V : parseMethodDescriptor "()V" = some ⟨[], none⟩ := by decide +kernel
theorem d1_0 : decode prog_50_method_1_code 0 = .ok (.aload_n 0, 1) := by decide +kernel
theorem d1_1 : decode prog_50_method_1_code 1 = .ok (.invokespecial 1, 3) := by decide +kernel
theorem d1_4 : decode prog_50_method_1_code 4 = .ok (.aload_n 0, 1) := by decide +kernel
theorem d1_5 : decode prog_50_method_1_code 5 = .ok (.lload_n 1, 1) := by decide +kernel
theorem d1_6 : decode prog_50_method_1_code 6 = .ok (.putfield 7, 3) := by decide +kernel
theorem d1_9 : decode prog_50_method_1_code 9 = .ok (.aload_n 0, 1) := by decide +kernel
theorem d1_10 : decode prog_50_method_1_code 10 = .ok (.lload_n 3, 1) := by decide +kernel
theorem d1_11 : decode prog_50_method_1_code 11 = .ok (.putfield 13, 3) := by decide +kernel
theorem d1_14 : decode prog_50_method_1_code 14 = .ok (.aload_n 0, 1) := by decide +kernel
theorem d1_15 : decode prog_50_method_1_code 15 = .ok (.lload 5, 2) := by decide +kernel
theorem d1_17 : decode prog_50_method_1_code 17 = .ok (.putfield 16, 3) := by decide +kernel
theorem d1_20 : decode prog_50_method_1_code 20 = .ok (.return_, 1) := by decide +kernel
theorem pn_1 : plainName "com/example/markush/markush/index/TextSize" = true := by first | (simp [plainName, overriddenIn]; done) | decide +kernel
theorem ef_rm1 (m : MethodId) (y0 : Addr) (y1 : Int64) (y2 : Int64) (y3 : Int64) : entryFrame m #[(.ref y0), (.long y1), (.long y2), (.long y3)] 7 = mkF m 0 #[.val (.ref y0), .val (.long y1), .second, .val (.long y2), .second, .val (.long y3), .second] [] := by first | (simp [entryFrame, mkF, argsToLocals, Value.category]; done) | rfl
def Q_rm1 (Z : State) (a1_0 : Addr) (q1_1 : Int64) (q1_2 : Int64) (q1_3 : Int64) (w_characters_a1_0 : Int64) (w_terms_a1_0 : Int64) (w_termBytes_a1_0 : Int64) (h0 : Heap) (n0 : Nat) (v : Option Value) (h : Heap) (L : List Loc) : Prop := v = none ∧ Fr n0 L ∧ Keep h0 h [a1_0] ∧ Exa Z h a1_0 "com/example/markush/markush/index/TextSize" ∧ Fld Z h a1_0 "com/example/markush/markush/index/TextSize" "characters" "J" (.long q1_1) ∧ Fld Z h a1_0 "com/example/markush/markush/index/TextSize" "terms" "J" (.long q1_2) ∧ Fld Z h a1_0 "com/example/markush/markush/index/TextSize" "termBytes" "J" (.long q1_3)
set_option maxRecDepth 65536 in
set_option maxHeartbeats 40000000 in
theorem rm1 (l : Launch) (Z : State) (a0 : Array Value) (hw : ∀ d ∈ tables_1, d.before a0 Z = true) (ws : List Jvm.Cond) (a1_0 : Addr) (q1_1 : Int64) (q1_2 : Int64) (q1_3 : Int64) (w_characters_a1_0 : Int64) (w_terms_a1_0 : Int64) (w_termBytes_a1_0 : Int64) (h0 : Heap) (n0 : Nat) (Z0 : n0 ≤ h0.size) (E_a1_0 : Exa Z h0 a1_0 "com/example/markush/markush/index/TextSize") (F_characters_a1_0 : Fld Z h0 a1_0 "com/example/markush/markush/index/TextSize" "characters" "J" (.long w_characters_a1_0)) (g_a1_0 : n0 ≤ a1_0) (F_terms_a1_0 : Fld Z h0 a1_0 "com/example/markush/markush/index/TextSize" "terms" "J" (.long w_terms_a1_0)) (F_termBytes_a1_0 : Fld Z h0 a1_0 "com/example/markush/markush/index/TextSize" "termBytes" "J" (.long w_termBytes_a1_0)) :
    MetFree l (⟨"com/example/markush/markush/index/TextSize", "<init>", "(JJJ)V"⟩ : MethodName) (head1 (Jvm.Cond.code (⟨"com/example/markush/markush/index/TextSize", "<init>", "(JJJ)V"⟩ : MethodName) prog_50_method_1_code 7 none :: ws) ({ frames := 2, cells := 0, slots := 0, locals := 24 } : Room)) (fun a U => a = #[(.ref a1_0), (.long q1_1), (.long q1_2), (.long q1_3)] ∧ Z.Warmed39 U.vm ∧ U.heap = h0) (fun _ _ _ _ _ => True) (fun _ U o U' => ∃ v L, o = .returned v ∧ Q_rm1 Z a1_0 q1_1 q1_2 q1_3 w_characters_a1_0 w_terms_a1_0 w_termBytes_a1_0 h0 n0 v U'.heap L ∧ FrameEnd U o U' L ({ frames := 2, cells := 0, slots := 0, locals := 24 } : Room).cells ({ frames := 2, cells := 0, slots := 0, locals := 24 } : Room).slots) := by
  refine MetFree.of_bodySF (plainFor_of_name pn_1) hisR ?_
  intro p e s m args below meth c s₁ Bd hml0 hP hK
  obtain ⟨rfl, hZ, hh⟩ := hP
  have hx := Bd.exec
  have hby := Bd.bytes
  have hml : c.maxLocals = 7 := hml0
  have hown : s.vm.findClass "com/example/markush/markush/index/TextSize" = some m.cls := findClass_of_methodNamed Bd.named
  have hnm := (name_of_methodNamed Bd.named Bd.method).1
  have X0 : Stand p l e ({ frames := 2, cells := 0, slots := 0, locals := 24 } : Room) s m #[(.ref a1_0), (.long q1_1), (.long q1_2), (.long q1_3)] below meth c s₁ [] 0 0 := Stand.of_body Bd
  have e0 : s₁.heap = h0 := by rw [← hh, Bd.state]; rfl
  have N0 := Fr.nil n0
  have pre0 : ∀ t, Steps p.tables e below (s₁.setTop (mkF m 0 #[.val (.ref a1_0), .val (.long q1_1), .second, .val (.long q1_2), .second, .val (.long q1_3), .second] [])) t → Steps p.tables e below (s₁.setTop (entryFrame m #[(.ref a1_0), (.long q1_1), (.long q1_2), (.long q1_3)] 7)) t := fun t k => castTop (ef_rm1 m a1_0 q1_1 q1_2 q1_3) k
  obtain ⟨_, _, ⟨T1, L1, k1, n1⟩, -, X1, ⟨Lc1, hQ1, l1, y1, z1⟩, st1⟩ := X0.specialBack hx (y := (⟨"java/lang/Record", "<init>", "()V"⟩ : MethodName)) rfl hown (mvT hZ (ow6 hw)) (mvT hZ (ow7 hw)) (mvT hZ (ow10 hw)) (by decide) (backOf (W := 0) (rm2 l Z a0 hw [] a1_0 h0 n0 Z0 ) hZ (ow10 hw) (ow9 hw) (by decide) (by decide)) (g := (mkF m 1 #[.val (.ref a1_0), .val (.long q1_1), .second, .val (.long q1_2), .second, .val (.long q1_3), .second] [(.ref a1_0)])) rfl (by rw [hml]; rfl) (Steps.refl _) (a := a1_0) (argsL := []) (rest := []) (lenOf pd___V rfl) rfl (by show 2 * 0 + _ ≤ _; exact Nat.le_of_eq rfl) (hb hby d1_1) (fun _ _ => ⟨rfl, e0, (by decide : 0 + 0 ≤ _), (by decide : 0 + 0 ≤ _)⟩)
  dsimp only [Pt.U, Pt.locs, Pt.cells, Pt.slots] at X1 l1 y1 z1 st1 hQ1
  subst l1 y1 z1
  obtain ⟨rfl, Nq1, e1⟩ := hQ1
  have N1 := Fr.app N0 Nq1
  obtain ⟨T2, h2, X2, e2, W2, st2⟩ := putF X1 hx hZ hown (host := "") (Or.inl (ow14 hw)) Via.refl e1 F_characters_a1_0 E_a1_0 (Or.inr ⟨(ow15 hw), rfl, hnm⟩) (ow1 hw) (ty := .long) (by decide) rfl rfl (g := (mkF m 6 #[.val (.ref a1_0), .val (.long q1_1), .second, .val (.long q1_2), .second, .val (.long q1_3), .second] [(.long q1_1), (.ref a1_0)])) rfl rfl (hb hby d1_6)
  have F2 := F_characters_a1_0.same W2
  have K2 : Keep h0 h2 [a1_0] := (Keep.refl h0 [a1_0]).wr W2 (Or.inl (List.mem_of_getElem? (i := 0) rfl))
  have Z2 : n0 ≤ h2.size := Nat.le_trans Z0 K2.1
  have N2 := Fr.snoc X2 N1 g_a1_0
  have f3 := (E_a1_0.wr W2)
  have f4 := (F_terms_a1_0.other W2 (Or.inr (slot_ne (Or.inr (ow17 hw)) (Or.inr (ow15 hw)) (by decide) (t := .long) (t' := .long) (by decide) (by decide))))
  obtain ⟨T5, h5, X5, e5, W5, st5⟩ := putF X2 hx hZ hown (host := "") (Or.inl (ow16 hw)) Via.refl e2 f4 f3 (Or.inr ⟨(ow17 hw), rfl, hnm⟩) (ow1 hw) (ty := .long) (by decide) rfl rfl (g := (mkF m 11 #[.val (.ref a1_0), .val (.long q1_1), .second, .val (.long q1_2), .second, .val (.long q1_3), .second] [(.long q1_2), (.ref a1_0)])) rfl rfl (hb hby d1_11)
  have F5 := f4.same W5
  have K5 : Keep h0 h5 [a1_0] := K2.wr W5 (Or.inl (List.mem_of_getElem? (i := 0) rfl))
  have Z5 : n0 ≤ h5.size := Nat.le_trans Z0 K5.1
  have N5 := Fr.snoc X5 N2 g_a1_0
  have f6 := (f3.wr W5)
  have f7 := ((F_termBytes_a1_0.other W2 (Or.inr (slot_ne (Or.inr (ow19 hw)) (Or.inr (ow15 hw)) (by decide) (t := .long) (t' := .long) (by decide) (by decide)))).other W5 (Or.inr (slot_ne (Or.inr (ow19 hw)) (Or.inr (ow17 hw)) (by decide) (t := .long) (t' := .long) (by decide) (by decide))))
  obtain ⟨T8, h8, X8, e8, W8, st8⟩ := putF X5 hx hZ hown (host := "") (Or.inl (ow18 hw)) Via.refl e5 f7 f6 (Or.inr ⟨(ow19 hw), rfl, hnm⟩) (ow1 hw) (ty := .long) (by decide) rfl rfl (g := (mkF m 17 #[.val (.ref a1_0), .val (.long q1_1), .second, .val (.long q1_2), .second, .val (.long q1_3), .second] [(.long q1_3), (.ref a1_0)])) rfl rfl (hb hby d1_17)
  have F8 := f7.same W8
  have K8 : Keep h0 h8 [a1_0] := K5.wr W8 (Or.inl (List.mem_of_getElem? (i := 0) rfl))
  have Z8 : n0 ≤ h8.size := Nat.le_trans Z0 K8.1
  have N8 := Fr.snoc X8 N5 g_a1_0
  obtain ⟨fs, hr, hrun, hended, hW, hsame⟩ := X8.leave (v := none) (fun _ => rfl)
  refine ⟨_, _, pre0 _ ?_, hrun, hended, _, _, rfl, ?_, ⟨_, rfl⟩, hW, hsame.mono (by decide) (by decide)⟩
  · show Steps p.tables e below (s₁.setTop (mkF m 0 #[.val (.ref a1_0), .val (.long q1_1), .second, .val (.long q1_2), .second, .val (.long q1_3), .second] [])) _
    refine XS.aloadN X0.here hx rfl (hb hby d1_0) rfl rfl ?_
    show Steps p.tables e below (s₁.setTop (mkF m 1 #[.val (.ref a1_0), .val (.long q1_1), .second, .val (.long q1_2), .second, .val (.long q1_3), .second] [(.ref a1_0)])) _
    refine st1.trans ?_
    show Steps p.tables e below (T1.setTop (mkF m 4 #[.val (.ref a1_0), .val (.long q1_1), .second, .val (.long q1_2), .second, .val (.long q1_3), .second] [])) _
    refine XS.aloadN X1.here hx rfl (hb hby d1_4) rfl rfl ?_
    show Steps p.tables e below (T1.setTop (mkF m 5 #[.val (.ref a1_0), .val (.long q1_1), .second, .val (.long q1_2), .second, .val (.long q1_3), .second] [(.ref a1_0)])) _
    refine XS.lloadN X1.here hx rfl (hb hby d1_5) rfl ?_
    show Steps p.tables e below (T1.setTop (mkF m 6 #[.val (.ref a1_0), .val (.long q1_1), .second, .val (.long q1_2), .second, .val (.long q1_3), .second] [(.long q1_1), (.ref a1_0)])) _
    refine st2 _ ?_
    show Steps p.tables e below (T2.setTop (mkF m 9 #[.val (.ref a1_0), .val (.long q1_1), .second, .val (.long q1_2), .second, .val (.long q1_3), .second] [])) _
    refine XS.aloadN X2.here hx rfl (hb hby d1_9) rfl rfl ?_
    show Steps p.tables e below (T2.setTop (mkF m 10 #[.val (.ref a1_0), .val (.long q1_1), .second, .val (.long q1_2), .second, .val (.long q1_3), .second] [(.ref a1_0)])) _
    refine XS.lloadN X2.here hx rfl (hb hby d1_10) rfl ?_
    show Steps p.tables e below (T2.setTop (mkF m 11 #[.val (.ref a1_0), .val (.long q1_1), .second, .val (.long q1_2), .second, .val (.long q1_3), .second] [(.long q1_2), (.ref a1_0)])) _
    refine st5 _ ?_
    show Steps p.tables e below (T5.setTop (mkF m 14 #[.val (.ref a1_0), .val (.long q1_1), .second, .val (.long q1_2), .second, .val (.long q1_3), .second] [])) _
    refine XS.aloadN X5.here hx rfl (hb hby d1_14) rfl rfl ?_
    show Steps p.tables e below (T5.setTop (mkF m 15 #[.val (.ref a1_0), .val (.long q1_1), .second, .val (.long q1_2), .second, .val (.long q1_3), .second] [(.ref a1_0)])) _
    refine XS.lload X5.here hx rfl (hb hby d1_15) rfl ?_
    show Steps p.tables e below (T5.setTop (mkF m 17 #[.val (.ref a1_0), .val (.long q1_1), .second, .val (.long q1_2), .second, .val (.long q1_3), .second] [(.long q1_3), (.ref a1_0)])) _
    refine st8 _ ?_
    show Steps p.tables e below (T8.setTop (mkF m 20 #[.val (.ref a1_0), .val (.long q1_1), .second, .val (.long q1_2), .second, .val (.long q1_3), .second] [])) _
    exact X8.returnOut hx Bd.returns (hb hby d1_20) hr
  · have f9 := (f6.wr W8)
    have f10 := ((F2.other W5 (Or.inr (slot_ne (Or.inr (ow15 hw)) (Or.inr (ow17 hw)) (by decide) (t := .long) (t' := .long) (by decide) (by decide)))).other W8 (Or.inr (slot_ne (Or.inr (ow15 hw)) (Or.inr (ow19 hw)) (by decide) (t := .long) (t' := .long) (by decide) (by decide))))
    have f11 := (F5.other W8 (Or.inr (slot_ne (Or.inr (ow17 hw)) (Or.inr (ow19 hw)) (by decide) (t := .long) (t' := .long) (by decide) (by decide))))
    show Q_rm1 Z a1_0 q1_1 q1_2 q1_3 w_characters_a1_0 w_terms_a1_0 w_termBytes_a1_0 h0 n0 _ T8.heap _
    rw [e8]
    exact ⟨rfl, N8, K8, f9, f10, f11, F8⟩
theorem d5_0 : decode jdk_29_method_66_code 0 = .ok (.lload_n 0, 1) := by decide +kernel
theorem d5_1 : decode jdk_29_method_66_code 1 = .ok (.lload_n 2, 1) := by decide +kernel
theorem d5_2 : decode jdk_29_method_66_code 2 = .ok (.lcmp, 1) := by decide +kernel
theorem d5_3 : decode jdk_29_method_66_code 3 = .ok (.ifCond .lt 7, 3) := by decide +kernel
theorem d5_6 : decode jdk_29_method_66_code 6 = .ok (.lload_n 0, 1) := by decide +kernel
theorem d5_7 : decode jdk_29_method_66_code 7 = .ok (.goto 4, 3) := by decide +kernel
theorem d5_10 : decode jdk_29_method_66_code 10 = .ok (.lload_n 2, 1) := by decide +kernel
theorem d5_11 : decode jdk_29_method_66_code 11 = .ok (.lreturn, 1) := by decide +kernel
theorem ef_rm5 (m : MethodId) (y0 : Int64) (y1 : Int64) : entryFrame m #[(.long y0), (.long y1)] 4 = mkF m 0 #[.val (.long y0), .second, .val (.long y1), .second] [] := by first | (simp [entryFrame, mkF, argsToLocals, Value.category]; done) | rfl
def Q_rm5 (Z : State) (q5_0 : Int64) (q5_1 : Int64) (h0 : Heap) (n0 : Nat) (v : Option Value) (h : Heap) (L : List Loc) : Prop := v = some (.long (if q5_0 < q5_1 then q5_1 else q5_0)) ∧ Fr n0 L ∧ h = h0
set_option maxRecDepth 65536 in
set_option maxHeartbeats 40000000 in
theorem rm5 (l : Launch) (Z : State) (a0 : Array Value) (hw : ∀ d ∈ tables_1, d.before a0 Z = true) (ws : List Jvm.Cond) (q5_0 : Int64) (q5_1 : Int64) (h0 : Heap) (n0 : Nat) (Z0 : n0 ≤ h0.size) :
    MetFree l (⟨"java/lang/Math", "max", "(JJ)J"⟩ : MethodName) (head1 (Jvm.Cond.code (⟨"java/lang/Math", "max", "(JJ)J"⟩ : MethodName) jdk_29_method_66_code 4 (some .long) :: ws) ({ frames := 0, cells := 0, slots := 0, locals := 0 } : Room)) (fun a U => a = #[(.long q5_0), (.long q5_1)] ∧ Z.Warmed39 U.vm ∧ U.heap = h0) (fun _ _ _ _ _ => True) (fun _ U o U' => ∃ v L, o = .returned v ∧ Q_rm5 Z q5_0 q5_1 h0 n0 v U'.heap L ∧ FrameEnd U o U' L ({ frames := 0, cells := 0, slots := 0, locals := 0 } : Room).cells ({ frames := 0, cells := 0, slots := 0, locals := 0 } : Room).slots) := by
  refine MetFree.of_bodySF (Jvm.Free.JP.mathPlain rfl (by decide +kernel)) hisR ?_
  intro p e s m args below meth c s₁ Bd hml0 hP hK
  obtain ⟨rfl, hZ, hh⟩ := hP
  have hx := Bd.exec
  have hby := Bd.bytes
  have hml : c.maxLocals = 4 := hml0
  have hown : s.vm.findClass "java/lang/Math" = some m.cls := findClass_of_methodNamed Bd.named
  have hnm := (name_of_methodNamed Bd.named Bd.method).1
  have X0 : Stand p l e ({ frames := 0, cells := 0, slots := 0, locals := 0 } : Room) s m #[(.long q5_0), (.long q5_1)] below meth c s₁ [] 0 0 := Stand.of_body Bd
  have e0 : s₁.heap = h0 := by rw [← hh, Bd.state]; rfl
  have N0 := Fr.nil n0
  have pre0 : ∀ t, Steps p.tables e below (s₁.setTop (mkF m 0 #[.val (.long q5_0), .second, .val (.long q5_1), .second] [])) t → Steps p.tables e below (s₁.setTop (entryFrame m #[(.long q5_0), (.long q5_1)] 4)) t := fun t k => castTop (ef_rm5 m q5_0 q5_1) k
  have G1 : ∀ t, Steps p.tables e below (s₁.setTop (mkF m 3 #[.val (.long q5_0), .second, .val (.long q5_1), .second] [(.int (lcmpW q5_0 q5_1))])) t → Steps p.tables e below (s₁.setTop (mkF m 0 #[.val (.long q5_0), .second, .val (.long q5_1), .second] [])) t := by
    intro t k
    show Steps p.tables e below (s₁.setTop (mkF m 0 #[.val (.long q5_0), .second, .val (.long q5_1), .second] [])) _
    refine XS.lloadN X0.here hx rfl (hb hby d5_0) rfl ?_
    show Steps p.tables e below (s₁.setTop (mkF m 1 #[.val (.long q5_0), .second, .val (.long q5_1), .second] [(.long q5_0)])) _
    refine XS.lloadN X0.here hx rfl (hb hby d5_1) rfl ?_
    show Steps p.tables e below (s₁.setTop (mkF m 2 #[.val (.long q5_0), .second, .val (.long q5_1), .second] [(.long q5_1), (.long q5_0)])) _
    refine XS.lcmp X0.here hx rfl (hb hby d5_2) rfl ?_
    exact k
  obtain ⟨v3, hv3⟩ : ∃ z : Int64, z = (if q5_0 < q5_1 then q5_1 else q5_0) := ⟨_, rfl⟩
  obtain ⟨T4, Lo4, X4, N4, e4, G4⟩ := own_join X0 N0 (h := h0) (mkF m 3 #[.val (.long q5_0), .second, .val (.long q5_1), .second] [(.int (lcmpW q5_0 q5_1))]) (mkF m 11 #[.val (.long q5_0), .second, .val (.long q5_1), .second] [(.long v3)]) (by
    by_cases h3_2 : q5_0 < q5_1
    · refine ⟨s₁, _, X0, N0, e0, fun t k => ?_⟩
      rw [show v3 = q5_1 from hv3.trans (if_pos h3_2)] at k
      show Steps p.tables e below (s₁.setTop (mkF m 3 #[.val (.long q5_0), .second, .val (.long q5_1), .second] [(.int (lcmpW q5_0 q5_1))])) _
      refine XS.ifYes X0.here hx rfl (pc0 := 3) (pc' := 10) rfl (hb hby d5_3) rfl ((if0 _ _).trans (tlt ((lw_lt _ _).mpr h3_2)).1) (by decide) (by decide) ?_
      show Steps p.tables e below (s₁.setTop (mkF m 10 #[.val (.long q5_0), .second, .val (.long q5_1), .second] [])) _
      refine XS.lloadN X0.here hx rfl (hb hby d5_10) rfl ?_
      exact k
    · refine ⟨s₁, _, X0, N0, e0, fun t k => ?_⟩
      rw [show v3 = q5_0 from hv3.trans (if_neg h3_2)] at k
      show Steps p.tables e below (s₁.setTop (mkF m 3 #[.val (.long q5_0), .second, .val (.long q5_1), .second] [(.int (lcmpW q5_0 q5_1))])) _
      refine XS.ifNo X0.here hx rfl (hb hby d5_3) rfl ((if0 _ _).trans (flt (fun q => h3_2 ((lw_lt _ _).mp q))).1) ?_
      show Steps p.tables e below (s₁.setTop (mkF m 6 #[.val (.long q5_0), .second, .val (.long q5_1), .second] [])) _
      refine XS.lloadN X0.here hx rfl (hb hby d5_6) rfl ?_
      show Steps p.tables e below (s₁.setTop (mkF m 7 #[.val (.long q5_0), .second, .val (.long q5_1), .second] [(.long q5_0)])) _
      refine XS.goto X0.here hx rfl (pc0 := 7) (pc' := 11) rfl (hb hby d5_7) (by decide) (by decide) ?_
      exact k)
  obtain ⟨fs, hr, hrun, hended, hW, hsame⟩ := X4.leave (v := some (.long v3)) (fun h => by rw [Bd.returns] at h; cases h)
  refine ⟨_, _, pre0 _ ?_, hrun, hended, _, _, rfl, ?_, ⟨_, rfl⟩, hW, hsame.mono (by decide) (by decide)⟩
  · refine G1 _ ?_
    refine G4 _ ?_
    show Steps p.tables e below (T4.setTop (mkF m 11 #[.val (.long q5_0), .second, .val (.long q5_1), .second] [(.long v3)])) _
    jvm_step X4.here [X4.here.top, hx, (hb hby d5_11), X4.method', Bd.returns, narrow]
    first | (intro acts; rw [hr _ acts rfl rfl rfl]) | rw [hr _ _ rfl rfl rfl]
    exact Steps.refl _
  · show Q_rm5 Z q5_0 q5_1 h0 n0 _ T4.heap _
    rw [e4]
    subst hv3
    exact ⟨rfl, N4, rfl⟩
theorem pd__JJ_J : parseMethodDescriptor "(JJ)J" = some ⟨[.long, .long], some .long⟩ := by decide +kernel
theorem d4_0 : decode method_2_code 0 = .ok (.lload_n 0, 1) := by decide +kernel
theorem d4_1 : decode method_2_code 1 = .ok (.lload_n 2, 1) := by decide +kernel
theorem d4_2 : decode method_2_code 2 = .ok (.invokestatic 7, 3) := by decide +kernel
theorem d4_5 : decode method_2_code 5 = .ok (.lload_n 2, 1) := by decide +kernel
theorem d4_6 : decode method_2_code 6 = .ok (.lcmp, 1) := by decide +kernel
theorem d4_7 : decode method_2_code 7 = .ok (.ifCond .ne 7, 3) := by decide +kernel
theorem d4_10 : decode method_2_code 10 = .ok (.iconst 1, 1) := by decide +kernel
theorem d4_11 : decode method_2_code 11 = .ok (.goto 4, 3) := by decide +kernel
theorem d4_14 : decode method_2_code 14 = .ok (.iconst 0, 1) := by decide +kernel
theorem d4_15 : decode method_2_code 15 = .ok (.ireturn, 1) := by decide +kernel
theorem pn_4 : plainName "com/example/markush/markush/index/TextSizeWithinPinLaw" = true := by first | (simp [plainName, overriddenIn]; done) | decide +kernel
theorem ef_rm4 (m : MethodId) (y0 : Int64) (y1 : Int64) : entryFrame m #[(.long y0), (.long y1)] 4 = mkF m 0 #[.val (.long y0), .second, .val (.long y1), .second] [] := by first | (simp [entryFrame, mkF, argsToLocals, Value.category]; done) | rfl
def Q_rm4 (Z : State) (q4_0 : Int64) (q4_1 : Int64) (h0 : Heap) (n0 : Nat) (v : Option Value) (h : Heap) (L : List Loc) : Prop := v = some (.int (if (if q4_0 < q4_1 then q4_1 else q4_0) = q4_1 then (1 : Int32) else (0 : Int32))) ∧ Fr n0 L ∧ h = h0
set_option maxRecDepth 65536 in
set_option maxHeartbeats 40000000 in
theorem rm4 (l : Launch) (Z : State) (a0 : Array Value) (hw : ∀ d ∈ tables_1, d.before a0 Z = true) (ws : List Jvm.Cond) (q4_0 : Int64) (q4_1 : Int64) (h0 : Heap) (n0 : Nat) (Z0 : n0 ≤ h0.size) :
    MetFree l (⟨"com/example/markush/markush/index/TextSizeWithinPinLaw", "atMost", "(JJ)Z"⟩ : MethodName) (head1 (Jvm.Cond.code (⟨"com/example/markush/markush/index/TextSizeWithinPinLaw", "atMost", "(JJ)Z"⟩ : MethodName) method_2_code 4 (some .boolean) :: ws) ({ frames := 1, cells := 0, slots := 0, locals := 15 } : Room)) (fun a U => a = #[(.long q4_0), (.long q4_1)] ∧ Z.Warmed39 U.vm ∧ U.heap = h0) (fun _ _ _ _ _ => True) (fun _ U o U' => ∃ v L, o = .returned v ∧ Q_rm4 Z q4_0 q4_1 h0 n0 v U'.heap L ∧ FrameEnd U o U' L ({ frames := 1, cells := 0, slots := 0, locals := 15 } : Room).cells ({ frames := 1, cells := 0, slots := 0, locals := 15 } : Room).slots) := by
  refine MetFree.of_bodySF (plainFor_of_name pn_4) hisR ?_
  intro p e s m args below meth c s₁ Bd hml0 hP hK
  obtain ⟨rfl, hZ, hh⟩ := hP
  have hx := Bd.exec
  have hby := Bd.bytes
  have hml : c.maxLocals = 4 := hml0
  have hown : s.vm.findClass "com/example/markush/markush/index/TextSizeWithinPinLaw" = some m.cls := findClass_of_methodNamed Bd.named
  have hnm := (name_of_methodNamed Bd.named Bd.method).1
  have X0 : Stand p l e ({ frames := 1, cells := 0, slots := 0, locals := 15 } : Room) s m #[(.long q4_0), (.long q4_1)] below meth c s₁ [] 0 0 := Stand.of_body Bd
  have e0 : s₁.heap = h0 := by rw [← hh, Bd.state]; rfl
  have N0 := Fr.nil n0
  have pre0 : ∀ t, Steps p.tables e below (s₁.setTop (mkF m 0 #[.val (.long q4_0), .second, .val (.long q4_1), .second] [])) t → Steps p.tables e below (s₁.setTop (entryFrame m #[(.long q4_0), (.long q4_1)] 4)) t := fun t k => castTop (ef_rm4 m q4_0 q4_1) k
  obtain ⟨_, _, ⟨T1, L1, k1, n1⟩, -, X1, ⟨Lc1, hQ1, l1, y1, z1⟩, st1⟩ := Jvm.LawKit.callS X0 hx (y := (⟨"java/lang/Math", "max", "(JJ)J"⟩ : MethodName)) hown (mvT hZ (ow24 hw)) (mvT hZ (ow25 hw)) (mvT hZ (ow26 hw)) (mvT hZ (ow27 hw)) (by decide) (backOf (W := 0) (rm5 l Z a0 hw [] q4_0 q4_1 h0 n0 Z0 ) hZ (ow27 hw) (ow26 hw) (by decide) (by decide)) (g := (mkF m 2 #[.val (.long q4_0), .second, .val (.long q4_1), .second] [(.long q4_1), (.long q4_0)])) rfl (by rw [hml]; rfl) (argsL := [(.long q4_0), (.long q4_1)]) (rest := []) (lenOf pd__JJ_J rfl) rfl (by show 2 * 0 + _ ≤ _; exact Nat.le_of_eq rfl) (hb hby d4_2) (fun _ _ => ⟨rfl, e0, (by decide : 0 + 0 ≤ _), (by decide : 0 + 0 ≤ _)⟩)
  dsimp only [Pt.U, Pt.locs, Pt.cells, Pt.slots] at X1 l1 y1 z1 st1 hQ1
  subst l1 y1 z1
  obtain ⟨rfl, Nq1, e1⟩ := hQ1
  have N1 := Fr.app N0 Nq1
  obtain ⟨x2, hx2⟩ : ∃ z : Int64, z = (if q4_0 < q4_1 then q4_1 else q4_0) := ⟨_, rfl⟩
  have G3 : ∀ t, Steps p.tables e below (T1.setTop (mkF m 7 #[.val (.long q4_0), .second, .val (.long q4_1), .second] [(.int (lcmpW x2 q4_1))])) t → Steps p.tables e below (s₁.setTop (mkF m 0 #[.val (.long q4_0), .second, .val (.long q4_1), .second] [])) t := by
    intro t k
    show Steps p.tables e below (s₁.setTop (mkF m 0 #[.val (.long q4_0), .second, .val (.long q4_1), .second] [])) _
    refine XS.lloadN X0.here hx rfl (hb hby d4_0) rfl ?_
    show Steps p.tables e below (s₁.setTop (mkF m 1 #[.val (.long q4_0), .second, .val (.long q4_1), .second] [(.long q4_0)])) _
    refine XS.lloadN X0.here hx rfl (hb hby d4_1) rfl ?_
    show Steps p.tables e below (s₁.setTop (mkF m 2 #[.val (.long q4_0), .second, .val (.long q4_1), .second] [(.long q4_1), (.long q4_0)])) _
    refine st1 _ ?_
    show Steps p.tables e below (T1.setTop (mkF m 5 #[.val (.long q4_0), .second, .val (.long q4_1), .second] [(.long (if q4_0 < q4_1 then q4_1 else q4_0))])) _
    rw [← hx2]
    show Steps p.tables e below (T1.setTop (mkF m 5 #[.val (.long q4_0), .second, .val (.long q4_1), .second] [(.long x2)])) _
    refine XS.lloadN X1.here hx rfl (hb hby d4_5) rfl ?_
    show Steps p.tables e below (T1.setTop (mkF m 6 #[.val (.long q4_0), .second, .val (.long q4_1), .second] [(.long q4_1), (.long x2)])) _
    refine XS.lcmp X1.here hx rfl (hb hby d4_6) rfl ?_
    exact k
  by_cases h7_4 : x2 = q4_1
  · obtain ⟨fs, hr, hrun, hended, hW, hsame⟩ := X1.leave (v := some (.int (1 : Int32))) (fun h => by rw [Bd.returns] at h; cases h)
    refine ⟨_, _, pre0 _ ?_, hrun, hended, _, _, rfl, ?_, ⟨_, rfl⟩, hW, hsame.mono (by decide) (by decide)⟩
    · refine G3 _ ?_
      show Steps p.tables e below (T1.setTop (mkF m 7 #[.val (.long q4_0), .second, .val (.long q4_1), .second] [(.int (lcmpW x2 q4_1))])) _
      refine XS.ifNo X1.here hx rfl (hb hby d4_7) rfl ((if0 _ _).trans (teq ((lw_eq _ _).mpr h7_4)).2) ?_
      show Steps p.tables e below (T1.setTop (mkF m 10 #[.val (.long q4_0), .second, .val (.long q4_1), .second] [])) _
      refine XS.iconst X1.here hx rfl (hb hby d4_10) ?_
      show Steps p.tables e below (T1.setTop (mkF m 11 #[.val (.long q4_0), .second, .val (.long q4_1), .second] [(.int (1 : Int32))])) _
      refine XS.goto X1.here hx rfl (pc0 := 11) (pc' := 15) rfl (hb hby d4_11) (by decide) (by decide) ?_
      show Steps p.tables e below (T1.setTop (mkF m 15 #[.val (.long q4_0), .second, .val (.long q4_1), .second] [(.int (1 : Int32))])) _
      exact retN X1 hx (t := .boolean) Bd.returns (by simp) (hb hby d4_15) hr
    · show Q_rm4 Z q4_0 q4_1 h0 n0 _ T1.heap _
      rw [e1]
      subst hx2
      exact ⟨(congrArg (fun z => some (Value.int z)) (if_pos h7_4).symm), N1, rfl⟩
  · obtain ⟨fs, hr, hrun, hended, hW, hsame⟩ := X1.leave (v := some (.int (0 : Int32))) (fun h => by rw [Bd.returns] at h; cases h)
    refine ⟨_, _, pre0 _ ?_, hrun, hended, _, _, rfl, ?_, ⟨_, rfl⟩, hW, hsame.mono (by decide) (by decide)⟩
    · refine G3 _ ?_
      show Steps p.tables e below (T1.setTop (mkF m 7 #[.val (.long q4_0), .second, .val (.long q4_1), .second] [(.int (lcmpW x2 q4_1))])) _
      refine XS.ifYes X1.here hx rfl (pc0 := 7) (pc' := 14) rfl (hb hby d4_7) rfl ((if0 _ _).trans (feq (fun q => h7_4 ((lw_eq _ _).mp q))).2) (by decide) (by decide) ?_
      show Steps p.tables e below (T1.setTop (mkF m 14 #[.val (.long q4_0), .second, .val (.long q4_1), .second] [])) _
      refine XS.iconst X1.here hx rfl (hb hby d4_14) ?_
      show Steps p.tables e below (T1.setTop (mkF m 15 #[.val (.long q4_0), .second, .val (.long q4_1), .second] [(.int (0 : Int32))])) _
      exact retN X1 hx (t := .boolean) Bd.returns (by simp) (hb hby d4_15) hr
    · show Q_rm4 Z q4_0 q4_1 h0 n0 _ T1.heap _
      rw [e1]
      subst hx2
      exact ⟨(congrArg (fun z => some (Value.int z)) (if_neg h7_4).symm), N1, rfl⟩
theorem d6_0 : decode prog_50_method_4_code 0 = .ok (.aload_n 0, 1) := by decide +kernel
theorem d6_1 : decode prog_50_method_4_code 1 = .ok (.getfield 7, 3) := by decide +kernel
theorem d6_4 : decode prog_50_method_4_code 4 = .ok (.aload_n 1, 1) := by decide +kernel
theorem d6_5 : decode prog_50_method_4_code 5 = .ok (.getfield 7, 3) := by decide +kernel
theorem d6_8 : decode prog_50_method_4_code 8 = .ok (.lcmp, 1) := by decide +kernel
theorem d6_9 : decode prog_50_method_4_code 9 = .ok (.ifCond .gt 31, 3) := by decide +kernel
theorem d6_12 : decode prog_50_method_4_code 12 = .ok (.aload_n 0, 1) := by decide +kernel
theorem d6_13 : decode prog_50_method_4_code 13 = .ok (.getfield 13, 3) := by decide +kernel
theorem d6_16 : decode prog_50_method_4_code 16 = .ok (.aload_n 1, 1) := by decide +kernel
theorem d6_17 : decode prog_50_method_4_code 17 = .ok (.getfield 13, 3) := by decide +kernel
theorem d6_20 : decode prog_50_method_4_code 20 = .ok (.lcmp, 1) := by decide +kernel
theorem d6_21 : decode prog_50_method_4_code 21 = .ok (.ifCond .gt 19, 3) := by decide +kernel
theorem d6_24 : decode prog_50_method_4_code 24 = .ok (.aload_n 0, 1) := by decide +kernel
theorem d6_25 : decode prog_50_method_4_code 25 = .ok (.getfield 16, 3) := by decide +kernel
theorem d6_28 : decode prog_50_method_4_code 28 = .ok (.aload_n 1, 1) := by decide +kernel
theorem d6_29 : decode prog_50_method_4_code 29 = .ok (.getfield 16, 3) := by decide +kernel
theorem d6_32 : decode prog_50_method_4_code 32 = .ok (.lcmp, 1) := by decide +kernel
theorem d6_33 : decode prog_50_method_4_code 33 = .ok (.ifCond .gt 7, 3) := by decide +kernel
theorem d6_36 : decode prog_50_method_4_code 36 = .ok (.iconst 1, 1) := by decide +kernel
theorem d6_37 : decode prog_50_method_4_code 37 = .ok (.goto 4, 3) := by decide +kernel
theorem d6_40 : decode prog_50_method_4_code 40 = .ok (.iconst 0, 1) := by decide +kernel
theorem d6_41 : decode prog_50_method_4_code 41 = .ok (.ireturn, 1) := by decide +kernel
theorem pn_6 : plainName "com/example/markush/markush/index/TextSize" = true := by first | (simp [plainName, overriddenIn]; done) | decide +kernel
theorem ef_rm6 (m : MethodId) (y0 : Addr) (y1 : Addr) : entryFrame m #[(.ref y0), (.ref y1)] 2 = mkF m 0 #[.val (.ref y0), .val (.ref y1)] [] := by first | (simp [entryFrame, mkF, argsToLocals, Value.category]; done) | rfl
def Q_rm6 (Z : State) (a6_0 : Addr) (a6_1 : Addr) (w_characters_a6_0 : Int64) (w_characters_a6_1 : Int64) (w_terms_a6_0 : Int64) (w_terms_a6_1 : Int64) (w_termBytes_a6_0 : Int64) (w_termBytes_a6_1 : Int64) (h0 : Heap) (n0 : Nat) (v : Option Value) (h : Heap) (L : List Loc) : Prop := v = some (.int (if w_characters_a6_1 < w_characters_a6_0 then (0 : Int32) else (if w_terms_a6_1 < w_terms_a6_0 then (0 : Int32) else (if w_termBytes_a6_1 < w_termBytes_a6_0 then (0 : Int32) else (1 : Int32))))) ∧ Fr n0 L ∧ h = h0
set_option maxRecDepth 65536 in
set_option maxHeartbeats 40000000 in
theorem rm6 (l : Launch) (Z : State) (a0 : Array Value) (hw : ∀ d ∈ tables_1, d.before a0 Z = true) (ws : List Jvm.Cond) (a6_0 : Addr) (a6_1 : Addr) (w_characters_a6_0 : Int64) (w_characters_a6_1 : Int64) (w_terms_a6_0 : Int64) (w_terms_a6_1 : Int64) (w_termBytes_a6_0 : Int64) (w_termBytes_a6_1 : Int64) (h0 : Heap) (n0 : Nat) (Z0 : n0 ≤ h0.size) (F_characters_a6_0 : Fld Z h0 a6_0 "com/example/markush/markush/index/TextSize" "characters" "J" (.long w_characters_a6_0)) (F_characters_a6_1 : Fld Z h0 a6_1 "com/example/markush/markush/index/TextSize" "characters" "J" (.long w_characters_a6_1)) (F_terms_a6_0 : Fld Z h0 a6_0 "com/example/markush/markush/index/TextSize" "terms" "J" (.long w_terms_a6_0)) (F_terms_a6_1 : Fld Z h0 a6_1 "com/example/markush/markush/index/TextSize" "terms" "J" (.long w_terms_a6_1)) (F_termBytes_a6_0 : Fld Z h0 a6_0 "com/example/markush/markush/index/TextSize" "termBytes" "J" (.long w_termBytes_a6_0)) (F_termBytes_a6_1 : Fld Z h0 a6_1 "com/example/markush/markush/index/TextSize" "termBytes" "J" (.long w_termBytes_a6_1)) :
    MetFree l (⟨"com/example/markush/markush/index/TextSize", "within", "(Lcom/example/markush/markush/index/TextSize;)Z"⟩ : MethodName) (head1 (Jvm.Cond.code (⟨"com/example/markush/markush/index/TextSize", "within", "(Lcom/example/markush/markush/index/TextSize;)Z"⟩ : MethodName) prog_50_method_4_code 2 (some .boolean) :: ws) ({ frames := 0, cells := 0, slots := 0, locals := 0 } : Room)) (fun a U => a = #[(.ref a6_0), (.ref a6_1)] ∧ Z.Warmed39 U.vm ∧ U.heap = h0) (fun _ _ _ _ _ => True) (fun _ U o U' => ∃ v L, o = .returned v ∧ Q_rm6 Z a6_0 a6_1 w_characters_a6_0 w_characters_a6_1 w_terms_a6_0 w_terms_a6_1 w_termBytes_a6_0 w_termBytes_a6_1 h0 n0 v U'.heap L ∧ FrameEnd U o U' L ({ frames := 0, cells := 0, slots := 0, locals := 0 } : Room).cells ({ frames := 0, cells := 0, slots := 0, locals := 0 } : Room).slots) := by
  refine MetFree.of_bodySF (plainFor_of_name pn_6) hisR ?_
  intro p e s m args below meth c s₁ Bd hml0 hP hK
  obtain ⟨rfl, hZ, hh⟩ := hP
  have hx := Bd.exec
  have hby := Bd.bytes
  have hml : c.maxLocals = 2 := hml0
  have hown : s.vm.findClass "com/example/markush/markush/index/TextSize" = some m.cls := findClass_of_methodNamed Bd.named
  have hnm := (name_of_methodNamed Bd.named Bd.method).1
  have X0 : Stand p l e ({ frames := 0, cells := 0, slots := 0, locals := 0 } : Room) s m #[(.ref a6_0), (.ref a6_1)] below meth c s₁ [] 0 0 := Stand.of_body Bd
  have e0 : s₁.heap = h0 := by rw [← hh, Bd.state]; rfl
  have N0 := Fr.nil n0
  have pre0 : ∀ t, Steps p.tables e below (s₁.setTop (mkF m 0 #[.val (.ref a6_0), .val (.ref a6_1)] [])) t → Steps p.tables e below (s₁.setTop (entryFrame m #[(.ref a6_0), (.ref a6_1)] 2)) t := fun t k => castTop (ef_rm6 m a6_0 a6_1) k
  obtain ⟨T1, X1, e1, st1⟩ := getF X0 hx hZ hown (host := "") (Or.inl (ow14 hw)) Via.refl e0 F_characters_a6_0 (g := (mkF m 1 #[.val (.ref a6_0), .val (.ref a6_1)] [(.ref a6_0)])) rfl rfl (hb hby d6_1)
  obtain ⟨T2, X2, e2, st2⟩ := getF X1 hx hZ hown (host := "") (Or.inl (ow14 hw)) Via.refl e1 F_characters_a6_1 (g := (mkF m 5 #[.val (.ref a6_0), .val (.ref a6_1)] [(.ref a6_1), (.long w_characters_a6_0)])) rfl rfl (hb hby d6_5)
  have G3 : ∀ t, Steps p.tables e below (T2.setTop (mkF m 9 #[.val (.ref a6_0), .val (.ref a6_1)] [(.int (lcmpW w_characters_a6_0 w_characters_a6_1))])) t → Steps p.tables e below (s₁.setTop (mkF m 0 #[.val (.ref a6_0), .val (.ref a6_1)] [])) t := by
    intro t k
    show Steps p.tables e below (s₁.setTop (mkF m 0 #[.val (.ref a6_0), .val (.ref a6_1)] [])) _
    refine XS.aloadN X0.here hx rfl (hb hby d6_0) rfl rfl ?_
    show Steps p.tables e below (s₁.setTop (mkF m 1 #[.val (.ref a6_0), .val (.ref a6_1)] [(.ref a6_0)])) _
    refine st1 _ ?_
    show Steps p.tables e below (T1.setTop (mkF m 4 #[.val (.ref a6_0), .val (.ref a6_1)] [(.long w_characters_a6_0)])) _
    refine XS.aloadN X1.here hx rfl (hb hby d6_4) rfl rfl ?_
    show Steps p.tables e below (T1.setTop (mkF m 5 #[.val (.ref a6_0), .val (.ref a6_1)] [(.ref a6_1), (.long w_characters_a6_0)])) _
    refine st2 _ ?_
    show Steps p.tables e below (T2.setTop (mkF m 8 #[.val (.ref a6_0), .val (.ref a6_1)] [(.long w_characters_a6_1), (.long w_characters_a6_0)])) _
    refine XS.lcmp X2.here hx rfl (hb hby d6_8) rfl ?_
    exact k
  by_cases h9_4 : w_characters_a6_1 < w_characters_a6_0
  · obtain ⟨fs, hr, hrun, hended, hW, hsame⟩ := X2.leave (v := some (.int (0 : Int32))) (fun h => by rw [Bd.returns] at h; cases h)
    refine ⟨_, _, pre0 _ ?_, hrun, hended, _, _, rfl, ?_, ⟨_, rfl⟩, hW, hsame.mono (by decide) (by decide)⟩
    · refine G3 _ ?_
      show Steps p.tables e below (T2.setTop (mkF m 9 #[.val (.ref a6_0), .val (.ref a6_1)] [(.int (lcmpW w_characters_a6_0 w_characters_a6_1))])) _
      refine XS.ifYes X2.here hx rfl (pc0 := 9) (pc' := 40) rfl (hb hby d6_9) rfl ((if0 _ _).trans (tlt ((lw_gt _ _).mpr h9_4)).2.2.1) (by decide) (by decide) ?_
      show Steps p.tables e below (T2.setTop (mkF m 40 #[.val (.ref a6_0), .val (.ref a6_1)] [])) _
      refine XS.iconst X2.here hx rfl (hb hby d6_40) ?_
      show Steps p.tables e below (T2.setTop (mkF m 41 #[.val (.ref a6_0), .val (.ref a6_1)] [(.int (0 : Int32))])) _
      exact retN X2 hx (t := .boolean) Bd.returns (by simp) (hb hby d6_41) hr
    · show Q_rm6 Z a6_0 a6_1 w_characters_a6_0 w_characters_a6_1 w_terms_a6_0 w_terms_a6_1 w_termBytes_a6_0 w_termBytes_a6_1 h0 n0 _ T2.heap _
      rw [e2]
      exact ⟨(congrArg (fun z => some (Value.int z)) (if_pos h9_4).symm), N0, rfl⟩
  · obtain ⟨T5, X5, e5, st5⟩ := getF X2 hx hZ hown (host := "") (Or.inl (ow16 hw)) Via.refl e2 F_terms_a6_0 (g := (mkF m 13 #[.val (.ref a6_0), .val (.ref a6_1)] [(.ref a6_0)])) rfl rfl (hb hby d6_13)
    obtain ⟨T6, X6, e6, st6⟩ := getF X5 hx hZ hown (host := "") (Or.inl (ow16 hw)) Via.refl e5 F_terms_a6_1 (g := (mkF m 17 #[.val (.ref a6_0), .val (.ref a6_1)] [(.ref a6_1), (.long w_terms_a6_0)])) rfl rfl (hb hby d6_17)
    have G7 : ∀ t, Steps p.tables e below (T6.setTop (mkF m 21 #[.val (.ref a6_0), .val (.ref a6_1)] [(.int (lcmpW w_terms_a6_0 w_terms_a6_1))])) t → Steps p.tables e below (T2.setTop (mkF m 9 #[.val (.ref a6_0), .val (.ref a6_1)] [(.int (lcmpW w_characters_a6_0 w_characters_a6_1))])) t := by
      intro t k
      show Steps p.tables e below (T2.setTop (mkF m 9 #[.val (.ref a6_0), .val (.ref a6_1)] [(.int (lcmpW w_characters_a6_0 w_characters_a6_1))])) _
      refine XS.ifNo X2.here hx rfl (hb hby d6_9) rfl ((if0 _ _).trans (flt (fun q => h9_4 ((lw_gt _ _).mp q))).2.2.1) ?_
      show Steps p.tables e below (T2.setTop (mkF m 12 #[.val (.ref a6_0), .val (.ref a6_1)] [])) _
      refine XS.aloadN X2.here hx rfl (hb hby d6_12) rfl rfl ?_
      show Steps p.tables e below (T2.setTop (mkF m 13 #[.val (.ref a6_0), .val (.ref a6_1)] [(.ref a6_0)])) _
      refine st5 _ ?_
      show Steps p.tables e below (T5.setTop (mkF m 16 #[.val (.ref a6_0), .val (.ref a6_1)] [(.long w_terms_a6_0)])) _
      refine XS.aloadN X5.here hx rfl (hb hby d6_16) rfl rfl ?_
      show Steps p.tables e below (T5.setTop (mkF m 17 #[.val (.ref a6_0), .val (.ref a6_1)] [(.ref a6_1), (.long w_terms_a6_0)])) _
      refine st6 _ ?_
      show Steps p.tables e below (T6.setTop (mkF m 20 #[.val (.ref a6_0), .val (.ref a6_1)] [(.long w_terms_a6_1), (.long w_terms_a6_0)])) _
      refine XS.lcmp X6.here hx rfl (hb hby d6_20) rfl ?_
      exact k
    by_cases h21_8 : w_terms_a6_1 < w_terms_a6_0
    · obtain ⟨fs, hr, hrun, hended, hW, hsame⟩ := X6.leave (v := some (.int (0 : Int32))) (fun h => by rw [Bd.returns] at h; cases h)
      refine ⟨_, _, pre0 _ ?_, hrun, hended, _, _, rfl, ?_, ⟨_, rfl⟩, hW, hsame.mono (by decide) (by decide)⟩
      · refine G3 _ ?_
        refine G7 _ ?_
        show Steps p.tables e below (T6.setTop (mkF m 21 #[.val (.ref a6_0), .val (.ref a6_1)] [(.int (lcmpW w_terms_a6_0 w_terms_a6_1))])) _
        refine XS.ifYes X6.here hx rfl (pc0 := 21) (pc' := 40) rfl (hb hby d6_21) rfl ((if0 _ _).trans (tlt ((lw_gt _ _).mpr h21_8)).2.2.1) (by decide) (by decide) ?_
        show Steps p.tables e below (T6.setTop (mkF m 40 #[.val (.ref a6_0), .val (.ref a6_1)] [])) _
        refine XS.iconst X6.here hx rfl (hb hby d6_40) ?_
        show Steps p.tables e below (T6.setTop (mkF m 41 #[.val (.ref a6_0), .val (.ref a6_1)] [(.int (0 : Int32))])) _
        exact retN X6 hx (t := .boolean) Bd.returns (by simp) (hb hby d6_41) hr
      · show Q_rm6 Z a6_0 a6_1 w_characters_a6_0 w_characters_a6_1 w_terms_a6_0 w_terms_a6_1 w_termBytes_a6_0 w_termBytes_a6_1 h0 n0 _ T6.heap _
        rw [e6]
        exact ⟨(congrArg (fun z => some (Value.int z)) ((if_neg h9_4).trans (if_pos h21_8)).symm), N0, rfl⟩
    · obtain ⟨T9, X9, e9, st9⟩ := getF X6 hx hZ hown (host := "") (Or.inl (ow18 hw)) Via.refl e6 F_termBytes_a6_0 (g := (mkF m 25 #[.val (.ref a6_0), .val (.ref a6_1)] [(.ref a6_0)])) rfl rfl (hb hby d6_25)
      obtain ⟨T10, X10, e10, st10⟩ := getF X9 hx hZ hown (host := "") (Or.inl (ow18 hw)) Via.refl e9 F_termBytes_a6_1 (g := (mkF m 29 #[.val (.ref a6_0), .val (.ref a6_1)] [(.ref a6_1), (.long w_termBytes_a6_0)])) rfl rfl (hb hby d6_29)
      have G11 : ∀ t, Steps p.tables e below (T10.setTop (mkF m 33 #[.val (.ref a6_0), .val (.ref a6_1)] [(.int (lcmpW w_termBytes_a6_0 w_termBytes_a6_1))])) t → Steps p.tables e below (T6.setTop (mkF m 21 #[.val (.ref a6_0), .val (.ref a6_1)] [(.int (lcmpW w_terms_a6_0 w_terms_a6_1))])) t := by
        intro t k
        show Steps p.tables e below (T6.setTop (mkF m 21 #[.val (.ref a6_0), .val (.ref a6_1)] [(.int (lcmpW w_terms_a6_0 w_terms_a6_1))])) _
        refine XS.ifNo X6.here hx rfl (hb hby d6_21) rfl ((if0 _ _).trans (flt (fun q => h21_8 ((lw_gt _ _).mp q))).2.2.1) ?_
        show Steps p.tables e below (T6.setTop (mkF m 24 #[.val (.ref a6_0), .val (.ref a6_1)] [])) _
        refine XS.aloadN X6.here hx rfl (hb hby d6_24) rfl rfl ?_
        show Steps p.tables e below (T6.setTop (mkF m 25 #[.val (.ref a6_0), .val (.ref a6_1)] [(.ref a6_0)])) _
        refine st9 _ ?_
        show Steps p.tables e below (T9.setTop (mkF m 28 #[.val (.ref a6_0), .val (.ref a6_1)] [(.long w_termBytes_a6_0)])) _
        refine XS.aloadN X9.here hx rfl (hb hby d6_28) rfl rfl ?_
        show Steps p.tables e below (T9.setTop (mkF m 29 #[.val (.ref a6_0), .val (.ref a6_1)] [(.ref a6_1), (.long w_termBytes_a6_0)])) _
        refine st10 _ ?_
        show Steps p.tables e below (T10.setTop (mkF m 32 #[.val (.ref a6_0), .val (.ref a6_1)] [(.long w_termBytes_a6_1), (.long w_termBytes_a6_0)])) _
        refine XS.lcmp X10.here hx rfl (hb hby d6_32) rfl ?_
        exact k
      by_cases h33_12 : w_termBytes_a6_1 < w_termBytes_a6_0
      · obtain ⟨fs, hr, hrun, hended, hW, hsame⟩ := X10.leave (v := some (.int (0 : Int32))) (fun h => by rw [Bd.returns] at h; cases h)
        refine ⟨_, _, pre0 _ ?_, hrun, hended, _, _, rfl, ?_, ⟨_, rfl⟩, hW, hsame.mono (by decide) (by decide)⟩
        · refine G3 _ ?_
          refine G7 _ ?_
          refine G11 _ ?_
          show Steps p.tables e below (T10.setTop (mkF m 33 #[.val (.ref a6_0), .val (.ref a6_1)] [(.int (lcmpW w_termBytes_a6_0 w_termBytes_a6_1))])) _
          refine XS.ifYes X10.here hx rfl (pc0 := 33) (pc' := 40) rfl (hb hby d6_33) rfl ((if0 _ _).trans (tlt ((lw_gt _ _).mpr h33_12)).2.2.1) (by decide) (by decide) ?_
          show Steps p.tables e below (T10.setTop (mkF m 40 #[.val (.ref a6_0), .val (.ref a6_1)] [])) _
          refine XS.iconst X10.here hx rfl (hb hby d6_40) ?_
          show Steps p.tables e below (T10.setTop (mkF m 41 #[.val (.ref a6_0), .val (.ref a6_1)] [(.int (0 : Int32))])) _
          exact retN X10 hx (t := .boolean) Bd.returns (by simp) (hb hby d6_41) hr
        · show Q_rm6 Z a6_0 a6_1 w_characters_a6_0 w_characters_a6_1 w_terms_a6_0 w_terms_a6_1 w_termBytes_a6_0 w_termBytes_a6_1 h0 n0 _ T10.heap _
          rw [e10]
          exact ⟨(congrArg (fun z => some (Value.int z)) ((if_neg h9_4).trans ((if_neg h21_8).trans (if_pos h33_12))).symm), N0, rfl⟩
      · obtain ⟨fs, hr, hrun, hended, hW, hsame⟩ := X10.leave (v := some (.int (1 : Int32))) (fun h => by rw [Bd.returns] at h; cases h)
        refine ⟨_, _, pre0 _ ?_, hrun, hended, _, _, rfl, ?_, ⟨_, rfl⟩, hW, hsame.mono (by decide) (by decide)⟩
        · refine G3 _ ?_
          refine G7 _ ?_
          refine G11 _ ?_
          show Steps p.tables e below (T10.setTop (mkF m 33 #[.val (.ref a6_0), .val (.ref a6_1)] [(.int (lcmpW w_termBytes_a6_0 w_termBytes_a6_1))])) _
          refine XS.ifNo X10.here hx rfl (hb hby d6_33) rfl ((if0 _ _).trans (flt (fun q => h33_12 ((lw_gt _ _).mp q))).2.2.1) ?_
          show Steps p.tables e below (T10.setTop (mkF m 36 #[.val (.ref a6_0), .val (.ref a6_1)] [])) _
          refine XS.iconst X10.here hx rfl (hb hby d6_36) ?_
          show Steps p.tables e below (T10.setTop (mkF m 37 #[.val (.ref a6_0), .val (.ref a6_1)] [(.int (1 : Int32))])) _
          refine XS.goto X10.here hx rfl (pc0 := 37) (pc' := 41) rfl (hb hby d6_37) (by decide) (by decide) ?_
          show Steps p.tables e below (T10.setTop (mkF m 41 #[.val (.ref a6_0), .val (.ref a6_1)] [(.int (1 : Int32))])) _
          exact retN X10 hx (t := .boolean) Bd.returns (by simp) (hb hby d6_41) hr
        · show Q_rm6 Z a6_0 a6_1 w_characters_a6_0 w_characters_a6_1 w_terms_a6_0 w_terms_a6_1 w_termBytes_a6_0 w_termBytes_a6_1 h0 n0 _ T10.heap _
          rw [e10]
          exact ⟨(congrArg (fun z => some (Value.int z)) ((if_neg h9_4).trans ((if_neg h21_8).trans (if_neg h33_12))).symm), N0, rfl⟩
theorem pd__JJJ_V : parseMethodDescriptor "(JJJ)V" = some ⟨[.long, .long, .long], none⟩ := by decide +kernel
theorem pd__JJ_Z : parseMethodDescriptor "(JJ)Z" = some ⟨[.long, .long], some .boolean⟩ := by decide +kernel
theorem pd__Lcom_example_markush_markush_index_TextSize__Z : parseMethodDescriptor "(Lcom/example/markush/markush/index/TextSize;)Z" = some ⟨[(.object "com/example/markush/markush/index/TextSize")], some .boolean⟩ := by decide +kernel
theorem own_fin (q0_0 : Int64) (q0_1 : Int64) (q0_2 : Int64) (q0_3 : Int64) (q0_4 : Int64) (q0_5 : Int64) (x9 : Int32) (hx9 : x9 = (if (if q0_0 < q0_3 then q0_3 else q0_0) = q0_3 then (1 : Int32) else (0 : Int32))) (v18 : Int32) (hv18 : v18 = (if x9 = (0 : Int32) then (0 : Int32) else (if (if (if q0_1 < q0_4 then q0_4 else q0_1) = q0_4 then (1 : Int32) else (0 : Int32)) = (0 : Int32) then (0 : Int32) else (if (if (if q0_2 < q0_5 then q0_5 else q0_2) = q0_5 then (1 : Int32) else (0 : Int32)) = (0 : Int32) then (0 : Int32) else (1 : Int32))))) (x26 : Int32) (hx26 : x26 = (if q0_3 < q0_0 then (0 : Int32) else (if q0_4 < q0_1 then (0 : Int32) else (if q0_5 < q0_2 then (0 : Int32) else (1 : Int32))))) (x29 : Int32) (hx29 : x29 = (if q0_0 < q0_0 then (0 : Int32) else (if q0_1 < q0_1 then (0 : Int32) else (if q0_2 < q0_2 then (0 : Int32) else (1 : Int32))))) (v35 : Int32) (hv35 : v35 = (if x26 = v18 then (if x29 = (0 : Int32) then (0 : Int32) else (1 : Int32)) else (0 : Int32))) : v35 = (1 : Int32) := by
  have i0 : ¬ q0_0 < q0_0 := Int64.lt_irrefl
  have i1 : ¬ q0_1 < q0_1 := Int64.lt_irrefl
  have i2 : ¬ q0_2 < q0_2 := Int64.lt_irrefl
  have e24 : x29 = 1 := by rw [hx29, if_neg i0, if_neg i1, if_neg i2]
  have e : x26 = v18 := by
    rw [hx26, hv18, hx9]
    simp only [own_max]
    by_cases a : q0_3 < q0_0 <;> by_cases b : q0_4 < q0_1 <;> by_cases d : q0_5 < q0_2 <;> simp [a, b, d]
  rw [hv35, if_pos e, if_neg (by rw [e24]; decide)]
theorem pn_0 : plainName "com/example/markush/markush/index/TextSizeWithinPinLaw" = true := by first | (simp [plainName, overriddenIn]; done) | decide +kernel
theorem ef_rm0 (m : MethodId) (y0 : Int64) (y1 : Int64) (y2 : Int64) (y3 : Int64) (y4 : Int64) (y5 : Int64) : entryFrame m #[(.long y0), (.long y1), (.long y2), (.long y3), (.long y4), (.long y5)] maxLocals = mkF m 0 #[.val (.long y0), .second, .val (.long y1), .second, .val (.long y2), .second, .val (.long y3), .second, .val (.long y4), .second, .val (.long y5), .second, .unset, .unset, .unset, .unset, .unset] [] := by first | (simp [entryFrame, mkF, argsToLocals, Value.category, maxLocals]; done) | rfl
def Q_rm0 (Z : State) (q0_0 : Int64) (q0_1 : Int64) (q0_2 : Int64) (q0_3 : Int64) (q0_4 : Int64) (q0_5 : Int64) (h0 : Heap) (n0 : Nat) (v : Option Value) (h : Heap) (L : List Loc) : Prop := v = some (.int (1 : Int32)) ∧ Fr n0 L
set_option maxRecDepth 65536 in
set_option maxHeartbeats 40000000 in
theorem rm0 (l : Launch) (Z : State) (a0 : Array Value) (hw : ∀ d ∈ tables_1, d.before a0 Z = true) (ws : List Jvm.Cond) (q0_0 : Int64) (q0_1 : Int64) (q0_2 : Int64) (q0_3 : Int64) (q0_4 : Int64) (q0_5 : Int64) (h0 : Heap) (n0 : Nat) (Z0 : n0 ≤ h0.size) :
    MetFree l x (head1 (Jvm.Cond.code x code maxLocals ret :: ws) room_1) (fun a U => a = #[(.long q0_0), (.long q0_1), (.long q0_2), (.long q0_3), (.long q0_4), (.long q0_5)] ∧ Z.Warmed39 U.vm ∧ U.heap = h0) (fun _ _ _ _ _ => True) (fun _ U o U' => ∃ v L, o = .returned v ∧ Q_rm0 Z q0_0 q0_1 q0_2 q0_3 q0_4 q0_5 h0 n0 v U'.heap L ∧ FrameEnd U o U' L 16 128) := by
  refine MetFree.of_bodySF (plainFor_of_name pn_0) hisR ?_
  intro p e s m args below meth c s₁ Bd hml0 hP hK
  obtain ⟨rfl, hZ, hh⟩ := hP
  have hx := Bd.exec
  have hby := Bd.bytes
  have hml : c.maxLocals = 17 := hml0
  have hown : s.vm.findClass "com/example/markush/markush/index/TextSizeWithinPinLaw" = some m.cls := findClass_of_methodNamed Bd.named
  have hnm := (name_of_methodNamed Bd.named Bd.method).1
  have X0 : Stand p l e room_1 s m #[(.long q0_0), (.long q0_1), (.long q0_2), (.long q0_3), (.long q0_4), (.long q0_5)] below meth c s₁ [] 0 0 := Stand.of_body Bd
  have e0 : s₁.heap = h0 := by rw [← hh, Bd.state]; rfl
  have N0 := Fr.nil n0
  have pre0 : ∀ t, Steps p.tables e below (s₁.setTop (mkF m 0 #[.val (.long q0_0), .second, .val (.long q0_1), .second, .val (.long q0_2), .second, .val (.long q0_3), .second, .val (.long q0_4), .second, .val (.long q0_5), .second, .unset, .unset, .unset, .unset, .unset] [])) t → Steps p.tables e below (s₁.setTop (entryFrame m #[(.long q0_0), (.long q0_1), (.long q0_2), (.long q0_3), (.long q0_4), (.long q0_5)] maxLocals)) t := fun t k => castTop (ef_rm0 m q0_0 q0_1 q0_2 q0_3 q0_4 q0_5) k
  let A1 : Array Slot := #[.val (.long q0_0), .second, .val (.long q0_1), .second, .val (.long q0_2), .second, .val (.long q0_3), .second, .val (.long q0_4), .second, .val (.long q0_5), .second, .unset, .unset, .unset, .unset, .unset]
  obtain ⟨T2, h2, X2, e2, E2, A2, D2, -, st2⟩ := newO X0 hx hZ hown (ow0 hw) (ow1 hw) (ow2 hw) e0 (g := (mkF m 0 A1 [])) rfl (hb hby at_0) (by decide) (by decide)
  obtain ⟨b2, g2⟩ : ∃ z, z = h0.size := ⟨_, rfl⟩
  rw [← g2] at A2 D2 st2
  have F_characters_b2 : Fld Z h2 b2 "com/example/markush/markush/index/TextSize" "characters" "J" (.long (0 : Int64)) := D2 (Or.inr (ow15 hw)) (ty := .long) (by decide)
  have F_terms_b2 : Fld Z h2 b2 "com/example/markush/markush/index/TextSize" "terms" "J" (.long (0 : Int64)) := D2 (Or.inr (ow17 hw)) (ty := .long) (by decide)
  have F_termBytes_b2 : Fld Z h2 b2 "com/example/markush/markush/index/TextSize" "termBytes" "J" (.long (0 : Int64)) := D2 (Or.inr (ow19 hw)) (ty := .long) (by decide)
  have g_b2 : n0 ≤ b2 := Nat.le_trans Z0 (Nat.le_of_eq g2.symm)
  have sz_b2 : h0.size ≤ b2 := Nat.le_trans (Nat.le_refl _) (Nat.le_of_eq g2.symm)
  have K2 : Keep h0 h2 [] := (Keep.refl h0 []).ext E2
  have Z2 : n0 ≤ h2.size := Nat.le_trans Z0 K2.1
  obtain ⟨_, _, ⟨T3, L3, k3, n3⟩, -, X3, ⟨Lc3, hQ3, l3, y3, z3⟩, st3⟩ := X2.specialBack hx (y := (⟨"com/example/markush/markush/index/TextSize", "<init>", "(JJJ)V"⟩ : MethodName)) rfl hown (mvT hZ (ow3 hw)) (mvT hZ (ow4 hw)) (mvT hZ (ow5 hw)) (by decide) (backOf (W := 1) (rm1 l Z a0 hw [] b2 q0_0 q0_1 q0_2 (0 : Int64) (0 : Int64) (0 : Int64) h2 n0 Z2 A2 F_characters_b2 g_b2 F_terms_b2 F_termBytes_b2) hZ (ow5 hw) (ow2 hw) (by decide) (by decide)) (g := (mkF m 8 A1 [(.long q0_2), (.long q0_1), (.long q0_0), (.ref b2), (.ref b2)])) rfl (by rw [hml]; rfl) (Steps.refl _) (a := b2) (argsL := [(.long q0_0), (.long q0_1), (.long q0_2)]) (rest := [(.ref b2)]) (lenOf pd__JJJ_V rfl) rfl (by show 2 * 0 + _ ≤ _; exact Nat.le_of_eq rfl) (hb hby at_8) (fun _ _ => ⟨rfl, e2, (by decide : 1 + 0 ≤ _), (by decide : 3 + 0 ≤ _)⟩)
  dsimp only [Pt.U, Pt.locs, Pt.cells, Pt.slots] at X3 l3 y3 z3 st3 hQ3
  subst l3 y3 z3
  obtain ⟨rfl, Nq3, Kc3, P3_0, P3_1, P3_2, P3_3⟩ := hQ3
  have K3 : Keep h0 T3.heap [] := Keep.trans K2 Kc3 (allS (P := fun x => x ∈ ([] : List Addr) ∨ h0.size ≤ x) (Or.inr sz_b2) all0)
  have Z3 : n0 ≤ T3.heap.size := Nat.le_trans Z0 K3.1
  have N3 := Fr.app N0 Nq3
  let A4 : Array Slot := #[.val (.long q0_0), .second, .val (.long q0_1), .second, .val (.long q0_2), .second, .val (.long q0_3), .second, .val (.long q0_4), .second, .val (.long q0_5), .second, .val (.ref b2), .unset, .unset, .unset, .unset]
  obtain ⟨T5, h5, X5, e5, E5, A5, D5, -, st5⟩ := newO X3 hx hZ hown (ow0 hw) (ow1 hw) (ow2 hw) rfl (g := (mkF m 13 A4 [])) rfl (hb hby at_13) (by decide) (by decide)
  obtain ⟨b5, g5⟩ : ∃ z, z = T3.heap.size := ⟨_, rfl⟩
  rw [← g5] at A5 D5 st5
  have ne_b2_b5 : b2 ≠ b5 := Nat.ne_of_lt (Nat.lt_of_lt_of_le P3_0.lt (Nat.le_of_eq g5.symm))
  have F_characters_b5 : Fld Z h5 b5 "com/example/markush/markush/index/TextSize" "characters" "J" (.long (0 : Int64)) := D5 (Or.inr (ow15 hw)) (ty := .long) (by decide)
  have F_terms_b5 : Fld Z h5 b5 "com/example/markush/markush/index/TextSize" "terms" "J" (.long (0 : Int64)) := D5 (Or.inr (ow17 hw)) (ty := .long) (by decide)
  have F_termBytes_b5 : Fld Z h5 b5 "com/example/markush/markush/index/TextSize" "termBytes" "J" (.long (0 : Int64)) := D5 (Or.inr (ow19 hw)) (ty := .long) (by decide)
  have g_b5 : n0 ≤ b5 := Nat.le_trans Z3 (Nat.le_of_eq g5.symm)
  have sz_b5 : h0.size ≤ b5 := Nat.le_trans K3.1 (Nat.le_of_eq g5.symm)
  have K5 : Keep h0 h5 [] := K3.ext E5
  have Z5 : n0 ≤ h5.size := Nat.le_trans Z0 K5.1
  obtain ⟨_, _, ⟨T6, L6, k6, n6⟩, -, X6, ⟨Lc6, hQ6, l6, y6, z6⟩, st6⟩ := X5.specialBack hx (y := (⟨"com/example/markush/markush/index/TextSize", "<init>", "(JJJ)V"⟩ : MethodName)) rfl hown (mvT hZ (ow3 hw)) (mvT hZ (ow4 hw)) (mvT hZ (ow5 hw)) (by decide) (backOf (W := 1) (rm1 l Z a0 hw [] b5 q0_3 q0_4 q0_5 (0 : Int64) (0 : Int64) (0 : Int64) h5 n0 Z5 A5 F_characters_b5 g_b5 F_terms_b5 F_termBytes_b5) hZ (ow5 hw) (ow2 hw) (by decide) (by decide)) (g := (mkF m 23 A4 [(.long q0_5), (.long q0_4), (.long q0_3), (.ref b5), (.ref b5)])) rfl (by rw [hml]; rfl) (Steps.refl _) (a := b5) (argsL := [(.long q0_3), (.long q0_4), (.long q0_5)]) (rest := [(.ref b5)]) (lenOf pd__JJJ_V rfl) rfl (by show 2 * 0 + _ ≤ _; exact Nat.le_of_eq rfl) (hb hby at_23) (fun _ _ => ⟨rfl, e5, (by decide : 2 + 0 ≤ _), (by decide : 6 + 0 ≤ _)⟩)
  dsimp only [Pt.U, Pt.locs, Pt.cells, Pt.slots] at X6 l6 y6 z6 st6 hQ6
  subst l6 y6 z6
  obtain ⟨rfl, Nq6, Kc6, P6_0, P6_1, P6_2, P6_3⟩ := hQ6
  have K6 : Keep h0 T6.heap [] := Keep.trans K5 Kc6 (allS (P := fun x => x ∈ ([] : List Addr) ∨ h0.size ≤ x) (Or.inr sz_b5) all0)
  have Z6 : n0 ≤ T6.heap.size := Nat.le_trans Z0 K6.1
  have N6 := Fr.app N3 Nq6
  let A7 : Array Slot := #[.val (.long q0_0), .second, .val (.long q0_1), .second, .val (.long q0_2), .second, .val (.long q0_3), .second, .val (.long q0_4), .second, .val (.long q0_5), .second, .val (.ref b2), .val (.ref b5), .unset, .unset, .unset]
  obtain ⟨_, _, ⟨T8, L8, k8, n8⟩, -, X8, ⟨Lc8, hQ8, l8, y8, z8⟩, st8⟩ := Jvm.LawKit.callS X6 hx (y := (⟨"com/example/markush/markush/index/TextSizeWithinPinLaw", "atMost", "(JJ)Z"⟩ : MethodName)) hown (mvT hZ (ow20 hw)) (mvT hZ (ow21 hw)) (mvT hZ (ow22 hw)) (mvT hZ (ow23 hw)) (by decide) (backOf (W := 0) (rm4 l Z a0 hw [] q0_0 q0_3 T6.heap n0 Z6 ) hZ (ow23 hw) (ow22 hw) (by decide) (by decide)) (g := (mkF m 31 A7 [(.long q0_3), (.long q0_0)])) rfl (by rw [hml]; rfl) (argsL := [(.long q0_0), (.long q0_3)]) (rest := []) (lenOf pd__JJ_Z rfl) rfl (by show 2 * 0 + _ ≤ _; exact Nat.le_of_eq rfl) (hb hby at_31) (fun _ _ => ⟨rfl, rfl, (by decide : 2 + 0 ≤ _), (by decide : 6 + 0 ≤ _)⟩)
  dsimp only [Pt.U, Pt.locs, Pt.cells, Pt.slots] at X8 l8 y8 z8 st8 hQ8
  subst l8 y8 z8
  obtain ⟨rfl, Nq8, e8⟩ := hQ8
  have N8 := Fr.app N6 Nq8
  obtain ⟨x9, hx9⟩ : ∃ z : Int32, z = (if (if q0_0 < q0_3 then q0_3 else q0_0) = q0_3 then (1 : Int32) else (0 : Int32)) := ⟨_, rfl⟩
  have G10 : ∀ t, Steps p.tables e below (T8.setTop (mkF m 34 A7 [(.int x9)])) t → Steps p.tables e below (s₁.setTop (mkF m 0 A1 [])) t := by
    intro t k
    show Steps p.tables e below (s₁.setTop (mkF m 0 A1 [])) _
    refine st2 _ ?_
    show Steps p.tables e below (T2.setTop (mkF m 3 A1 [(.ref b2)])) _
    refine XS.dup X2.here hx rfl (hb hby at_3) rfl rfl ?_
    show Steps p.tables e below (T2.setTop (mkF m 4 A1 [(.ref b2), (.ref b2)])) _
    refine XS.lloadN X2.here hx rfl (hb hby at_4) rfl ?_
    show Steps p.tables e below (T2.setTop (mkF m 5 A1 [(.long q0_0), (.ref b2), (.ref b2)])) _
    refine XS.lloadN X2.here hx rfl (hb hby at_5) rfl ?_
    show Steps p.tables e below (T2.setTop (mkF m 6 A1 [(.long q0_1), (.long q0_0), (.ref b2), (.ref b2)])) _
    refine XS.lload X2.here hx rfl (hb hby at_6) rfl ?_
    show Steps p.tables e below (T2.setTop (mkF m 8 A1 [(.long q0_2), (.long q0_1), (.long q0_0), (.ref b2), (.ref b2)])) _
    refine st3.trans ?_
    show Steps p.tables e below (T3.setTop (mkF m 11 A1 [(.ref b2)])) _
    refine XS.astore X3.here hx rfl (hb hby at_11) rfl rfl (l' := A4) rfl ?_
    show Steps p.tables e below (T3.setTop (mkF m 13 A4 [])) _
    refine st5 _ ?_
    show Steps p.tables e below (T5.setTop (mkF m 16 A4 [(.ref b5)])) _
    refine XS.dup X5.here hx rfl (hb hby at_16) rfl rfl ?_
    show Steps p.tables e below (T5.setTop (mkF m 17 A4 [(.ref b5), (.ref b5)])) _
    refine XS.lload X5.here hx rfl (hb hby at_17) rfl ?_
    show Steps p.tables e below (T5.setTop (mkF m 19 A4 [(.long q0_3), (.ref b5), (.ref b5)])) _
    refine XS.lload X5.here hx rfl (hb hby at_19) rfl ?_
    show Steps p.tables e below (T5.setTop (mkF m 21 A4 [(.long q0_4), (.long q0_3), (.ref b5), (.ref b5)])) _
    refine XS.lload X5.here hx rfl (hb hby at_21) rfl ?_
    show Steps p.tables e below (T5.setTop (mkF m 23 A4 [(.long q0_5), (.long q0_4), (.long q0_3), (.ref b5), (.ref b5)])) _
    refine st6.trans ?_
    show Steps p.tables e below (T6.setTop (mkF m 26 A4 [(.ref b5)])) _
    refine XS.astore X6.here hx rfl (hb hby at_26) rfl rfl (l' := A7) rfl ?_
    show Steps p.tables e below (T6.setTop (mkF m 28 A7 [])) _
    refine XS.lloadN X6.here hx rfl (hb hby at_28) rfl ?_
    show Steps p.tables e below (T6.setTop (mkF m 29 A7 [(.long q0_0)])) _
    refine XS.lload X6.here hx rfl (hb hby at_29) rfl ?_
    show Steps p.tables e below (T6.setTop (mkF m 31 A7 [(.long q0_3), (.long q0_0)])) _
    refine st8 _ ?_
    show Steps p.tables e below (T8.setTop (mkF m 34 A7 [(.int (if (if q0_0 < q0_3 then q0_3 else q0_0) = q0_3 then (1 : Int32) else (0 : Int32)))])) _
    rw [← hx9]
    exact k
  obtain ⟨v18, hv18⟩ : ∃ z : Int32, z = (if x9 = (0 : Int32) then (0 : Int32) else (if (if (if q0_1 < q0_4 then q0_4 else q0_1) = q0_4 then (1 : Int32) else (0 : Int32)) = (0 : Int32) then (0 : Int32) else (if (if (if q0_2 < q0_5 then q0_5 else q0_2) = q0_5 then (1 : Int32) else (0 : Int32)) = (0 : Int32) then (0 : Int32) else (1 : Int32)))) := ⟨_, rfl⟩
  obtain ⟨T19, Lo19, X19, N19, e19, G19⟩ := own_join X8 N8 (h := T6.heap) (mkF m 34 A7 [(.int x9)]) (mkF m 61 A7 [(.int v18)]) (by
    by_cases h34_11 : x9 = (0 : Int32)
    · refine ⟨T8, _, X8, N8, e8, fun t k => ?_⟩
      rw [show v18 = (0 : Int32) from hv18.trans (if_pos h34_11)] at k
      show Steps p.tables e below (T8.setTop (mkF m 34 A7 [(.int x9)])) _
      refine XS.ifYes X8.here hx rfl (pc0 := 34) (pc' := 60) rfl (hb hby at_34) rfl ((if0 _ _).trans (teq h34_11).1) (by decide) (by decide) ?_
      show Steps p.tables e below (T8.setTop (mkF m 60 A7 [])) _
      refine XS.iconst X8.here hx rfl (hb hby at_60) ?_
      exact k
    · obtain ⟨_, _, ⟨T12, L12, k12, n12⟩, -, X12, ⟨Lc12, hQ12, l12, y12, z12⟩, st12⟩ := Jvm.LawKit.callS X8 hx (y := (⟨"com/example/markush/markush/index/TextSizeWithinPinLaw", "atMost", "(JJ)Z"⟩ : MethodName)) hown (mvT hZ (ow20 hw)) (mvT hZ (ow21 hw)) (mvT hZ (ow22 hw)) (mvT hZ (ow23 hw)) (by decide) (backOf (W := 0) (rm4 l Z a0 hw [] q0_1 q0_4 T6.heap n0 Z6 ) hZ (ow23 hw) (ow22 hw) (by decide) (by decide)) (g := (mkF m 40 A7 [(.long q0_4), (.long q0_1)])) rfl (by rw [hml]; rfl) (argsL := [(.long q0_1), (.long q0_4)]) (rest := []) (lenOf pd__JJ_Z rfl) rfl (by show 2 * 0 + _ ≤ _; exact Nat.le_of_eq rfl) (hb hby at_40) (fun _ _ => ⟨rfl, e8, (by decide : 2 + 0 ≤ _), (by decide : 6 + 0 ≤ _)⟩)
      dsimp only [Pt.U, Pt.locs, Pt.cells, Pt.slots] at X12 l12 y12 z12 st12 hQ12
      subst l12 y12 z12
      obtain ⟨rfl, Nq12, e12⟩ := hQ12
      have N12 := Fr.app N8 Nq12
      have G13 : ∀ t, Steps p.tables e below (T12.setTop (mkF m 43 A7 [(.int (if (if q0_1 < q0_4 then q0_4 else q0_1) = q0_4 then (1 : Int32) else (0 : Int32)))])) t → Steps p.tables e below (T8.setTop (mkF m 34 A7 [(.int x9)])) t := by
        intro t k
        show Steps p.tables e below (T8.setTop (mkF m 34 A7 [(.int x9)])) _
        refine XS.ifNo X8.here hx rfl (hb hby at_34) rfl ((if0 _ _).trans (feq h34_11).1) ?_
        show Steps p.tables e below (T8.setTop (mkF m 37 A7 [])) _
        refine XS.lloadN X8.here hx rfl (hb hby at_37) rfl ?_
        show Steps p.tables e below (T8.setTop (mkF m 38 A7 [(.long q0_1)])) _
        refine XS.lload X8.here hx rfl (hb hby at_38) rfl ?_
        show Steps p.tables e below (T8.setTop (mkF m 40 A7 [(.long q0_4), (.long q0_1)])) _
        refine st12 _ ?_
        exact k
      by_cases h43_14 : (if (if q0_1 < q0_4 then q0_4 else q0_1) = q0_4 then (1 : Int32) else (0 : Int32)) = (0 : Int32)
      · refine ⟨T12, _, X12, N12, e12, fun t k => ?_⟩
        rw [show v18 = (0 : Int32) from hv18.trans ((if_neg h34_11).trans (if_pos h43_14))] at k
        refine G13 _ ?_
        show Steps p.tables e below (T12.setTop (mkF m 43 A7 [(.int (if (if q0_1 < q0_4 then q0_4 else q0_1) = q0_4 then (1 : Int32) else (0 : Int32)))])) _
        refine XS.ifYes X12.here hx rfl (pc0 := 43) (pc' := 60) rfl (hb hby at_43) rfl ((if0 _ _).trans (teq h43_14).1) (by decide) (by decide) ?_
        show Steps p.tables e below (T12.setTop (mkF m 60 A7 [])) _
        refine XS.iconst X12.here hx rfl (hb hby at_60) ?_
        exact k
      · obtain ⟨_, _, ⟨T15, L15, k15, n15⟩, -, X15, ⟨Lc15, hQ15, l15, y15, z15⟩, st15⟩ := Jvm.LawKit.callS X12 hx (y := (⟨"com/example/markush/markush/index/TextSizeWithinPinLaw", "atMost", "(JJ)Z"⟩ : MethodName)) hown (mvT hZ (ow20 hw)) (mvT hZ (ow21 hw)) (mvT hZ (ow22 hw)) (mvT hZ (ow23 hw)) (by decide) (backOf (W := 0) (rm4 l Z a0 hw [] q0_2 q0_5 T6.heap n0 Z6 ) hZ (ow23 hw) (ow22 hw) (by decide) (by decide)) (g := (mkF m 50 A7 [(.long q0_5), (.long q0_2)])) rfl (by rw [hml]; rfl) (argsL := [(.long q0_2), (.long q0_5)]) (rest := []) (lenOf pd__JJ_Z rfl) rfl (by show 2 * 0 + _ ≤ _; exact Nat.le_of_eq rfl) (hb hby at_50) (fun _ _ => ⟨rfl, e12, (by decide : 2 + 0 ≤ _), (by decide : 6 + 0 ≤ _)⟩)
        dsimp only [Pt.U, Pt.locs, Pt.cells, Pt.slots] at X15 l15 y15 z15 st15 hQ15
        subst l15 y15 z15
        obtain ⟨rfl, Nq15, e15⟩ := hQ15
        have N15 := Fr.app N12 Nq15
        have G16 : ∀ t, Steps p.tables e below (T15.setTop (mkF m 53 A7 [(.int (if (if q0_2 < q0_5 then q0_5 else q0_2) = q0_5 then (1 : Int32) else (0 : Int32)))])) t → Steps p.tables e below (T12.setTop (mkF m 43 A7 [(.int (if (if q0_1 < q0_4 then q0_4 else q0_1) = q0_4 then (1 : Int32) else (0 : Int32)))])) t := by
          intro t k
          show Steps p.tables e below (T12.setTop (mkF m 43 A7 [(.int (if (if q0_1 < q0_4 then q0_4 else q0_1) = q0_4 then (1 : Int32) else (0 : Int32)))])) _
          refine XS.ifNo X12.here hx rfl (hb hby at_43) rfl ((if0 _ _).trans (feq h43_14).1) ?_
          show Steps p.tables e below (T12.setTop (mkF m 46 A7 [])) _
          refine XS.lload X12.here hx rfl (hb hby at_46) rfl ?_
          show Steps p.tables e below (T12.setTop (mkF m 48 A7 [(.long q0_2)])) _
          refine XS.lload X12.here hx rfl (hb hby at_48) rfl ?_
          show Steps p.tables e below (T12.setTop (mkF m 50 A7 [(.long q0_5), (.long q0_2)])) _
          refine st15 _ ?_
          exact k
        by_cases h53_17 : (if (if q0_2 < q0_5 then q0_5 else q0_2) = q0_5 then (1 : Int32) else (0 : Int32)) = (0 : Int32)
        · refine ⟨T15, _, X15, N15, e15, fun t k => ?_⟩
          rw [show v18 = (0 : Int32) from hv18.trans ((if_neg h34_11).trans ((if_neg h43_14).trans (if_pos h53_17)))] at k
          refine G13 _ ?_
          refine G16 _ ?_
          show Steps p.tables e below (T15.setTop (mkF m 53 A7 [(.int (if (if q0_2 < q0_5 then q0_5 else q0_2) = q0_5 then (1 : Int32) else (0 : Int32)))])) _
          refine XS.ifYes X15.here hx rfl (pc0 := 53) (pc' := 60) rfl (hb hby at_53) rfl ((if0 _ _).trans (teq h53_17).1) (by decide) (by decide) ?_
          show Steps p.tables e below (T15.setTop (mkF m 60 A7 [])) _
          refine XS.iconst X15.here hx rfl (hb hby at_60) ?_
          exact k
        · refine ⟨T15, _, X15, N15, e15, fun t k => ?_⟩
          rw [show v18 = (1 : Int32) from hv18.trans ((if_neg h34_11).trans ((if_neg h43_14).trans (if_neg h53_17)))] at k
          refine G13 _ ?_
          refine G16 _ ?_
          show Steps p.tables e below (T15.setTop (mkF m 53 A7 [(.int (if (if q0_2 < q0_5 then q0_5 else q0_2) = q0_5 then (1 : Int32) else (0 : Int32)))])) _
          refine XS.ifNo X15.here hx rfl (hb hby at_53) rfl ((if0 _ _).trans (feq h53_17).1) ?_
          show Steps p.tables e below (T15.setTop (mkF m 56 A7 [])) _
          refine XS.iconst X15.here hx rfl (hb hby at_56) ?_
          show Steps p.tables e below (T15.setTop (mkF m 57 A7 [(.int (1 : Int32))])) _
          refine XS.goto X15.here hx rfl (pc0 := 57) (pc' := 61) rfl (hb hby at_57) (by decide) (by decide) ?_
          exact k)
  let A20 : Array Slot := #[.val (.long q0_0), .second, .val (.long q0_1), .second, .val (.long q0_2), .second, .val (.long q0_3), .second, .val (.long q0_4), .second, .val (.long q0_5), .second, .val (.ref b2), .val (.ref b5), .val (.int v18), .unset, .unset]
  have f21 := ((P3_1.ext E5).keep Kc6 (ninS ne_b2_b5 nin0))
  have f22 := ((P3_2.ext E5).keep Kc6 (ninS ne_b2_b5 nin0))
  have f23 := ((P3_3.ext E5).keep Kc6 (ninS ne_b2_b5 nin0))
  have f25 := ((P3_0.ext E5).keep Kc6)
  obtain ⟨cq24, kq24, q24a, q24b, q24c⟩ := isOf hZ e19 f25
  obtain ⟨_, _, ⟨T24, L24, k24, n24⟩, -, X24, ⟨Lc24, hQ24, l24, y24, z24⟩, st24⟩ := X19.virtualBack hx (y := (⟨"com/example/markush/markush/index/TextSize", "within", "(Lcom/example/markush/markush/index/TextSize;)Z"⟩ : MethodName)) (z := (⟨"com/example/markush/markush/index/TextSize", "within", "(Lcom/example/markush/markush/index/TextSize;)Z"⟩ : MethodName)) hown (mvT hZ (ow28 hw)) (mvT hZ (ow29 hw)) (notFace_of_selects (args := #[]) (mvT hZ (ow31 hw))) (mvT hZ (ow31 hw)) (mvT hZ (ow30 hw)) (by decide) (backOf (W := 0) (rm6 l Z a0 hw [] b2 b5 q0_0 q0_3 q0_1 q0_4 q0_2 q0_5 T6.heap n0 Z6 f21 P6_1 f22 P6_2 f23 P6_3) hZ (ow32 hw) (ow2 hw) (by decide) (by decide)) q24a q24c (g := (mkF m 67 A20 [(.ref b5), (.ref b2)])) rfl (by rw [hml]; rfl) (Steps.refl _) (argsL := [(.ref b5)]) (rest := []) (lenOf pd__Lcom_example_markush_markush_index_TextSize__Z rfl) rfl (by show 2 * 0 + _ ≤ _; exact Nat.le_of_eq rfl) (hb hby at_67) (fun _ _ => ⟨rfl, e19, (by decide : 2 + 0 ≤ _), (by decide : 6 + 0 ≤ _)⟩)
  dsimp only [Pt.U, Pt.locs, Pt.cells, Pt.slots] at X24 l24 y24 z24 st24 hQ24
  subst l24 y24 z24
  obtain ⟨rfl, Nq24, e24⟩ := hQ24
  have N24 := Fr.app N19 Nq24
  obtain ⟨x26, hx26⟩ : ∃ z : Int32, z = (if q0_3 < q0_0 then (0 : Int32) else (if q0_4 < q0_1 then (0 : Int32) else (if q0_5 < q0_2 then (0 : Int32) else (1 : Int32)))) := ⟨_, rfl⟩
  let A27 : Array Slot := #[.val (.long q0_0), .second, .val (.long q0_1), .second, .val (.long q0_2), .second, .val (.long q0_3), .second, .val (.long q0_4), .second, .val (.long q0_5), .second, .val (.ref b2), .val (.ref b5), .val (.int v18), .val (.int x26), .unset]
  obtain ⟨cq28, kq28, q28a, q28b, q28c⟩ := isOf hZ e24 f25
  obtain ⟨_, _, ⟨T28, L28, k28, n28⟩, -, X28, ⟨Lc28, hQ28, l28, y28, z28⟩, st28⟩ := X24.virtualBack hx (y := (⟨"com/example/markush/markush/index/TextSize", "within", "(Lcom/example/markush/markush/index/TextSize;)Z"⟩ : MethodName)) (z := (⟨"com/example/markush/markush/index/TextSize", "within", "(Lcom/example/markush/markush/index/TextSize;)Z"⟩ : MethodName)) hown (mvT hZ (ow28 hw)) (mvT hZ (ow29 hw)) (notFace_of_selects (args := #[]) (mvT hZ (ow31 hw))) (mvT hZ (ow31 hw)) (mvT hZ (ow30 hw)) (by decide) (backOf (W := 0) (rm6 l Z a0 hw [] b2 b2 q0_0 q0_0 q0_1 q0_1 q0_2 q0_2 T6.heap n0 Z6 f21 f21 f22 f22 f23 f23) hZ (ow32 hw) (ow2 hw) (by decide) (by decide)) q28a q28c (g := (mkF m 76 A27 [(.ref b2), (.ref b2)])) rfl (by rw [hml]; rfl) (Steps.refl _) (argsL := [(.ref b2)]) (rest := []) (lenOf pd__Lcom_example_markush_markush_index_TextSize__Z rfl) rfl (by show 2 * 0 + _ ≤ _; exact Nat.le_of_eq rfl) (hb hby at_76) (fun _ _ => ⟨rfl, e24, (by decide : 2 + 0 ≤ _), (by decide : 6 + 0 ≤ _)⟩)
  dsimp only [Pt.U, Pt.locs, Pt.cells, Pt.slots] at X28 l28 y28 z28 st28 hQ28
  subst l28 y28 z28
  obtain ⟨rfl, Nq28, e28⟩ := hQ28
  have N28 := Fr.app N24 Nq28
  obtain ⟨x29, hx29⟩ : ∃ z : Int32, z = (if q0_0 < q0_0 then (0 : Int32) else (if q0_1 < q0_1 then (0 : Int32) else (if q0_2 < q0_2 then (0 : Int32) else (1 : Int32)))) := ⟨_, rfl⟩
  let A30 : Array Slot := #[.val (.long q0_0), .second, .val (.long q0_1), .second, .val (.long q0_2), .second, .val (.long q0_3), .second, .val (.long q0_4), .second, .val (.long q0_5), .second, .val (.ref b2), .val (.ref b5), .val (.int v18), .val (.int x26), .val (.int x29)]
  have G31 : ∀ t, Steps p.tables e below (T28.setTop (mkF m 85 A30 [(.int v18), (.int x26)])) t → Steps p.tables e below (T19.setTop (mkF m 61 A7 [(.int v18)])) t := by
    intro t k
    show Steps p.tables e below (T19.setTop (mkF m 61 A7 [(.int v18)])) _
    refine XS.istore X19.here hx rfl (hb hby at_61) rfl (l' := A20) rfl ?_
    show Steps p.tables e below (T19.setTop (mkF m 63 A20 [])) _
    refine XS.aload X19.here hx rfl (hb hby at_63) rfl rfl ?_
    show Steps p.tables e below (T19.setTop (mkF m 65 A20 [(.ref b2)])) _
    refine XS.aload X19.here hx rfl (hb hby at_65) rfl rfl ?_
    show Steps p.tables e below (T19.setTop (mkF m 67 A20 [(.ref b5), (.ref b2)])) _
    refine st24.trans ?_
    show Steps p.tables e below (T24.setTop (mkF m 70 A20 [(.int (if q0_3 < q0_0 then (0 : Int32) else (if q0_4 < q0_1 then (0 : Int32) else (if q0_5 < q0_2 then (0 : Int32) else (1 : Int32)))))])) _
    rw [← hx26]
    show Steps p.tables e below (T24.setTop (mkF m 70 A20 [(.int x26)])) _
    refine XS.istore X24.here hx rfl (hb hby at_70) rfl (l' := A27) rfl ?_
    show Steps p.tables e below (T24.setTop (mkF m 72 A27 [])) _
    refine XS.aload X24.here hx rfl (hb hby at_72) rfl rfl ?_
    show Steps p.tables e below (T24.setTop (mkF m 74 A27 [(.ref b2)])) _
    refine XS.aload X24.here hx rfl (hb hby at_74) rfl rfl ?_
    show Steps p.tables e below (T24.setTop (mkF m 76 A27 [(.ref b2), (.ref b2)])) _
    refine st28.trans ?_
    show Steps p.tables e below (T28.setTop (mkF m 79 A27 [(.int (if q0_0 < q0_0 then (0 : Int32) else (if q0_1 < q0_1 then (0 : Int32) else (if q0_2 < q0_2 then (0 : Int32) else (1 : Int32)))))])) _
    rw [← hx29]
    show Steps p.tables e below (T28.setTop (mkF m 79 A27 [(.int x29)])) _
    refine XS.istore X28.here hx rfl (hb hby at_79) rfl (l' := A30) rfl ?_
    show Steps p.tables e below (T28.setTop (mkF m 81 A30 [])) _
    refine XS.iload X28.here hx rfl (hb hby at_81) rfl ?_
    show Steps p.tables e below (T28.setTop (mkF m 83 A30 [(.int x26)])) _
    refine XS.iload X28.here hx rfl (hb hby at_83) rfl ?_
    exact k
  obtain ⟨v35, hv35⟩ : ∃ z : Int32, z = (if x26 = v18 then (if x29 = (0 : Int32) then (0 : Int32) else (1 : Int32)) else (0 : Int32)) := ⟨_, rfl⟩
  obtain ⟨T36, Lo36, X36, N36, e36, G36⟩ := own_join X28 N28 (h := T6.heap) (mkF m 85 A30 [(.int v18), (.int x26)]) (mkF m 98 A30 [(.int v35)]) (by
    by_cases h85_32 : x26 = v18
    · have G33 : ∀ t, Steps p.tables e below (T28.setTop (mkF m 90 A30 [(.int x29)])) t → Steps p.tables e below (T28.setTop (mkF m 85 A30 [(.int v18), (.int x26)])) t := by
        intro t k
        show Steps p.tables e below (T28.setTop (mkF m 85 A30 [(.int v18), (.int x26)])) _
        refine XS.icmpNo X28.here hx rfl (hb hby at_85) rfl (teq h85_32).2 ?_
        show Steps p.tables e below (T28.setTop (mkF m 88 A30 [])) _
        refine XS.iload X28.here hx rfl (hb hby at_88) rfl ?_
        exact k
      by_cases h90_34 : x29 = (0 : Int32)
      · refine ⟨T28, _, X28, N28, e28, fun t k => ?_⟩
        rw [show v35 = (0 : Int32) from hv35.trans ((if_pos h85_32).trans (if_pos h90_34))] at k
        refine G33 _ ?_
        show Steps p.tables e below (T28.setTop (mkF m 90 A30 [(.int x29)])) _
        refine XS.ifYes X28.here hx rfl (pc0 := 90) (pc' := 97) rfl (hb hby at_90) rfl ((if0 _ _).trans (teq h90_34).1) (by decide) (by decide) ?_
        show Steps p.tables e below (T28.setTop (mkF m 97 A30 [])) _
        refine XS.iconst X28.here hx rfl (hb hby at_97) ?_
        exact k
      · refine ⟨T28, _, X28, N28, e28, fun t k => ?_⟩
        rw [show v35 = (1 : Int32) from hv35.trans ((if_pos h85_32).trans (if_neg h90_34))] at k
        refine G33 _ ?_
        show Steps p.tables e below (T28.setTop (mkF m 90 A30 [(.int x29)])) _
        refine XS.ifNo X28.here hx rfl (hb hby at_90) rfl ((if0 _ _).trans (feq h90_34).1) ?_
        show Steps p.tables e below (T28.setTop (mkF m 93 A30 [])) _
        refine XS.iconst X28.here hx rfl (hb hby at_93) ?_
        show Steps p.tables e below (T28.setTop (mkF m 94 A30 [(.int (1 : Int32))])) _
        refine XS.goto X28.here hx rfl (pc0 := 94) (pc' := 98) rfl (hb hby at_94) (by decide) (by decide) ?_
        exact k
    · refine ⟨T28, _, X28, N28, e28, fun t k => ?_⟩
      rw [show v35 = (0 : Int32) from hv35.trans (if_neg h85_32)] at k
      show Steps p.tables e below (T28.setTop (mkF m 85 A30 [(.int v18), (.int x26)])) _
      refine XS.icmpYes X28.here hx rfl (pc0 := 85) (pc' := 97) rfl (hb hby at_85) rfl (feq h85_32).2 (by decide) (by decide) ?_
      show Steps p.tables e below (T28.setTop (mkF m 97 A30 [])) _
      refine XS.iconst X28.here hx rfl (hb hby at_97) ?_
      exact k)
  have fin : v35 = (1 : Int32) := by
    exact own_fin q0_0 q0_1 q0_2 q0_3 q0_4 q0_5 x9 hx9 v18 hv18 x26 hx26 x29 hx29 v35 hv35
  obtain ⟨fs, hr, hrun, hended, hW, hsame⟩ := X36.leave (v := some (.int (1 : Int32))) (fun h => by rw [Bd.returns] at h; cases h)
  refine ⟨_, _, pre0 _ ?_, hrun, hended, _, _, rfl, ?_, ⟨_, rfl⟩, hW, hsame.mono (by decide) (by decide)⟩
  · refine G10 _ ?_
    refine G19 _ ?_
    refine G31 _ ?_
    refine G36 _ ?_
    show Steps p.tables e below (T36.setTop (mkF m 98 A30 [(.int v35)])) _
    rw [fin]
    exact retN X36 hx (t := .boolean) Bd.returns (by simp) (hb hby at_98) hr
  · exact ⟨rfl, N36⟩
set_option maxRecDepth 65536 in
set_option maxHeartbeats 40000000 in
theorem comes_1 {Post : Tables → Env → Array Value → State → Outcome → State → Prop} (hpost : ∀ tb e args s v u, (limb_1_1.after args s (.returned v) u = true ∧ limb_1_2.after args s (.returned v) u = true ∧ True) → FrameEnd s (.returned v) u (Jvm.fieldLocs frame_1_writes args s ++ Jvm.arrayLocs frame_1_arrays args s ++ Jvm.staticLocs frame_1_statics s) 16 128 → Post tb e args s (.returned v) u) :
    ArmFor flags0 classFile x code maxLocals ret World_1 tables_1 room_1 Calls_1 rest_1 Pre_1 Post := by
  intro l hfl _ _ p e ha hc hk s m args below hf hA hF happ hP
  obtain ⟨hcalls, hrest, hpre⟩ := hP
  obtain ⟨-, -, -, hnamed, -, -, -, hat⟩ := (Spec.applies_iff hf).mp happ
  obtain ⟨hg, hn⟩ := and_e (Cond.before_iff.mp (show (Jvm.Cond.and given_1 narrow_1).before args s = true from hpre))
  obtain ⟨g1, g2⟩ := and_e hg
  obtain ⟨g3, g4⟩ := and_e g2
  obtain ⟨g5, g6⟩ := and_e g4
  obtain ⟨g7, g8⟩ := and_e g6
  obtain ⟨g9, g10⟩ := and_e g8
  obtain ⟨g11, g12⟩ := and_e g10
  obtain ⟨w0, w1, w2, w3, w4, w5, rfl⟩ : ∃ w0 w1 w2 w3 w4 w5 : Value, args = #[w0, w1, w2, w3, w4, w5] := by
    have hs : args.size = 6 := by simpa [Cond.value, given_1] using g1
    obtain ⟨L⟩ := args
    match L, hs with
    | [w0, w1, w2, w3, w4, w5], _ => exact ⟨w0, w1, w2, w3, w4, w5, rfl⟩
  have hw := fun d (hd : d ∈ tables_1) => atoms_spec (ws := Jvm.Cond.code x code maxLocals ret :: tables_1) hat d (List.mem_cons_of_mem _ hd)
  have hfit : Fit s := fun {y c} hc i hi => by
    obtain ⟨ha, rfl⟩ := Array.getElem?_eq_some_iff.mp hc
    have q := List.all_eq_true.mp ((Array.all_eq_true_iff_forall_mem.mp hF) _ (Array.getElem_mem ha)) i (List.mem_range.mpr hi)
    simpa [Array.getElem?_eq_getElem hi] using q
  obtain ⟨i0, ei0⟩ := isL_v g3
  obtain rfl : w0 = (.long i0) := Option.some.inj ei0
  obtain ⟨i1, ei1⟩ := isL_v g5
  obtain rfl : w1 = (.long i1) := Option.some.inj ei1
  obtain ⟨i2, ei2⟩ := isL_v g7
  obtain rfl : w2 = (.long i2) := Option.some.inj ei2
  obtain ⟨i3, ei3⟩ := isL_v g9
  obtain rfl : w3 = (.long i3) := Option.some.inj ei3
  obtain ⟨i4, ei4⟩ := isL_v g11
  obtain rfl : w4 = (.long i4) := Option.some.inj ei4
  obtain ⟨i5, ei5⟩ := isL_v g12
  obtain rfl : w5 = (.long i5) := Option.some.inj ei5
  obtain ⟨n, o, h1, h2, h3, _, L, rfl, ⟨rfl, N⟩, hq⟩ := rm0 l s _ hw tables_1 i0 i1 i2 i3 i4 i5 s.heap s.heap.size (Nat.le_refl _) p e ha hc hk s m _ below hf ((Spec.applies_iff_loose hf).mp happ).1 ⟨rfl, State.Warmed39.refl s, rfl⟩ trivial
  refine ⟨n, _, h1, h2, h3, hpost _ _ _ _ _ _ ⟨Cond.after_iff.mpr rfl, Cond.after_iff.mpr (eq_i res_at (Term.int_eval (1)) rfl), trivial⟩ ⟨hq.1, hq.2.1, (hq.2.2.sift fun y hy => Or.inr (N y hy)).mono (by decide) (by decide)⟩⟩
theorem main_1_1 : Claimed_1_1 := comes_1 fun _ _ _ _ _ _ h hF => ⟨h.1, hF⟩
theorem main_1_2 : Claimed_1_2 := comes_1 fun _ _ _ _ _ _ h hF => ⟨h.2.1, hF⟩
end Jvm.Pilot.@@N@@
namespace Jvm.Pilot.@@N@@
open Jvm Jvm.ClassFile Sem Op Lib Jvm.Free Jvm.Stand Jvm.Pilot.@@N@@.Jvm.D
/-! MADE BY PROGRAM (witnessworld.py) out of the Statement's table words and the real class files: 11 classes; the members and pool entries that the words name. The judged class is class 1, her method 2. -/
namespace start1
open Jvm.ClassFile
def u (s : String) : CpInfo := .utf8 (stringToUtf16 s)
/-- a pool by its gaps: so many unusable entries, then the entry; so many at the end -/
def gap : Nat → List CpInfo → List CpInfo
  | 0, r => r
  | n + 1, r => .unusable :: gap n r
def poolList (es : List (Nat × CpInfo)) (last : Nat) : List CpInfo := es.foldr (fun e r => gap e.1 (e.2 :: r)) (gap last [])
def pool (es : List (Nat × CpInfo)) (last : Nat) : Array CpInfo := ⟨poolList es last⟩
def fileOf (pool : Array CpInfo) (this : Nat) (attrs : Array Attribute := #[]) (ms : Array MethodInfo := #[]) (fl : Nat := 33) (sup : Nat := 0) (ifs : Array Nat := #[]) (fds : Array FieldInfo := #[]) : ClassFile where
  minorVersion := 0
  majorVersion := 65
  constantPool := pool
  accessFlags := fl
  thisClass := this
  superClass := sup
  interfaces := ifs
  fields := fds
  methods := ms
  attributes := attrs
def plain (name : String) (sup : Option ClassId) : Class where
  name := name
  kind := .ordinary
  loader := none
  accessFlags := 33
  super := sup
  interfaces := #[]
  cf := none
  fields := #[]
  methods := #[]
  instanceTypes := #[]
  staticTypes := #[]
  resolved := #[]
  callSites := []
  init := .initialized
  statics := none
  mirror := none

def pool0 : Array CpInfo := pool [(5, u "<init>"), (0, u "()V"), (1, .class_ 10), (1, u "java/lang/Object")] 113

def k0c0 : Code := { maxStack := 0, maxLocals := 1, code := object_method_1_code, exceptionTable := #[], attributes := #[] }
def k0m0 : Method := { name := "<init>", desc := "()V", sig := { parameters := [], returnType := none }, accessFlags := 1, code := some k0c0 }
/-- java/lang/Object -/
def k0 : Class := { plain "java/lang/Object" none with
  accessFlags := 33
  interfaces := #[]
  cf := some (fileOf pool0 8 #[] #[{ accessFlags := 1, nameIndex := 5, descriptorIndex := 6, attributes := #[] }] 33 0 #[] #[])
  fields := #[]
  methods := #[k0m0]
  instanceTypes := #[]
  staticTypes := #[]
  resolved := Array.replicate 124 none
  statics := none }

def pool1 : Array CpInfo := pool [(2, .class_ 4), (1, u "java/lang/Object"), (0, u "<init>"), (0, u "()V"), (0, .methodref 8 9), (0, .class_ 10), (0, .nameAndType 11 12), (0, u "java/lang/Math"), (0, u "max"), (0, u "(JJ)J"), (0, .class_ 14), (0, u "com/example/markush/markush/index/TextSize"), (0, .methodref 13 16), (0, .nameAndType 5 17), (0, u "(JJJ)V"), (0, .methodref 19 20), (0, .class_ 21), (0, .nameAndType 22 23), (0, u "com/example/markush/markush/index/TextSizeWithinPinLaw"), (0, u "atMost"), (0, u "(JJ)Z"), (0, .methodref 13 25), (0, .nameAndType 26 27), (0, u "within"), (0, u "(Lcom/example/markush/markush/index/TextSize;)Z"), (3, u "law"), (0, u "(JJJJJJ)Z")] 2

def k1m0 : Method := { name := "<init>", desc := "()V", sig := { parameters := [], returnType := none }, accessFlags := 2, code := none }
def k1c1 : Code := { maxStack := 4, maxLocals := 4, code := method_2_code, exceptionTable := #[], attributes := #[] }
def k1m1 : Method := { name := "atMost", desc := "(JJ)Z", sig := { parameters := [.long, .long], returnType := some .boolean }, accessFlags := 10, code := some k1c1 }
def k1c2 : Code := { maxStack := 8, maxLocals := 17, code := code, exceptionTable := #[], attributes := #[] }
def k1m2 : Method := { name := "law", desc := "(JJJJJJ)Z", sig := { parameters := [.long, .long, .long, .long, .long, .long], returnType := some .boolean }, accessFlags := 9, code := some k1c2 }
/-- com/example/markush/markush/index/TextSizeWithinPinLaw -/
def k1 : Class := { plain "com/example/markush/markush/index/TextSizeWithinPinLaw" (some 0) with
  accessFlags := 49
  interfaces := #[]
  cf := some (fileOf pool1 19 #[] #[{ accessFlags := 2, nameIndex := 5, descriptorIndex := 6, attributes := #[] }, { accessFlags := 10, nameIndex := 22, descriptorIndex := 23, attributes := #[] }, { accessFlags := 9, nameIndex := 31, descriptorIndex := 32, attributes := #[] }] 49 2 #[] #[])
  fields := #[]
  methods := #[k1m0, k1m1, k1m2]
  instanceTypes := #[]
  staticTypes := #[]
  resolved := Array.replicate 35 none
  statics := none }

def pool2 : Array CpInfo := pool [(1, .methodref 2 3), (0, .class_ 4), (0, .nameAndType 5 6), (0, u "java/lang/Object"), (0, u "<init>"), (0, u "()V"), (0, .class_ 8), (0, u "java/lang/Record")] 13

def k2c0 : Code := { maxStack := 1, maxLocals := 1, code := jdk_30_method_1_code, exceptionTable := #[], attributes := #[] }
def k2m0 : Method := { name := "<init>", desc := "()V", sig := { parameters := [], returnType := none }, accessFlags := 4, code := some k2c0 }
/-- java/lang/Record -/
def k2 : Class := { plain "java/lang/Record" (some 0) with
  accessFlags := 1057
  interfaces := #[]
  cf := some (fileOf pool2 7 #[] #[{ accessFlags := 4, nameIndex := 5, descriptorIndex := 6, attributes := #[] }] 1057 2 #[] #[])
  fields := #[]
  methods := #[k2m0]
  instanceTypes := #[]
  staticTypes := #[]
  resolved := Array.replicate 22 none
  statics := none }

def pool3 : Array CpInfo := pool [(1, .methodref 2 3), (0, .class_ 4), (0, .nameAndType 5 6), (0, u "java/lang/Record"), (0, u "<init>"), (0, u "()V"), (0, .fieldref 8 9), (0, .class_ 10), (0, .nameAndType 11 12), (0, u "com/example/markush/markush/index/TextSize"), (0, u "characters"), (0, u "J"), (0, .fieldref 8 14), (0, .nameAndType 15 12), (0, u "terms"), (0, .fieldref 8 17), (0, .nameAndType 18 12), (0, u "termBytes"), (2, u "(JJJ)V"), (14, u "NONE"), (0, u "Lcom/example/markush/markush/index/TextSize;"), (6, u "within"), (0, u "(Lcom/example/markush/markush/index/TextSize;)Z")] 28

def k3c0 : Code := { maxStack := 3, maxLocals := 7, code := prog_50_method_1_code, exceptionTable := #[], attributes := #[] }
def k3m0 : Method := { name := "<init>", desc := "(JJJ)V", sig := { parameters := [.long, .long, .long], returnType := none }, accessFlags := 0, code := some k3c0 }
def k3c1 : Code := { maxStack := 4, maxLocals := 2, code := prog_50_method_4_code, exceptionTable := #[], attributes := #[] }
def k3m1 : Method := { name := "within", desc := "(Lcom/example/markush/markush/index/TextSize;)Z", sig := { parameters := [(.object "com/example/markush/markush/index/TextSize")], returnType := some .boolean }, accessFlags := 0, code := some k3c1 }
/-- com/example/markush/markush/index/TextSize -/
def k3 : Class := { plain "com/example/markush/markush/index/TextSize" (some 2) with
  accessFlags := 48
  interfaces := #[]
  cf := some (fileOf pool3 8 #[] #[{ accessFlags := 0, nameIndex := 5, descriptorIndex := 21, attributes := #[] }, { accessFlags := 0, nameIndex := 44, descriptorIndex := 45, attributes := #[] }] 48 2 #[] #[{ accessFlags := 18, nameIndex := 11, descriptorIndex := 12, attributes := #[] }, { accessFlags := 18, nameIndex := 15, descriptorIndex := 12, attributes := #[] }, { accessFlags := 18, nameIndex := 18, descriptorIndex := 12, attributes := #[] }, { accessFlags := 24, nameIndex := 36, descriptorIndex := 37, attributes := #[] }])
  fields := #[{ name := "characters", type := .long, accessFlags := 18, slot := 0, constantValue := 0 }, { name := "terms", type := .long, accessFlags := 18, slot := 1, constantValue := 0 }, { name := "termBytes", type := .long, accessFlags := 18, slot := 2, constantValue := 0 }, { name := "NONE", type := (.object "com/example/markush/markush/index/TextSize"), accessFlags := 24, slot := 0, constantValue := 0 }]
  methods := #[k3m0, k3m1]
  instanceTypes := #[.long, .long, .long]
  staticTypes := #[(.object "com/example/markush/markush/index/TextSize")]
  resolved := Array.replicate 74 none
  statics := none }

def pool4 : Array CpInfo := pool [(1, .class_ 2), (0, u "java/lang/Math"), (1, .class_ 6), (1, u "java/lang/Object"), (0, u "<init>"), (0, u "()V"), (89, .class_ 100), (1, u "java/lang/Math$RandomNumberGeneratorHolder"), (20, u "(JJ)J"), (50, u "negativeZeroFloatBits"), (0, u "J"), (2, u "negativeZeroDoubleBits"), (21, u "max"), (46, u "$assertionsDisabled"), (0, u "Z"), (91, u "twoToTheDoubleScaleDown"), (0, u "D"), (4, u "twoToTheDoubleScaleUp"), (9, u "E"), (3, u "PI"), (2, u "TAU"), (2, u "DEGREES_TO_RADIANS"), (0, u "RADIANS_TO_DEGREES")] 94

def k4m0 : Method := { name := "<init>", desc := "()V", sig := { parameters := [], returnType := none }, accessFlags := 2, code := none }
def k4c1 : Code := { maxStack := 4, maxLocals := 4, code := jdk_29_method_66_code, exceptionTable := #[], attributes := #[] }
def k4m1 : Method := { name := "max", desc := "(JJ)J", sig := { parameters := [.long, .long], returnType := some .long }, accessFlags := 9, code := some k4c1 }
/-- java/lang/Math -/
def k4 : Class := { plain "java/lang/Math" (some 0) with
  accessFlags := 49
  interfaces := #[]
  cf := some (fileOf pool4 1 #[.nestMembers #[98]] #[{ accessFlags := 2, nameIndex := 7, descriptorIndex := 8, attributes := #[] }, { accessFlags := 9, nameIndex := 198, descriptorIndex := 121, attributes := #[] }] 49 4 #[] #[{ accessFlags := 25, nameIndex := 354, descriptorIndex := 339, attributes := #[] }, { accessFlags := 25, nameIndex := 358, descriptorIndex := 339, attributes := #[] }, { accessFlags := 25, nameIndex := 361, descriptorIndex := 339, attributes := #[] }, { accessFlags := 26, nameIndex := 364, descriptorIndex := 339, attributes := #[] }, { accessFlags := 26, nameIndex := 365, descriptorIndex := 339, attributes := #[] }, { accessFlags := 26, nameIndex := 172, descriptorIndex := 173, attributes := #[] }, { accessFlags := 26, nameIndex := 176, descriptorIndex := 173, attributes := #[] }, { accessFlags := 8, nameIndex := 344, descriptorIndex := 339, attributes := #[] }, { accessFlags := 8, nameIndex := 338, descriptorIndex := 339, attributes := #[] }, { accessFlags := 4120, nameIndex := 245, descriptorIndex := 246, attributes := #[] }])
  fields := #[{ name := "E", type := .double, accessFlags := 25, slot := 0, constantValue := 0 }, { name := "PI", type := .double, accessFlags := 25, slot := 1, constantValue := 0 }, { name := "TAU", type := .double, accessFlags := 25, slot := 2, constantValue := 0 }, { name := "DEGREES_TO_RADIANS", type := .double, accessFlags := 26, slot := 3, constantValue := 0 }, { name := "RADIANS_TO_DEGREES", type := .double, accessFlags := 26, slot := 4, constantValue := 0 }, { name := "negativeZeroFloatBits", type := .long, accessFlags := 26, slot := 5, constantValue := 0 }, { name := "negativeZeroDoubleBits", type := .long, accessFlags := 26, slot := 6, constantValue := 0 }, { name := "twoToTheDoubleScaleUp", type := .double, accessFlags := 8, slot := 7, constantValue := 0 }, { name := "twoToTheDoubleScaleDown", type := .double, accessFlags := 8, slot := 8, constantValue := 0 }, { name := "$assertionsDisabled", type := .boolean, accessFlags := 4120, slot := 9, constantValue := 0 }]
  methods := #[k4m0, k4m1]
  instanceTypes := #[]
  staticTypes := #[.double, .double, .double, .double, .double, .long, .long, .double, .double, .boolean]
  resolved := Array.replicate 460 none
  statics := none }

def pool5 : Array CpInfo := pool [(1, u "java/lang/Cloneable"), (0, .class_ 1), (0, u "java/lang/Object"), (0, .class_ 3)] 3

/-- java/lang/Cloneable -/
def k5 : Class := { plain "java/lang/Cloneable" (some 0) with
  accessFlags := 1537
  interfaces := #[]
  cf := some (fileOf pool5 2 #[] #[] 1537 4 #[] #[])
  fields := #[]
  methods := #[]
  instanceTypes := #[]
  staticTypes := #[]
  resolved := Array.replicate 8 none
  statics := none }

def pool6 : Array CpInfo := pool [(1, u "java/io/Serializable"), (0, .class_ 1), (0, u "java/lang/Object"), (0, .class_ 3)] 3

/-- java/io/Serializable -/
def k6 : Class := { plain "java/io/Serializable" (some 0) with
  accessFlags := 1537
  interfaces := #[]
  cf := some (fileOf pool6 2 #[] #[] 1537 4 #[] #[])
  fields := #[]
  methods := #[]
  instanceTypes := #[]
  staticTypes := #[]
  resolved := Array.replicate 8 none
  statics := none }

/-- the primitive byte -/
def k7 : Class := { plain "byte" none with kind := .primitive 'B', accessFlags := 0x411 }
/-- [B -/
def k8 : Class := { plain "[B" (some 0) with kind := .array 7 .byte, interfaces := #[5, 6], accessFlags := 1041 }

/-- the primitive int -/
def k9 : Class := { plain "int" none with kind := .primitive 'I', accessFlags := 0x411 }
/-- [I -/
def k10 : Class := { plain "[I" (some 0) with kind := .array 9 .int, interfaces := #[5, 6], accessFlags := 1041 }

def heap : Heap := #[]
def classes : Array Class := #[k0, k1, k2, k3, k4, k5, k6, k7, k8, k9, k10]
def interned : List (Array UInt16 × Addr) := []
def slotsUsed : Nat := 0
def theMethod : MethodId := ⟨1, 2⟩
def args0 : Array Value := #[.long 5, .long 5, .long 5, .long 5, .long 5, .long 5]
def aboutOver (below : List Frame) : State where
  vm := { classes := classes, interned := interned.toArray }
  heap := heap
  slotsUsed := slotsUsed
  threads := #[{ frames := .invoking theMethod args0 :: below }]
def below0 : List Frame := [.native { method := ⟨0, 0⟩, args := #[] }]
def about1 : State := aboutOver below0
def p0 : Program := .bare "" "" ""
def e0 : Env := launch0.env 0 0 0
theorem w_frames : about1.frames = Frame.invoking theMethod args0 :: below0 := rfl
set_option maxRecDepth 65536 in
theorem w_args : argsFit about1.vm theMethod args0 = true := by decide +kernel
set_option maxRecDepth 65536 in
theorem w_heap : heapFits about1 = true := by decide +kernel
set_option maxRecDepth 65536 in
theorem w_runnable : about1.curStatus? = some .runnable := by decide +kernel
set_option maxRecDepth 65536 in
theorem w_alone : about1.alone = true := by decide +kernel
set_option maxRecDepth 65536 in
theorem w_named : about1.methodNamed? x = some theMethod := by decide +kernel
set_option maxRecDepth 65536 in
theorem w_hears : about1.hears theMethod below0 = true := by decide +kernel
set_option maxRecDepth 65536 in
theorem w_ripe : about1.ripe theMethod args0 below0 = true := by decide +kernel
theorem w_running : about1.status = .running := rfl
set_option maxRecDepth 65536 in
theorem w_room : about1.hasRoom e0.platform room_1 = true :=
  launch0.hasRoom_least _ room_1 (by decide +kernel) (by decide +kernel) (by decide +kernel) (by decide +kernel) (by decide +kernel) (by decide +kernel)
theorem allAtoms_all (ts : List Jvm.Cond) (a : Array Jvm.Value) (st : Jvm.State) : (allAtoms ts).before a st = ts.all (fun c => c.before a st) := by
  induction ts with
  | nil => rfl
  | cons c t ih =>
    show (Jvm.Cond.and c (allAtoms t)).before a st = _
    rw [Jvm.Cond.before_and, ih, List.all_cons]
def words1 : List Jvm.Cond := Jvm.Cond.code x code maxLocals ret :: tables_1
/-- a 'code' word, met by the world's own term for the bytes: nothing is compared byte by byte -/
theorem code_word {y : MethodName} {bytes : ByteArray} {mx : Nat} {rt : Option FieldType} {a : Array Value} {s : State} {m : MethodId} {meth : Method} {c : Code} (h1 : s.methodNamed? y = some m) (h2 : s.vm.method? m = some meth) (h3 : meth.code = some c) (h4 : c.code = bytes)
    (h5 : (c.maxLocals == mx && c.exceptionTable.isEmpty && decide (c.maxStack ≤ mostOperands) && decide (meth.sig.returnType = rt) && !meth.locks && decide (parseMethodDescriptor y.desc = some meth.sig)) = true) : (Jvm.Cond.code y bytes mx rt).before a s = true := by
  simp only [Bool.and_eq_true, beq_iff_eq, Bool.not_eq_true', decide_eq_true_eq] at h5
  obtain ⟨⟨⟨⟨⟨g1, g2⟩, g3⟩, g4⟩, g5⟩, g6⟩ := h5
  simp [Cond.before, Cond.holds, Cond.value, h1, h2, h3, h4, g1, g2, g3, g4, g5, g6]
def isCode : Jvm.Cond → Bool
  | .code _ _ _ _ => true
  | _ => false
theorem all_split {L : List Jvm.Cond} {P : Jvm.Cond → Bool} (h1 : L.all (fun c => isCode c || P c) = true) (h2 : ∀ c ∈ L.filter isCode, P c = true) : L.all P = true := by
  refine List.all_eq_true.mpr fun c hc => ?_
  have h := List.all_eq_true.mp h1 c hc
  rcases Bool.eq_false_or_eq_true (isCode c) with hi | hi
  · exact h2 c (List.mem_filter.mpr ⟨hc, hi⟩)
  · simpa [hi] using h
set_option maxRecDepth 65536 in
theorem w_c0 : (Jvm.Cond.code x code maxLocals ret).before args0 about1 = true := code_word (m := ⟨1, 2⟩) (meth := k1m2) (c := k1c2) (by decide +kernel) rfl rfl rfl (by decide +kernel)
set_option maxRecDepth 65536 in
theorem w_c1 : (Jvm.Cond.code ({ cls := "com/example/markush/markush/index/TextSize", name := "<init>", desc := "(JJJ)V" } : Jvm.MethodName) prog_50_method_1_code (7 : Nat) (Option.none : Option Jvm.ClassFile.FieldType)).before args0 about1 = true := code_word (m := ⟨3, 0⟩) (meth := k3m0) (c := k3c0) (by decide +kernel) rfl rfl rfl (by decide +kernel)
set_option maxRecDepth 65536 in
theorem w_c2 : (Jvm.Cond.code ({ cls := "java/lang/Record", name := "<init>", desc := "()V" } : Jvm.MethodName) jdk_30_method_1_code (1 : Nat) (Option.none : Option Jvm.ClassFile.FieldType)).before args0 about1 = true := code_word (m := ⟨2, 0⟩) (meth := k2m0) (c := k2c0) (by decide +kernel) rfl rfl rfl (by decide +kernel)
set_option maxRecDepth 65536 in
theorem w_c3 : (Jvm.Cond.code ({ cls := "java/lang/Object", name := "<init>", desc := "()V" } : Jvm.MethodName) object_method_1_code (1 : Nat) (Option.none : Option Jvm.ClassFile.FieldType)).before args0 about1 = true := code_word (m := ⟨0, 0⟩) (meth := k0m0) (c := k0c0) (by decide +kernel) rfl rfl rfl (by decide +kernel)
set_option maxRecDepth 65536 in
theorem w_c4 : (Jvm.Cond.code ({ cls := "com/example/markush/markush/index/TextSizeWithinPinLaw", name := "atMost", desc := "(JJ)Z" } : Jvm.MethodName) method_2_code (4 : Nat) (Option.some Jvm.ClassFile.FieldType.boolean)).before args0 about1 = true := code_word (m := ⟨1, 1⟩) (meth := k1m1) (c := k1c1) (by decide +kernel) rfl rfl rfl (by decide +kernel)
set_option maxRecDepth 65536 in
theorem w_c5 : (Jvm.Cond.code ({ cls := "java/lang/Math", name := "max", desc := "(JJ)J" } : Jvm.MethodName) jdk_29_method_66_code (4 : Nat) (Option.some Jvm.ClassFile.FieldType.long)).before args0 about1 = true := code_word (m := ⟨4, 1⟩) (meth := k4m1) (c := k4c1) (by decide +kernel) rfl rfl rfl (by decide +kernel)
set_option maxRecDepth 65536 in
theorem w_c6 : (Jvm.Cond.code ({ cls := "com/example/markush/markush/index/TextSize", name := "within", desc := "(Lcom/example/markush/markush/index/TextSize;)Z" } : Jvm.MethodName) prog_50_method_4_code (2 : Nat) (Option.some Jvm.ClassFile.FieldType.boolean)).before args0 about1 = true := code_word (m := ⟨3, 1⟩) (meth := k3m1) (c := k3c1) (by decide +kernel) rfl rfl rfl (by decide +kernel)
def codes1 : List Jvm.Cond := [Jvm.Cond.code x code maxLocals ret, Jvm.Cond.code ({ cls := "com/example/markush/markush/index/TextSize", name := "<init>", desc := "(JJJ)V" } : Jvm.MethodName) prog_50_method_1_code (7 : Nat) (Option.none : Option Jvm.ClassFile.FieldType), Jvm.Cond.code ({ cls := "java/lang/Record", name := "<init>", desc := "()V" } : Jvm.MethodName) jdk_30_method_1_code (1 : Nat) (Option.none : Option Jvm.ClassFile.FieldType), Jvm.Cond.code ({ cls := "java/lang/Object", name := "<init>", desc := "()V" } : Jvm.MethodName) object_method_1_code (1 : Nat) (Option.none : Option Jvm.ClassFile.FieldType), Jvm.Cond.code ({ cls := "com/example/markush/markush/index/TextSizeWithinPinLaw", name := "atMost", desc := "(JJ)Z" } : Jvm.MethodName) method_2_code (4 : Nat) (Option.some Jvm.ClassFile.FieldType.boolean), Jvm.Cond.code ({ cls := "java/lang/Math", name := "max", desc := "(JJ)J" } : Jvm.MethodName) jdk_29_method_66_code (4 : Nat) (Option.some Jvm.ClassFile.FieldType.long), Jvm.Cond.code ({ cls := "com/example/markush/markush/index/TextSize", name := "within", desc := "(Lcom/example/markush/markush/index/TextSize;)Z" } : Jvm.MethodName) prog_50_method_4_code (2 : Nat) (Option.some Jvm.ClassFile.FieldType.boolean)]
set_option maxRecDepth 65536 in
theorem codes_eq : words1.filter isCode = codes1 := rfl
theorem w_codes : ∀ c ∈ words1.filter isCode, c.before args0 about1 = true := by
  rw [codes_eq]
  intro c hc
  simp only [codes1, List.mem_cons, List.not_mem_nil, or_false] at hc
  rcases hc with rfl | rfl | rfl | rfl | rfl | rfl | rfl
  · exact w_c0
  · exact w_c1
  · exact w_c2
  · exact w_c3
  · exact w_c4
  · exact w_c5
  · exact w_c6
set_option maxRecDepth 65536 in
theorem w_t1 : (words1.take 24).all (fun c => isCode c || c.before args0 about1) = true := by decide +kernel
set_option maxRecDepth 65536 in
theorem w_t2 : (words1.drop 24).all (fun c => isCode c || c.before args0 about1) = true := by decide +kernel
theorem w_tables : (allAtoms (Jvm.Cond.code x code maxLocals ret :: tables_1)).before args0 about1 = true := by
  rw [allAtoms_all]
  show words1.all (fun c => c.before args0 about1) = true
  refine all_split ?_ w_codes
  rw [← List.take_append_drop 24 words1, List.all_append, w_t1, w_t2]
  rfl
set_option maxRecDepth 65536 in
theorem w_case : (Jvm.Cond.and given_1 narrow_1).before args0 about1 = true := by decide +kernel
theorem w_applies : (headSpec (Jvm.Cond.code x code maxLocals ret :: tables_1) room_1).applies x e0.platform about1 = true :=
  (Spec.applies_iff w_frames).mpr ⟨w_running, w_runnable, w_alone, w_named, w_hears, w_ripe, w_room, w_tables⟩
theorem atStart : AtStart classFile x code maxLocals ret World_1 tables_1 room_1 Calls_1 rest_1 Pre_1 launch0 p0 e0 about1 theMethod args0 below0 :=
  ⟨lists_1, trivial, launch0.admits_env _ _ _, launch0.least_env, fairChoices_fair.cas, fairChoices_fair.clock, w_frames, w_args, w_heap, w_applies, trivial, trivial, w_case⟩
end start1
theorem witness_1 : WitnessClaimed_1 := ⟨start1.p0, start1.e0, start1.about1, start1.theMethod, start1.args0, start1.below0, start1.atStart⟩
end Jvm.Pilot.@@N@@
