import JvmDerived
import JvmDerived.Pilot.@@N@@Statement
import JvmDerived.Pilot.@@N@@Code
set_option linter.unusedVariables false
set_option linter.unusedSimpArgs false
namespace Jvm.RoadKit
open Sem ClassFile Op Lib Jvm.Stand Jvm.Free Jvm.LawKit
section New
variable {p : Program} {l : Launch} {e : Env} {R : Room} {s : State} {m : MethodId} {args : Array Value} {below : List Frame} {meth : Method} {c : Code} {T : State} {locs : List Loc} {cells slots : Nat}
theorem retI (X : Stand p l e R s m args below meth c T locs cells slots) (hx : p.tables.exec = Jvm.exec) {pc : Nat} {Ls : Array Slot} {z : Int32} {rest : List Value} (hret : meth.sig.returnType = some .int) (hd : decode c.code pc = .ok (.ireturn, 1)) {fs : List Frame}
    (hl : ∀ (f : JFrame) (acts : List Action), f.method = m → f.locked = none → f.entered = [] → (doReturn e (T.setTop f) acts (some (.int z))).1 = T.setFrames fs) : Steps p.tables e below (T.setTop (mkF m pc Ls (.int z :: rest))) (T.setFrames fs) := by
  have hm' : T.vm.method? m = some meth := X.method'
  have hn : narrow .int (.int z) = .int z := rfl
  show Steps p.tables e below (T.setTop { method := m, pc := pc, locals := Ls, stack := _ :: rest, locked := none }) _
  jvm_step X.here [X.here.top, hx, hd, hm', hret, hn]
  first | (intro acts; rw [hl _ acts rfl rfl rfl]) | rw [hl _ _ rfl rfl rfl]
  exact Steps.refl _
theorem own_join {n0 : Nat} (X : Stand p l e R s m args below meth c T locs cells slots) (N : Fr n0 locs) {h : Heap} (g g' : JFrame)
    (H : ∃ (T' : State) (locs' : List Loc), Stand p l e R s m args below meth c T' locs' cells slots ∧ Fr n0 locs' ∧ T'.heap = h ∧ ∀ t, Steps p.tables e below (T'.setTop g') t → Steps p.tables e below (T.setTop g) t) :
    ∃ (T' : State) (locs' : List Loc), Stand p l e R s m args below meth c T' locs' cells slots ∧ Fr n0 locs' ∧ T'.heap = h ∧ ∀ t, Steps p.tables e below (T'.setTop g') t → Steps p.tables e below (T.setTop g) t := H
theorem own_mono (X : Stand p l e R s m args below meth c T locs cells slots) {c' s' : Nat} (h1 : cells ≤ c') (h2 : slots ≤ s') : Stand p l e R s m args below meth c T locs c' s' :=
  ⟨X.admits, X.cas, X.clock, X.frames, X.room, X.hears, X.method, X.code, X.here, X.tail, X.warmed, X.limits, X.bytes, X.same.mono h1 h2⟩
theorem own_lrem {g : JFrame} {target : State} (X : Stand p l e R s m args below meth c T locs cells slots) (hx : p.tables.exec = Jvm.exec) (hg : g.method = m) {x y : Int64} {rest : List Value} (hd : decode c.code g.pc = .ok (.lrem, 1)) (hs : g.stack = .long y :: .long x :: rest) (hy : y ≠ 0)
    (hr : Steps p.tables e below (T.setTop { g with pc := g.pc + 1, stack := .long (x % y) :: rest }) target) : Steps p.tables e below (T.setTop g) target :=
  Jvm.Free.XS.lrem X.here hx hg hd hs hy (by rw [lrem_mod x y]; exact hr)
def Bya (Z : State) (h : Heap) (a : Addr) (z : Int32) (f : Int32 → Int32) : Prop := ∃ c : Cell, Arr Z h a c .byte ∧ c.slots.size = z.toNatClampNeg ∧ ∀ j : Int32, ¬ j < 0 → j < z → c.slots[j.toNatClampNeg]? = some (.int (f j))
theorem Bya.lt {Z : State} {h : Heap} {a : Addr} {z : Int32} {f : Int32 → Int32} (F : Bya Z h a z f) : a < h.size := by obtain ⟨c, A, -⟩ := F; exact A.lt
theorem Bya.ext {Z : State} {h h' : Heap} {a : Addr} {z : Int32} {f : Int32 → Int32} (F : Bya Z h a z f) (E : Ext h h') : Bya Z h' a z f := by obtain ⟨c, A, r⟩ := F; exact ⟨c, A.ext E, r⟩
theorem Bya.other {Z : State} {h h' : Heap} {a b : Addr} {z : Int32} {f : Int32 → Int32} {sl : Nat} {v : Value} (F : Bya Z h b z f) (W : Wr h h' a sl v) (q : b ≠ a) : Bya Z h' b z f := by obtain ⟨c, A, r⟩ := F; exact ⟨c, A.other W q, r⟩
theorem Bya.keep {Z : State} {h h' : Heap} {a : Addr} {z : Int32} {f : Int32 → Int32} {ws : List Addr} (F : Bya Z h a z f) (K : Keep h h' ws) (q : a ∉ ws) : Bya Z h' a z f := by obtain ⟨c, A, r⟩ := F; exact ⟨c, ⟨K.2.1 a c A.1 q, A.2⟩, r⟩
theorem Bya.set {Z : State} {h h' : Heap} {a : Addr} {z j v : Int32} {f : Int32 → Int32} {c : Cell} (A : Arr Z h a c .byte) (S : c.slots.size = z.toNatClampNeg) (H : ∀ j : Int32, ¬ j < 0 → j < z → c.slots[j.toNatClampNeg]? = some (.int (f j))) (hj : ¬ j < 0 ∧ j < z) (W : Wr h h' a j.toNatClampNeg (.int v)) : Bya Z h' a z (fun i => if i = j then v else f i) := by
  refine ⟨_, A.same W, by rw [sz_set]; exact S, fun i h1 h2 => ?_⟩
  by_cases q : i = j
  · rw [get_hit (inb_of S hj) q]; simp [q]
  · rw [get_miss hj.1 h1 q, H i h1 h2]; simp [q]
theorem Bya.of_arv {Z : State} {h : Heap} {a : Addr} {k : ClassId} {z : Int32} {vs : List Value} {es : List Int32} (F : Arv Z h a k .byte z vs (.int (0 : Int32))) (e : vs = es.map Value.int) : Bya Z h a z (fun i => es.getD i.toNatClampNeg 0) := by
  obtain ⟨c, A, -, S, -, H, -⟩ := F
  refine ⟨c, A, S, fun j h1 h2 => ?_⟩
  refine H.at (inb_of S ⟨h1, h2⟩) ?_
  subst e
  simp only [List.getD_eq_getElem?_getD, List.getElem?_map]
  cases es[j.toNatClampNeg]? <;> rfl
theorem own_b1 {x : Int32} (h : x = 1) : ¬ x = 0 := by rw [h]; decide
theorem own_cons {α : Type} {a b : α} {l m : List α} (h1 : a = b) (h2 : l = m) : a :: l = b :: m := by rw [h1, h2]
theorem own_arv {Z : State} {h : Heap} {a : Addr} {k : ClassId} {ty : FieldType} {z : Int32} {vs ws : List Value} {d : Value} (A : Arv Z h a k ty z vs d) (q : ws = vs) : Arv Z h a k ty z ws d := q ▸ A
theorem own_fld {Z : State} {h : Heap} {a : Addr} {C n d : String} {v w : Value} (F : Fld Z h a C n d v) (q : w = v) : Fld Z h a C n d w := q ▸ F
end New
end Jvm.RoadKit
namespace Jvm.Pilot.@@N@@
open Jvm Jvm.ClassFile Sem Op Lib Jvm.Free Jvm.Stand Jvm.LawKit Jvm.RoadKit Bundle Jvm.Pilot.@@N@@.Jvm.D
theorem ow0 {Z : State} {a0 : Array Value} (hw : ∀ d ∈ tables_1, d.before a0 Z = true) : (Jvm.Cond.constant "com/example/holdback/holdback/model/EventKindTakesBackPinLaw" (7 : Nat) (2147483647 : Int32)).before a0 Z = true := hw _ (List.mem_of_getElem? (i := 0) rfl)
theorem ow1 {Z : State} {a0 : Array Value} (hw : ∀ d ∈ tables_1, d.before a0 Z = true) : (Jvm.Cond.classLink "com/example/holdback/holdback/model/EventKindTakesBackPinLaw" (8 : Nat) "com/example/holdback/holdback/model/EventKind").before a0 Z = true := hw _ (List.mem_of_getElem? (i := 1) rfl)
theorem ow2 {Z : State} {a0 : Array Value} (hw : ∀ d ∈ tables_1, d.before a0 Z = true) : (Jvm.Cond.arrayOver (Jvm.ClassFile.FieldType.object "com/example/holdback/holdback/model/EventKind")).before a0 Z = true := hw _ (List.mem_of_getElem? (i := 2) rfl)
theorem ow3 {Z : State} {a0 : Array Value} (hw : ∀ d ∈ tables_1, d.before a0 Z = true) : (Jvm.Cond.fieldLink "com/example/holdback/holdback/model/EventKindTakesBackPinLaw" (10 : Nat) "com/example/holdback/holdback/model/EventKind" "SALE" "Lcom/example/holdback/holdback/model/EventKind;").before a0 Z = true := hw _ (List.mem_of_getElem? (i := 3) rfl)
theorem ow4 {Z : State} {a0 : Array Value} (hw : ∀ d ∈ tables_1, d.before a0 Z = true) : (Jvm.Cond.initialized "com/example/holdback/holdback/model/EventKind").before a0 Z = true := hw _ (List.mem_of_getElem? (i := 4) rfl)
theorem ow5 {Z : State} {a0 : Array Value} (hw : ∀ d ∈ tables_1, d.before a0 Z = true) : (Jvm.Cond.laysStatic "com/example/holdback/holdback/model/EventKind" "SALE" "Lcom/example/holdback/holdback/model/EventKind;").before a0 Z = true := hw _ (List.mem_of_getElem? (i := 5) rfl)
theorem ow7 {Z : State} {a0 : Array Value} (hw : ∀ d ∈ tables_1, d.before a0 Z = true) : (Jvm.Cond.fieldLink "com/example/holdback/holdback/model/EventKindTakesBackPinLaw" (14 : Nat) "com/example/holdback/holdback/model/EventKind" "BALANCE" "Lcom/example/holdback/holdback/model/EventKind;").before a0 Z = true := hw _ (List.mem_of_getElem? (i := 7) rfl)
theorem ow8 {Z : State} {a0 : Array Value} (hw : ∀ d ∈ tables_1, d.before a0 Z = true) : (Jvm.Cond.laysStatic "com/example/holdback/holdback/model/EventKind" "BALANCE" "Lcom/example/holdback/holdback/model/EventKind;").before a0 Z = true := hw _ (List.mem_of_getElem? (i := 8) rfl)
theorem ow9 {Z : State} {a0 : Array Value} (hw : ∀ d ∈ tables_1, d.before a0 Z = true) : (Jvm.Cond.fieldLink "com/example/holdback/holdback/model/EventKindTakesBackPinLaw" (17 : Nat) "com/example/holdback/holdback/model/EventKind" "HOLD" "Lcom/example/holdback/holdback/model/EventKind;").before a0 Z = true := hw _ (List.mem_of_getElem? (i := 9) rfl)
theorem ow10 {Z : State} {a0 : Array Value} (hw : ∀ d ∈ tables_1, d.before a0 Z = true) : (Jvm.Cond.laysStatic "com/example/holdback/holdback/model/EventKind" "HOLD" "Lcom/example/holdback/holdback/model/EventKind;").before a0 Z = true := hw _ (List.mem_of_getElem? (i := 10) rfl)
theorem ow11 {Z : State} {a0 : Array Value} (hw : ∀ d ∈ tables_1, d.before a0 Z = true) : (Jvm.Cond.fieldLink "com/example/holdback/holdback/model/EventKindTakesBackPinLaw" (20 : Nat) "com/example/holdback/holdback/model/EventKind" "REFUND" "Lcom/example/holdback/holdback/model/EventKind;").before a0 Z = true := hw _ (List.mem_of_getElem? (i := 11) rfl)
theorem ow12 {Z : State} {a0 : Array Value} (hw : ∀ d ∈ tables_1, d.before a0 Z = true) : (Jvm.Cond.laysStatic "com/example/holdback/holdback/model/EventKind" "REFUND" "Lcom/example/holdback/holdback/model/EventKind;").before a0 Z = true := hw _ (List.mem_of_getElem? (i := 12) rfl)
theorem ow13 {Z : State} {a0 : Array Value} (hw : ∀ d ∈ tables_1, d.before a0 Z = true) : (Jvm.Cond.fieldLink "com/example/holdback/holdback/model/EventKindTakesBackPinLaw" (23 : Nat) "com/example/holdback/holdback/model/EventKind" "DISPUTE" "Lcom/example/holdback/holdback/model/EventKind;").before a0 Z = true := hw _ (List.mem_of_getElem? (i := 13) rfl)
theorem ow14 {Z : State} {a0 : Array Value} (hw : ∀ d ∈ tables_1, d.before a0 Z = true) : (Jvm.Cond.laysStatic "com/example/holdback/holdback/model/EventKind" "DISPUTE" "Lcom/example/holdback/holdback/model/EventKind;").before a0 Z = true := hw _ (List.mem_of_getElem? (i := 14) rfl)
theorem ow15 {Z : State} {a0 : Array Value} (hw : ∀ d ∈ tables_1, d.before a0 Z = true) : (Jvm.Cond.methodLink "com/example/holdback/holdback/model/EventKindTakesBackPinLaw" (26 : Nat) ({ cls := "com/example/holdback/holdback/model/EventKind", name := "takesBack", desc := "()Z" } : Jvm.MethodName)).before a0 Z = true := hw _ (List.mem_of_getElem? (i := 15) rfl)
theorem ow16 {Z : State} {a0 : Array Value} (hw : ∀ d ∈ tables_1, d.before a0 Z = true) : (Jvm.Cond.declares ({ cls := "com/example/holdback/holdback/model/EventKind", name := "takesBack", desc := "()Z" } : Jvm.MethodName)).before a0 Z = true := hw _ (List.mem_of_getElem? (i := 16) rfl)
theorem ow17 {Z : State} {a0 : Array Value} (hw : ∀ d ∈ tables_1, d.before a0 Z = true) : (Jvm.Cond.instanceMethod ({ cls := "com/example/holdback/holdback/model/EventKind", name := "takesBack", desc := "()Z" } : Jvm.MethodName)).before a0 Z = true := hw _ (List.mem_of_getElem? (i := 17) rfl)
theorem ow18 {Z : State} {a0 : Array Value} (hw : ∀ d ∈ tables_1, d.before a0 Z = true) : (Jvm.Cond.selects "com/example/holdback/holdback/model/EventKind" ({ cls := "com/example/holdback/holdback/model/EventKind", name := "takesBack", desc := "()Z" } : Jvm.MethodName) ({ cls := "com/example/holdback/holdback/model/EventKind", name := "takesBack", desc := "()Z" } : Jvm.MethodName)).before a0 Z = true := hw _ (List.mem_of_getElem? (i := 18) rfl)
theorem ow19 {Z : State} {a0 : Array Value} (hw : ∀ d ∈ tables_1, d.before a0 Z = true) : (Jvm.Cond.code ({ cls := "com/example/holdback/holdback/model/EventKind", name := "takesBack", desc := "()Z" } : Jvm.MethodName) prog_17_method_5_code (1 : Nat) (Option.some Jvm.ClassFile.FieldType.boolean)).before a0 Z = true := hw _ (List.mem_of_getElem? (i := 19) rfl)
theorem ow20 {Z : State} {a0 : Array Value} (hw : ∀ d ∈ tables_1, d.before a0 Z = true) : (Jvm.Cond.methodLink "com/example/holdback/holdback/model/EventKind" (42 : Nat) ({ cls := "com/example/holdback/holdback/model/EventKind", name := "ordinal", desc := "()I" } : Jvm.MethodName)).before a0 Z = true := hw _ (List.mem_of_getElem? (i := 20) rfl)
theorem ow21 {Z : State} {a0 : Array Value} (hw : ∀ d ∈ tables_1, d.before a0 Z = true) : (Jvm.Cond.sameMethod "com/example/holdback/holdback/model/EventKind" "java/lang/Enum" "ordinal" "()I").before a0 Z = true := hw _ (List.mem_of_getElem? (i := 21) rfl)
theorem ow22 {Z : State} {a0 : Array Value} (hw : ∀ d ∈ tables_1, d.before a0 Z = true) : (Jvm.Cond.declares ({ cls := "java/lang/Enum", name := "ordinal", desc := "()I" } : Jvm.MethodName)).before a0 Z = true := hw _ (List.mem_of_getElem? (i := 22) rfl)
theorem ow23 {Z : State} {a0 : Array Value} (hw : ∀ d ∈ tables_1, d.before a0 Z = true) : (Jvm.Cond.instanceMethod ({ cls := "java/lang/Enum", name := "ordinal", desc := "()I" } : Jvm.MethodName)).before a0 Z = true := hw _ (List.mem_of_getElem? (i := 23) rfl)
theorem ow24 {Z : State} {a0 : Array Value} (hw : ∀ d ∈ tables_1, d.before a0 Z = true) : (Jvm.Cond.selects "com/example/holdback/holdback/model/EventKind" ({ cls := "com/example/holdback/holdback/model/EventKind", name := "ordinal", desc := "()I" } : Jvm.MethodName) ({ cls := "java/lang/Enum", name := "ordinal", desc := "()I" } : Jvm.MethodName)).before a0 Z = true := hw _ (List.mem_of_getElem? (i := 24) rfl)
theorem ow25 {Z : State} {a0 : Array Value} (hw : ∀ d ∈ tables_1, d.before a0 Z = true) : (Jvm.Cond.initialized "java/lang/Enum").before a0 Z = true := hw _ (List.mem_of_getElem? (i := 25) rfl)
theorem ow26 {Z : State} {a0 : Array Value} (hw : ∀ d ∈ tables_1, d.before a0 Z = true) : (Jvm.Cond.code ({ cls := "java/lang/Enum", name := "ordinal", desc := "()I" } : Jvm.MethodName) jdk_37_method_2_code (1 : Nat) (Option.some Jvm.ClassFile.FieldType.int)).before a0 Z = true := hw _ (List.mem_of_getElem? (i := 26) rfl)
theorem ow27 {Z : State} {a0 : Array Value} (hw : ∀ d ∈ tables_1, d.before a0 Z = true) : (Jvm.Cond.fieldLink "java/lang/Enum" (7 : Nat) "java/lang/Enum" "ordinal" "I").before a0 Z = true := hw _ (List.mem_of_getElem? (i := 27) rfl)
theorem own_k (p x : Int32) (hx : x = ((p &&& (2147483647 : Int32)) % (5 : Int32))) : x = (0 : Int32) ∨ x = (1 : Int32) ∨ x = (2 : Int32) ∨ x = (3 : Int32) ∨ x = (4 : Int32) := by
  have h1 := c_and p (2147483647 : Int32) (by decide)
  have h2 := (c_iremV (p &&& (2147483647 : Int32)) (5 : Int32)).1 h1.1 (by decide)
  rw [← hx, show (5 : Int32).toInt = 5 from by decide] at h2
  simp only [← Int32.toInt_inj]
  simp only [show (0 : Int32).toInt = 0 from by decide, show (1 : Int32).toInt = 1 from by decide, show (2 : Int32).toInt = 2 from by decide, show (3 : Int32).toInt = 3 from by decide, show (4 : Int32).toInt = 4 from by decide]
  omega
theorem own_ord {args : Array Value} {s : State} {t : Jvm.Term} {a : Addr} {k : Int32} (e : t.eval args s none [] s = some (.ref a)) (h : (Jvm.Cond.eq (Jvm.Term.field t "java/lang/Enum" "ordinal" "I") (Jvm.Term.int k)).value args s none s [] = some true) : Fld s s.heap a "java/lang/Enum" "ordinal" "I" (.int k) := by
  obtain ⟨x, y, h1, h2, -, hk⟩ := cmp_v (Or.inl h)
  have h2' : y = .int k := by simpa [Term.eval] using h2.symm
  subst h2'
  obtain ⟨z, rfl⟩ := hk
  have h3 := h1
  rw [fld_at e] at h3
  have h4 : z = k := by simpa [Cond.value, h1, h2] using h
  subst h4
  exact Fld.start h3
theorem d2_0 : decode jdk_37_method_2_code 0 = .ok (.aload_n 0, 1) := by decide +kernel
theorem d2_1 : decode jdk_37_method_2_code 1 = .ok (.getfield 7, 3) := by decide +kernel
theorem d2_4 : decode jdk_37_method_2_code 4 = .ok (.ireturn, 1) := by decide +kernel
theorem pn_2 : plainName "java/lang/Enum" = true := by first | (simp [plainName, overriddenIn]; done) | decide +kernel
theorem ef_rm2_1 (m : MethodId) (y0 : Addr) : entryFrame m #[(.ref y0)] 1 = mkF m 0 #[.val (.ref y0)] [] := by first | (simp [entryFrame, mkF, argsToLocals, Value.category]; done) | rfl
def Q_rm2_1 (Z : State) (a2_0 : Addr) (h0 : Heap) (n0 : Nat) (v : Option Value) (h : Heap) (L : List Loc) : Prop := v = some (.int (0 : Int32)) ∧ Fr n0 L ∧ h = h0
set_option maxRecDepth 65536 in
set_option maxHeartbeats 40000000 in
theorem rm2_1 (l : Launch) (Z : State) (a0 : Array Value) (hw : ∀ d ∈ tables_1, d.before a0 Z = true) (ws : List Jvm.Cond) (a2_0 : Addr) (h0 : Heap) (n0 : Nat) (Z0 : n0 ≤ h0.size) (F_ordinal_a2_0 : Fld Z h0 a2_0 "java/lang/Enum" "ordinal" "I" (.int (0 : Int32))) :
    MetFree l (⟨"java/lang/Enum", "ordinal", "()I"⟩ : MethodName) (head1 (Jvm.Cond.code (⟨"java/lang/Enum", "ordinal", "()I"⟩ : MethodName) jdk_37_method_2_code 1 (some .int) :: ws) ({ frames := 0, cells := 0, slots := 0, locals := 0 } : Room)) (fun a U => a = #[(.ref a2_0)] ∧ Z.Warmed39 U.vm ∧ U.heap = h0) (fun _ _ _ _ _ => True) (fun _ U o U' => ∃ v L, o = .returned v ∧ Q_rm2_1 Z a2_0 h0 n0 v U'.heap L ∧ FrameEnd U o U' L ({ frames := 0, cells := 0, slots := 0, locals := 0 } : Room).cells ({ frames := 0, cells := 0, slots := 0, locals := 0 } : Room).slots) := by
  refine MetFree.of_bodySF (plainFor_of_name pn_2) hisR ?_
  intro p e s m args below meth c s₁ Bd hml0 hP hK
  obtain ⟨rfl, hZ, hh⟩ := hP
  have hx := Bd.exec
  have hby := Bd.bytes
  have hml : c.maxLocals = 1 := hml0
  have hown : s.vm.findClass "java/lang/Enum" = some m.cls := findClass_of_methodNamed Bd.named
  have hnm := (name_of_methodNamed Bd.named Bd.method).1
  have X0 : Stand p l e ({ frames := 0, cells := 0, slots := 0, locals := 0 } : Room) s m #[(.ref a2_0)] below meth c s₁ [] 0 0 := Stand.of_body Bd
  have e0 : s₁.heap = h0 := by rw [← hh, Bd.state]; rfl
  have N0 := Fr.nil n0
  have pre0 : ∀ t, Steps p.tables e below (s₁.setTop (mkF m 0 #[.val (.ref a2_0)] [])) t → Steps p.tables e below (s₁.setTop (entryFrame m #[(.ref a2_0)] 1)) t := fun t k => castTop (ef_rm2_1 m a2_0) k
  obtain ⟨T1, X1, e1, st1⟩ := getF X0 hx hZ hown (host := "") (Or.inl (ow27 hw)) Via.refl e0 F_ordinal_a2_0 (g := (mkF m 1 #[.val (.ref a2_0)] [(.ref a2_0)])) rfl rfl (hb hby d2_1)
  obtain ⟨fs, hr, hrun, hended, hW, hsame⟩ := X1.leave (v := some (.int (0 : Int32))) (fun h => by rw [Bd.returns] at h; cases h)
  refine ⟨_, _, pre0 _ ?_, hrun, hended, _, _, rfl, ?_, ⟨_, rfl⟩, hW, hsame.mono (by decide) (by decide)⟩
  · show Steps p.tables e below (s₁.setTop (mkF m 0 #[.val (.ref a2_0)] [])) _
    refine XS.aloadN X0.here hx rfl (hb hby d2_0) rfl rfl ?_
    show Steps p.tables e below (s₁.setTop (mkF m 1 #[.val (.ref a2_0)] [(.ref a2_0)])) _
    refine st1 _ ?_
    show Steps p.tables e below (T1.setTop (mkF m 4 #[.val (.ref a2_0)] [(.int (0 : Int32))])) _
    exact retI X1 hx Bd.returns (hb hby d2_4) hr
  · show Q_rm2_1 Z a2_0 h0 n0 _ T1.heap _
    rw [e1]
    exact ⟨rfl, N0, rfl⟩
theorem pd___I : parseMethodDescriptor "()I" = some ⟨[], some .int⟩ := by decide +kernel
theorem d1_0 : decode prog_17_method_5_code 0 = .ok (.aload_n 0, 1) := by decide +kernel
theorem d1_1 : decode prog_17_method_5_code 1 = .ok (.invokevirtual 42, 3) := by decide +kernel
theorem d1_4 : decode prog_17_method_5_code 4 = .ok (.tableswitch 36 0 4 #[46, 46, 46, 50, 50], 36) := by decide +kernel
theorem d1_50 : decode prog_17_method_5_code 50 = .ok (.iconst 0, 1) := by decide +kernel
theorem d1_51 : decode prog_17_method_5_code 51 = .ok (.goto 4, 3) := by decide +kernel
theorem d1_55 : decode prog_17_method_5_code 55 = .ok (.ireturn, 1) := by decide +kernel
theorem pn_1 : plainName "com/example/holdback/holdback/model/EventKind" = true := by first | (simp [plainName, overriddenIn]; done) | decide +kernel
theorem ef_rm1_1 (m : MethodId) (y0 : Addr) : entryFrame m #[(.ref y0)] 1 = mkF m 0 #[.val (.ref y0)] [] := by first | (simp [entryFrame, mkF, argsToLocals, Value.category]; done) | rfl
def Q_rm1_1 (Z : State) (a1_0 : Addr) (h0 : Heap) (n0 : Nat) (v : Option Value) (h : Heap) (L : List Loc) : Prop := v = some (.int (0 : Int32)) ∧ Fr n0 L ∧ h = h0
set_option maxRecDepth 65536 in
set_option maxHeartbeats 40000000 in
theorem rm1_1 (l : Launch) (Z : State) (a0 : Array Value) (hw : ∀ d ∈ tables_1, d.before a0 Z = true) (ws : List Jvm.Cond) (a1_0 : Addr) (h0 : Heap) (n0 : Nat) (Z0 : n0 ≤ h0.size) (E_a1_0 : Exa Z h0 a1_0 "com/example/holdback/holdback/model/EventKind") (F_ordinal_a1_0 : Fld Z h0 a1_0 "java/lang/Enum" "ordinal" "I" (.int (0 : Int32))) :
    MetFree l (⟨"com/example/holdback/holdback/model/EventKind", "takesBack", "()Z"⟩ : MethodName) (head1 (Jvm.Cond.code (⟨"com/example/holdback/holdback/model/EventKind", "takesBack", "()Z"⟩ : MethodName) prog_17_method_5_code 1 (some .boolean) :: ws) ({ frames := 1, cells := 0, slots := 0, locals := 12 } : Room)) (fun a U => a = #[(.ref a1_0)] ∧ Z.Warmed39 U.vm ∧ U.heap = h0) (fun _ _ _ _ _ => True) (fun _ U o U' => ∃ v L, o = .returned v ∧ Q_rm1_1 Z a1_0 h0 n0 v U'.heap L ∧ FrameEnd U o U' L ({ frames := 1, cells := 0, slots := 0, locals := 12 } : Room).cells ({ frames := 1, cells := 0, slots := 0, locals := 12 } : Room).slots) := by
  refine MetFree.of_bodySF (plainFor_of_name pn_1) hisR ?_
  intro p e s m args below meth c s₁ Bd hml0 hP hK
  obtain ⟨rfl, hZ, hh⟩ := hP
  have hx := Bd.exec
  have hby := Bd.bytes
  have hml : c.maxLocals = 1 := hml0
  have hown : s.vm.findClass "com/example/holdback/holdback/model/EventKind" = some m.cls := findClass_of_methodNamed Bd.named
  have hnm := (name_of_methodNamed Bd.named Bd.method).1
  have X0 : Stand p l e ({ frames := 1, cells := 0, slots := 0, locals := 12 } : Room) s m #[(.ref a1_0)] below meth c s₁ [] 0 0 := Stand.of_body Bd
  have e0 : s₁.heap = h0 := by rw [← hh, Bd.state]; rfl
  have N0 := Fr.nil n0
  have pre0 : ∀ t, Steps p.tables e below (s₁.setTop (mkF m 0 #[.val (.ref a1_0)] [])) t → Steps p.tables e below (s₁.setTop (entryFrame m #[(.ref a1_0)] 1)) t := fun t k => castTop (ef_rm1_1 m a1_0) k
  obtain ⟨cq1, kq1, q1a, q1b, q1c⟩ := isOf hZ e0 E_a1_0
  obtain ⟨_, _, ⟨T1, L1, k1, n1⟩, -, X1, ⟨Lc1, hQ1, l1, y1, z1⟩, st1⟩ := X0.virtualBackUp hx (C := "com/example/holdback/holdback/model/EventKind") (owner := "java/lang/Enum") (x := (⟨"com/example/holdback/holdback/model/EventKind", "ordinal", "()I"⟩ : MethodName)) (y := (⟨"java/lang/Enum", "ordinal", "()I"⟩ : MethodName)) hown (mvT hZ (ow20 hw)) (mvT hZ (ow21 hw)) (mvT hZ (ow22 hw)) (by decide) (mvT hZ (ow24 hw)) (mvT hZ (ow23 hw)) (backOf (W := 0) (rm2_1 l Z a0 hw [] a1_0 h0 n0 Z0 F_ordinal_a1_0) hZ (ow26 hw) (ow25 hw) (by decide) (by decide)) q1a q1c (g := (mkF m 1 #[.val (.ref a1_0)] [(.ref a1_0)])) rfl (by rw [hml]; rfl) (Steps.refl _) (argsL := []) (rest := []) (lenOf pd___I rfl) rfl (by show 2 * 0 + _ ≤ _; exact Nat.le_of_eq rfl) (hb hby d1_1) (fun _ _ => ⟨rfl, e0, (by decide : 0 + 0 ≤ _), (by decide : 0 + 0 ≤ _)⟩)
  dsimp only [Pt.U, Pt.locs, Pt.cells, Pt.slots] at X1 l1 y1 z1 st1 hQ1
  subst l1 y1 z1
  obtain ⟨rfl, Nq1, e1⟩ := hQ1
  have N1 := Fr.app N0 Nq1
  obtain ⟨fs, hr, hrun, hended, hW, hsame⟩ := X1.leave (v := some (.int (0 : Int32))) (fun h => by rw [Bd.returns] at h; cases h)
  refine ⟨_, _, pre0 _ ?_, hrun, hended, _, _, rfl, ?_, ⟨_, rfl⟩, hW, hsame.mono (by decide) (by decide)⟩
  · show Steps p.tables e below (s₁.setTop (mkF m 0 #[.val (.ref a1_0)] [])) _
    refine XS.aloadN X0.here hx rfl (hb hby d1_0) rfl rfl ?_
    show Steps p.tables e below (s₁.setTop (mkF m 1 #[.val (.ref a1_0)] [(.ref a1_0)])) _
    refine st1.trans ?_
    show Steps p.tables e below (T1.setTop (mkF m 4 #[.val (.ref a1_0)] [(.int (0 : Int32))])) _
    refine XS.tswIn X1.here hx rfl (pc0 := 4) (pc' := 50) rfl (hb hby d1_4) rfl (by decide) (o := 46) rfl (by decide) (by decide) ?_
    show Steps p.tables e below (T1.setTop (mkF m 50 #[.val (.ref a1_0)] [])) _
    refine XS.iconst X1.here hx rfl (hb hby d1_50) ?_
    show Steps p.tables e below (T1.setTop (mkF m 51 #[.val (.ref a1_0)] [(.int (0 : Int32))])) _
    refine XS.goto X1.here hx rfl (pc0 := 51) (pc' := 55) rfl (hb hby d1_51) (by decide) (by decide) ?_
    show Steps p.tables e below (T1.setTop (mkF m 55 #[.val (.ref a1_0)] [(.int (0 : Int32))])) _
    exact retN X1 hx (t := .boolean) Bd.returns (by simp) (hb hby d1_55) hr
  · show Q_rm1_1 Z a1_0 h0 n0 _ T1.heap _
    rw [e1]
    exact ⟨rfl, N1, rfl⟩
theorem pd___Z : parseMethodDescriptor "()Z" = some ⟨[], some .boolean⟩ := by decide +kernel
theorem ef_rm2_2 (m : MethodId) (y0 : Addr) : entryFrame m #[(.ref y0)] 1 = mkF m 0 #[.val (.ref y0)] [] := by first | (simp [entryFrame, mkF, argsToLocals, Value.category]; done) | rfl
def Q_rm2_2 (Z : State) (a2_0 : Addr) (h0 : Heap) (n0 : Nat) (v : Option Value) (h : Heap) (L : List Loc) : Prop := v = some (.int (1 : Int32)) ∧ Fr n0 L ∧ h = h0
set_option maxRecDepth 65536 in
set_option maxHeartbeats 40000000 in
theorem rm2_2 (l : Launch) (Z : State) (a0 : Array Value) (hw : ∀ d ∈ tables_1, d.before a0 Z = true) (ws : List Jvm.Cond) (a2_0 : Addr) (h0 : Heap) (n0 : Nat) (Z0 : n0 ≤ h0.size) (F_ordinal_a2_0 : Fld Z h0 a2_0 "java/lang/Enum" "ordinal" "I" (.int (1 : Int32))) :
    MetFree l (⟨"java/lang/Enum", "ordinal", "()I"⟩ : MethodName) (head1 (Jvm.Cond.code (⟨"java/lang/Enum", "ordinal", "()I"⟩ : MethodName) jdk_37_method_2_code 1 (some .int) :: ws) ({ frames := 0, cells := 0, slots := 0, locals := 0 } : Room)) (fun a U => a = #[(.ref a2_0)] ∧ Z.Warmed39 U.vm ∧ U.heap = h0) (fun _ _ _ _ _ => True) (fun _ U o U' => ∃ v L, o = .returned v ∧ Q_rm2_2 Z a2_0 h0 n0 v U'.heap L ∧ FrameEnd U o U' L ({ frames := 0, cells := 0, slots := 0, locals := 0 } : Room).cells ({ frames := 0, cells := 0, slots := 0, locals := 0 } : Room).slots) := by
  refine MetFree.of_bodySF (plainFor_of_name pn_2) hisR ?_
  intro p e s m args below meth c s₁ Bd hml0 hP hK
  obtain ⟨rfl, hZ, hh⟩ := hP
  have hx := Bd.exec
  have hby := Bd.bytes
  have hml : c.maxLocals = 1 := hml0
  have hown : s.vm.findClass "java/lang/Enum" = some m.cls := findClass_of_methodNamed Bd.named
  have hnm := (name_of_methodNamed Bd.named Bd.method).1
  have X0 : Stand p l e ({ frames := 0, cells := 0, slots := 0, locals := 0 } : Room) s m #[(.ref a2_0)] below meth c s₁ [] 0 0 := Stand.of_body Bd
  have e0 : s₁.heap = h0 := by rw [← hh, Bd.state]; rfl
  have N0 := Fr.nil n0
  have pre0 : ∀ t, Steps p.tables e below (s₁.setTop (mkF m 0 #[.val (.ref a2_0)] [])) t → Steps p.tables e below (s₁.setTop (entryFrame m #[(.ref a2_0)] 1)) t := fun t k => castTop (ef_rm2_2 m a2_0) k
  obtain ⟨T1, X1, e1, st1⟩ := getF X0 hx hZ hown (host := "") (Or.inl (ow27 hw)) Via.refl e0 F_ordinal_a2_0 (g := (mkF m 1 #[.val (.ref a2_0)] [(.ref a2_0)])) rfl rfl (hb hby d2_1)
  obtain ⟨fs, hr, hrun, hended, hW, hsame⟩ := X1.leave (v := some (.int (1 : Int32))) (fun h => by rw [Bd.returns] at h; cases h)
  refine ⟨_, _, pre0 _ ?_, hrun, hended, _, _, rfl, ?_, ⟨_, rfl⟩, hW, hsame.mono (by decide) (by decide)⟩
  · show Steps p.tables e below (s₁.setTop (mkF m 0 #[.val (.ref a2_0)] [])) _
    refine XS.aloadN X0.here hx rfl (hb hby d2_0) rfl rfl ?_
    show Steps p.tables e below (s₁.setTop (mkF m 1 #[.val (.ref a2_0)] [(.ref a2_0)])) _
    refine st1 _ ?_
    show Steps p.tables e below (T1.setTop (mkF m 4 #[.val (.ref a2_0)] [(.int (1 : Int32))])) _
    exact retI X1 hx Bd.returns (hb hby d2_4) hr
  · show Q_rm2_2 Z a2_0 h0 n0 _ T1.heap _
    rw [e1]
    exact ⟨rfl, N0, rfl⟩
theorem ef_rm1_2 (m : MethodId) (y0 : Addr) : entryFrame m #[(.ref y0)] 1 = mkF m 0 #[.val (.ref y0)] [] := by first | (simp [entryFrame, mkF, argsToLocals, Value.category]; done) | rfl
def Q_rm1_2 (Z : State) (a1_0 : Addr) (h0 : Heap) (n0 : Nat) (v : Option Value) (h : Heap) (L : List Loc) : Prop := v = some (.int (0 : Int32)) ∧ Fr n0 L ∧ h = h0
set_option maxRecDepth 65536 in
set_option maxHeartbeats 40000000 in
theorem rm1_2 (l : Launch) (Z : State) (a0 : Array Value) (hw : ∀ d ∈ tables_1, d.before a0 Z = true) (ws : List Jvm.Cond) (a1_0 : Addr) (h0 : Heap) (n0 : Nat) (Z0 : n0 ≤ h0.size) (E_a1_0 : Exa Z h0 a1_0 "com/example/holdback/holdback/model/EventKind") (F_ordinal_a1_0 : Fld Z h0 a1_0 "java/lang/Enum" "ordinal" "I" (.int (1 : Int32))) :
    MetFree l (⟨"com/example/holdback/holdback/model/EventKind", "takesBack", "()Z"⟩ : MethodName) (head1 (Jvm.Cond.code (⟨"com/example/holdback/holdback/model/EventKind", "takesBack", "()Z"⟩ : MethodName) prog_17_method_5_code 1 (some .boolean) :: ws) ({ frames := 1, cells := 0, slots := 0, locals := 12 } : Room)) (fun a U => a = #[(.ref a1_0)] ∧ Z.Warmed39 U.vm ∧ U.heap = h0) (fun _ _ _ _ _ => True) (fun _ U o U' => ∃ v L, o = .returned v ∧ Q_rm1_2 Z a1_0 h0 n0 v U'.heap L ∧ FrameEnd U o U' L ({ frames := 1, cells := 0, slots := 0, locals := 12 } : Room).cells ({ frames := 1, cells := 0, slots := 0, locals := 12 } : Room).slots) := by
  refine MetFree.of_bodySF (plainFor_of_name pn_1) hisR ?_
  intro p e s m args below meth c s₁ Bd hml0 hP hK
  obtain ⟨rfl, hZ, hh⟩ := hP
  have hx := Bd.exec
  have hby := Bd.bytes
  have hml : c.maxLocals = 1 := hml0
  have hown : s.vm.findClass "com/example/holdback/holdback/model/EventKind" = some m.cls := findClass_of_methodNamed Bd.named
  have hnm := (name_of_methodNamed Bd.named Bd.method).1
  have X0 : Stand p l e ({ frames := 1, cells := 0, slots := 0, locals := 12 } : Room) s m #[(.ref a1_0)] below meth c s₁ [] 0 0 := Stand.of_body Bd
  have e0 : s₁.heap = h0 := by rw [← hh, Bd.state]; rfl
  have N0 := Fr.nil n0
  have pre0 : ∀ t, Steps p.tables e below (s₁.setTop (mkF m 0 #[.val (.ref a1_0)] [])) t → Steps p.tables e below (s₁.setTop (entryFrame m #[(.ref a1_0)] 1)) t := fun t k => castTop (ef_rm1_2 m a1_0) k
  obtain ⟨cq1, kq1, q1a, q1b, q1c⟩ := isOf hZ e0 E_a1_0
  obtain ⟨_, _, ⟨T1, L1, k1, n1⟩, -, X1, ⟨Lc1, hQ1, l1, y1, z1⟩, st1⟩ := X0.virtualBackUp hx (C := "com/example/holdback/holdback/model/EventKind") (owner := "java/lang/Enum") (x := (⟨"com/example/holdback/holdback/model/EventKind", "ordinal", "()I"⟩ : MethodName)) (y := (⟨"java/lang/Enum", "ordinal", "()I"⟩ : MethodName)) hown (mvT hZ (ow20 hw)) (mvT hZ (ow21 hw)) (mvT hZ (ow22 hw)) (by decide) (mvT hZ (ow24 hw)) (mvT hZ (ow23 hw)) (backOf (W := 0) (rm2_2 l Z a0 hw [] a1_0 h0 n0 Z0 F_ordinal_a1_0) hZ (ow26 hw) (ow25 hw) (by decide) (by decide)) q1a q1c (g := (mkF m 1 #[.val (.ref a1_0)] [(.ref a1_0)])) rfl (by rw [hml]; rfl) (Steps.refl _) (argsL := []) (rest := []) (lenOf pd___I rfl) rfl (by show 2 * 0 + _ ≤ _; exact Nat.le_of_eq rfl) (hb hby d1_1) (fun _ _ => ⟨rfl, e0, (by decide : 0 + 0 ≤ _), (by decide : 0 + 0 ≤ _)⟩)
  dsimp only [Pt.U, Pt.locs, Pt.cells, Pt.slots] at X1 l1 y1 z1 st1 hQ1
  subst l1 y1 z1
  obtain ⟨rfl, Nq1, e1⟩ := hQ1
  have N1 := Fr.app N0 Nq1
  obtain ⟨fs, hr, hrun, hended, hW, hsame⟩ := X1.leave (v := some (.int (0 : Int32))) (fun h => by rw [Bd.returns] at h; cases h)
  refine ⟨_, _, pre0 _ ?_, hrun, hended, _, _, rfl, ?_, ⟨_, rfl⟩, hW, hsame.mono (by decide) (by decide)⟩
  · show Steps p.tables e below (s₁.setTop (mkF m 0 #[.val (.ref a1_0)] [])) _
    refine XS.aloadN X0.here hx rfl (hb hby d1_0) rfl rfl ?_
    show Steps p.tables e below (s₁.setTop (mkF m 1 #[.val (.ref a1_0)] [(.ref a1_0)])) _
    refine st1.trans ?_
    show Steps p.tables e below (T1.setTop (mkF m 4 #[.val (.ref a1_0)] [(.int (1 : Int32))])) _
    refine XS.tswIn X1.here hx rfl (pc0 := 4) (pc' := 50) rfl (hb hby d1_4) rfl (by decide) (o := 46) rfl (by decide) (by decide) ?_
    show Steps p.tables e below (T1.setTop (mkF m 50 #[.val (.ref a1_0)] [])) _
    refine XS.iconst X1.here hx rfl (hb hby d1_50) ?_
    show Steps p.tables e below (T1.setTop (mkF m 51 #[.val (.ref a1_0)] [(.int (0 : Int32))])) _
    refine XS.goto X1.here hx rfl (pc0 := 51) (pc' := 55) rfl (hb hby d1_51) (by decide) (by decide) ?_
    show Steps p.tables e below (T1.setTop (mkF m 55 #[.val (.ref a1_0)] [(.int (0 : Int32))])) _
    exact retN X1 hx (t := .boolean) Bd.returns (by simp) (hb hby d1_55) hr
  · show Q_rm1_2 Z a1_0 h0 n0 _ T1.heap _
    rw [e1]
    exact ⟨rfl, N1, rfl⟩
theorem ef_rm2_3 (m : MethodId) (y0 : Addr) : entryFrame m #[(.ref y0)] 1 = mkF m 0 #[.val (.ref y0)] [] := by first | (simp [entryFrame, mkF, argsToLocals, Value.category]; done) | rfl
def Q_rm2_3 (Z : State) (a2_0 : Addr) (h0 : Heap) (n0 : Nat) (v : Option Value) (h : Heap) (L : List Loc) : Prop := v = some (.int (2 : Int32)) ∧ Fr n0 L ∧ h = h0
set_option maxRecDepth 65536 in
set_option maxHeartbeats 40000000 in
theorem rm2_3 (l : Launch) (Z : State) (a0 : Array Value) (hw : ∀ d ∈ tables_1, d.before a0 Z = true) (ws : List Jvm.Cond) (a2_0 : Addr) (h0 : Heap) (n0 : Nat) (Z0 : n0 ≤ h0.size) (F_ordinal_a2_0 : Fld Z h0 a2_0 "java/lang/Enum" "ordinal" "I" (.int (2 : Int32))) :
    MetFree l (⟨"java/lang/Enum", "ordinal", "()I"⟩ : MethodName) (head1 (Jvm.Cond.code (⟨"java/lang/Enum", "ordinal", "()I"⟩ : MethodName) jdk_37_method_2_code 1 (some .int) :: ws) ({ frames := 0, cells := 0, slots := 0, locals := 0 } : Room)) (fun a U => a = #[(.ref a2_0)] ∧ Z.Warmed39 U.vm ∧ U.heap = h0) (fun _ _ _ _ _ => True) (fun _ U o U' => ∃ v L, o = .returned v ∧ Q_rm2_3 Z a2_0 h0 n0 v U'.heap L ∧ FrameEnd U o U' L ({ frames := 0, cells := 0, slots := 0, locals := 0 } : Room).cells ({ frames := 0, cells := 0, slots := 0, locals := 0 } : Room).slots) := by
  refine MetFree.of_bodySF (plainFor_of_name pn_2) hisR ?_
  intro p e s m args below meth c s₁ Bd hml0 hP hK
  obtain ⟨rfl, hZ, hh⟩ := hP
  have hx := Bd.exec
  have hby := Bd.bytes
  have hml : c.maxLocals = 1 := hml0
  have hown : s.vm.findClass "java/lang/Enum" = some m.cls := findClass_of_methodNamed Bd.named
  have hnm := (name_of_methodNamed Bd.named Bd.method).1
  have X0 : Stand p l e ({ frames := 0, cells := 0, slots := 0, locals := 0 } : Room) s m #[(.ref a2_0)] below meth c s₁ [] 0 0 := Stand.of_body Bd
  have e0 : s₁.heap = h0 := by rw [← hh, Bd.state]; rfl
  have N0 := Fr.nil n0
  have pre0 : ∀ t, Steps p.tables e below (s₁.setTop (mkF m 0 #[.val (.ref a2_0)] [])) t → Steps p.tables e below (s₁.setTop (entryFrame m #[(.ref a2_0)] 1)) t := fun t k => castTop (ef_rm2_3 m a2_0) k
  obtain ⟨T1, X1, e1, st1⟩ := getF X0 hx hZ hown (host := "") (Or.inl (ow27 hw)) Via.refl e0 F_ordinal_a2_0 (g := (mkF m 1 #[.val (.ref a2_0)] [(.ref a2_0)])) rfl rfl (hb hby d2_1)
  obtain ⟨fs, hr, hrun, hended, hW, hsame⟩ := X1.leave (v := some (.int (2 : Int32))) (fun h => by rw [Bd.returns] at h; cases h)
  refine ⟨_, _, pre0 _ ?_, hrun, hended, _, _, rfl, ?_, ⟨_, rfl⟩, hW, hsame.mono (by decide) (by decide)⟩
  · show Steps p.tables e below (s₁.setTop (mkF m 0 #[.val (.ref a2_0)] [])) _
    refine XS.aloadN X0.here hx rfl (hb hby d2_0) rfl rfl ?_
    show Steps p.tables e below (s₁.setTop (mkF m 1 #[.val (.ref a2_0)] [(.ref a2_0)])) _
    refine st1 _ ?_
    show Steps p.tables e below (T1.setTop (mkF m 4 #[.val (.ref a2_0)] [(.int (2 : Int32))])) _
    exact retI X1 hx Bd.returns (hb hby d2_4) hr
  · show Q_rm2_3 Z a2_0 h0 n0 _ T1.heap _
    rw [e1]
    exact ⟨rfl, N0, rfl⟩
theorem ef_rm1_3 (m : MethodId) (y0 : Addr) : entryFrame m #[(.ref y0)] 1 = mkF m 0 #[.val (.ref y0)] [] := by first | (simp [entryFrame, mkF, argsToLocals, Value.category]; done) | rfl
def Q_rm1_3 (Z : State) (a1_0 : Addr) (h0 : Heap) (n0 : Nat) (v : Option Value) (h : Heap) (L : List Loc) : Prop := v = some (.int (0 : Int32)) ∧ Fr n0 L ∧ h = h0
set_option maxRecDepth 65536 in
set_option maxHeartbeats 40000000 in
theorem rm1_3 (l : Launch) (Z : State) (a0 : Array Value) (hw : ∀ d ∈ tables_1, d.before a0 Z = true) (ws : List Jvm.Cond) (a1_0 : Addr) (h0 : Heap) (n0 : Nat) (Z0 : n0 ≤ h0.size) (E_a1_0 : Exa Z h0 a1_0 "com/example/holdback/holdback/model/EventKind") (F_ordinal_a1_0 : Fld Z h0 a1_0 "java/lang/Enum" "ordinal" "I" (.int (2 : Int32))) :
    MetFree l (⟨"com/example/holdback/holdback/model/EventKind", "takesBack", "()Z"⟩ : MethodName) (head1 (Jvm.Cond.code (⟨"com/example/holdback/holdback/model/EventKind", "takesBack", "()Z"⟩ : MethodName) prog_17_method_5_code 1 (some .boolean) :: ws) ({ frames := 1, cells := 0, slots := 0, locals := 12 } : Room)) (fun a U => a = #[(.ref a1_0)] ∧ Z.Warmed39 U.vm ∧ U.heap = h0) (fun _ _ _ _ _ => True) (fun _ U o U' => ∃ v L, o = .returned v ∧ Q_rm1_3 Z a1_0 h0 n0 v U'.heap L ∧ FrameEnd U o U' L ({ frames := 1, cells := 0, slots := 0, locals := 12 } : Room).cells ({ frames := 1, cells := 0, slots := 0, locals := 12 } : Room).slots) := by
  refine MetFree.of_bodySF (plainFor_of_name pn_1) hisR ?_
  intro p e s m args below meth c s₁ Bd hml0 hP hK
  obtain ⟨rfl, hZ, hh⟩ := hP
  have hx := Bd.exec
  have hby := Bd.bytes
  have hml : c.maxLocals = 1 := hml0
  have hown : s.vm.findClass "com/example/holdback/holdback/model/EventKind" = some m.cls := findClass_of_methodNamed Bd.named
  have hnm := (name_of_methodNamed Bd.named Bd.method).1
  have X0 : Stand p l e ({ frames := 1, cells := 0, slots := 0, locals := 12 } : Room) s m #[(.ref a1_0)] below meth c s₁ [] 0 0 := Stand.of_body Bd
  have e0 : s₁.heap = h0 := by rw [← hh, Bd.state]; rfl
  have N0 := Fr.nil n0
  have pre0 : ∀ t, Steps p.tables e below (s₁.setTop (mkF m 0 #[.val (.ref a1_0)] [])) t → Steps p.tables e below (s₁.setTop (entryFrame m #[(.ref a1_0)] 1)) t := fun t k => castTop (ef_rm1_3 m a1_0) k
  obtain ⟨cq1, kq1, q1a, q1b, q1c⟩ := isOf hZ e0 E_a1_0
  obtain ⟨_, _, ⟨T1, L1, k1, n1⟩, -, X1, ⟨Lc1, hQ1, l1, y1, z1⟩, st1⟩ := X0.virtualBackUp hx (C := "com/example/holdback/holdback/model/EventKind") (owner := "java/lang/Enum") (x := (⟨"com/example/holdback/holdback/model/EventKind", "ordinal", "()I"⟩ : MethodName)) (y := (⟨"java/lang/Enum", "ordinal", "()I"⟩ : MethodName)) hown (mvT hZ (ow20 hw)) (mvT hZ (ow21 hw)) (mvT hZ (ow22 hw)) (by decide) (mvT hZ (ow24 hw)) (mvT hZ (ow23 hw)) (backOf (W := 0) (rm2_3 l Z a0 hw [] a1_0 h0 n0 Z0 F_ordinal_a1_0) hZ (ow26 hw) (ow25 hw) (by decide) (by decide)) q1a q1c (g := (mkF m 1 #[.val (.ref a1_0)] [(.ref a1_0)])) rfl (by rw [hml]; rfl) (Steps.refl _) (argsL := []) (rest := []) (lenOf pd___I rfl) rfl (by show 2 * 0 + _ ≤ _; exact Nat.le_of_eq rfl) (hb hby d1_1) (fun _ _ => ⟨rfl, e0, (by decide : 0 + 0 ≤ _), (by decide : 0 + 0 ≤ _)⟩)
  dsimp only [Pt.U, Pt.locs, Pt.cells, Pt.slots] at X1 l1 y1 z1 st1 hQ1
  subst l1 y1 z1
  obtain ⟨rfl, Nq1, e1⟩ := hQ1
  have N1 := Fr.app N0 Nq1
  obtain ⟨fs, hr, hrun, hended, hW, hsame⟩ := X1.leave (v := some (.int (0 : Int32))) (fun h => by rw [Bd.returns] at h; cases h)
  refine ⟨_, _, pre0 _ ?_, hrun, hended, _, _, rfl, ?_, ⟨_, rfl⟩, hW, hsame.mono (by decide) (by decide)⟩
  · show Steps p.tables e below (s₁.setTop (mkF m 0 #[.val (.ref a1_0)] [])) _
    refine XS.aloadN X0.here hx rfl (hb hby d1_0) rfl rfl ?_
    show Steps p.tables e below (s₁.setTop (mkF m 1 #[.val (.ref a1_0)] [(.ref a1_0)])) _
    refine st1.trans ?_
    show Steps p.tables e below (T1.setTop (mkF m 4 #[.val (.ref a1_0)] [(.int (2 : Int32))])) _
    refine XS.tswIn X1.here hx rfl (pc0 := 4) (pc' := 50) rfl (hb hby d1_4) rfl (by decide) (o := 46) rfl (by decide) (by decide) ?_
    show Steps p.tables e below (T1.setTop (mkF m 50 #[.val (.ref a1_0)] [])) _
    refine XS.iconst X1.here hx rfl (hb hby d1_50) ?_
    show Steps p.tables e below (T1.setTop (mkF m 51 #[.val (.ref a1_0)] [(.int (0 : Int32))])) _
    refine XS.goto X1.here hx rfl (pc0 := 51) (pc' := 55) rfl (hb hby d1_51) (by decide) (by decide) ?_
    show Steps p.tables e below (T1.setTop (mkF m 55 #[.val (.ref a1_0)] [(.int (0 : Int32))])) _
    exact retN X1 hx (t := .boolean) Bd.returns (by simp) (hb hby d1_55) hr
  · show Q_rm1_3 Z a1_0 h0 n0 _ T1.heap _
    rw [e1]
    exact ⟨rfl, N1, rfl⟩
theorem ef_rm2_4 (m : MethodId) (y0 : Addr) : entryFrame m #[(.ref y0)] 1 = mkF m 0 #[.val (.ref y0)] [] := by first | (simp [entryFrame, mkF, argsToLocals, Value.category]; done) | rfl
def Q_rm2_4 (Z : State) (a2_0 : Addr) (h0 : Heap) (n0 : Nat) (v : Option Value) (h : Heap) (L : List Loc) : Prop := v = some (.int (3 : Int32)) ∧ Fr n0 L ∧ h = h0
set_option maxRecDepth 65536 in
set_option maxHeartbeats 40000000 in
theorem rm2_4 (l : Launch) (Z : State) (a0 : Array Value) (hw : ∀ d ∈ tables_1, d.before a0 Z = true) (ws : List Jvm.Cond) (a2_0 : Addr) (h0 : Heap) (n0 : Nat) (Z0 : n0 ≤ h0.size) (F_ordinal_a2_0 : Fld Z h0 a2_0 "java/lang/Enum" "ordinal" "I" (.int (3 : Int32))) :
    MetFree l (⟨"java/lang/Enum", "ordinal", "()I"⟩ : MethodName) (head1 (Jvm.Cond.code (⟨"java/lang/Enum", "ordinal", "()I"⟩ : MethodName) jdk_37_method_2_code 1 (some .int) :: ws) ({ frames := 0, cells := 0, slots := 0, locals := 0 } : Room)) (fun a U => a = #[(.ref a2_0)] ∧ Z.Warmed39 U.vm ∧ U.heap = h0) (fun _ _ _ _ _ => True) (fun _ U o U' => ∃ v L, o = .returned v ∧ Q_rm2_4 Z a2_0 h0 n0 v U'.heap L ∧ FrameEnd U o U' L ({ frames := 0, cells := 0, slots := 0, locals := 0 } : Room).cells ({ frames := 0, cells := 0, slots := 0, locals := 0 } : Room).slots) := by
  refine MetFree.of_bodySF (plainFor_of_name pn_2) hisR ?_
  intro p e s m args below meth c s₁ Bd hml0 hP hK
  obtain ⟨rfl, hZ, hh⟩ := hP
  have hx := Bd.exec
  have hby := Bd.bytes
  have hml : c.maxLocals = 1 := hml0
  have hown : s.vm.findClass "java/lang/Enum" = some m.cls := findClass_of_methodNamed Bd.named
  have hnm := (name_of_methodNamed Bd.named Bd.method).1
  have X0 : Stand p l e ({ frames := 0, cells := 0, slots := 0, locals := 0 } : Room) s m #[(.ref a2_0)] below meth c s₁ [] 0 0 := Stand.of_body Bd
  have e0 : s₁.heap = h0 := by rw [← hh, Bd.state]; rfl
  have N0 := Fr.nil n0
  have pre0 : ∀ t, Steps p.tables e below (s₁.setTop (mkF m 0 #[.val (.ref a2_0)] [])) t → Steps p.tables e below (s₁.setTop (entryFrame m #[(.ref a2_0)] 1)) t := fun t k => castTop (ef_rm2_4 m a2_0) k
  obtain ⟨T1, X1, e1, st1⟩ := getF X0 hx hZ hown (host := "") (Or.inl (ow27 hw)) Via.refl e0 F_ordinal_a2_0 (g := (mkF m 1 #[.val (.ref a2_0)] [(.ref a2_0)])) rfl rfl (hb hby d2_1)
  obtain ⟨fs, hr, hrun, hended, hW, hsame⟩ := X1.leave (v := some (.int (3 : Int32))) (fun h => by rw [Bd.returns] at h; cases h)
  refine ⟨_, _, pre0 _ ?_, hrun, hended, _, _, rfl, ?_, ⟨_, rfl⟩, hW, hsame.mono (by decide) (by decide)⟩
  · show Steps p.tables e below (s₁.setTop (mkF m 0 #[.val (.ref a2_0)] [])) _
    refine XS.aloadN X0.here hx rfl (hb hby d2_0) rfl rfl ?_
    show Steps p.tables e below (s₁.setTop (mkF m 1 #[.val (.ref a2_0)] [(.ref a2_0)])) _
    refine st1 _ ?_
    show Steps p.tables e below (T1.setTop (mkF m 4 #[.val (.ref a2_0)] [(.int (3 : Int32))])) _
    exact retI X1 hx Bd.returns (hb hby d2_4) hr
  · show Q_rm2_4 Z a2_0 h0 n0 _ T1.heap _
    rw [e1]
    exact ⟨rfl, N0, rfl⟩
theorem d1_54 : decode prog_17_method_5_code 54 = .ok (.iconst 1, 1) := by decide +kernel
theorem ef_rm1_4 (m : MethodId) (y0 : Addr) : entryFrame m #[(.ref y0)] 1 = mkF m 0 #[.val (.ref y0)] [] := by first | (simp [entryFrame, mkF, argsToLocals, Value.category]; done) | rfl
def Q_rm1_4 (Z : State) (a1_0 : Addr) (h0 : Heap) (n0 : Nat) (v : Option Value) (h : Heap) (L : List Loc) : Prop := v = some (.int (1 : Int32)) ∧ Fr n0 L ∧ h = h0
set_option maxRecDepth 65536 in
set_option maxHeartbeats 40000000 in
theorem rm1_4 (l : Launch) (Z : State) (a0 : Array Value) (hw : ∀ d ∈ tables_1, d.before a0 Z = true) (ws : List Jvm.Cond) (a1_0 : Addr) (h0 : Heap) (n0 : Nat) (Z0 : n0 ≤ h0.size) (E_a1_0 : Exa Z h0 a1_0 "com/example/holdback/holdback/model/EventKind") (F_ordinal_a1_0 : Fld Z h0 a1_0 "java/lang/Enum" "ordinal" "I" (.int (3 : Int32))) :
    MetFree l (⟨"com/example/holdback/holdback/model/EventKind", "takesBack", "()Z"⟩ : MethodName) (head1 (Jvm.Cond.code (⟨"com/example/holdback/holdback/model/EventKind", "takesBack", "()Z"⟩ : MethodName) prog_17_method_5_code 1 (some .boolean) :: ws) ({ frames := 1, cells := 0, slots := 0, locals := 12 } : Room)) (fun a U => a = #[(.ref a1_0)] ∧ Z.Warmed39 U.vm ∧ U.heap = h0) (fun _ _ _ _ _ => True) (fun _ U o U' => ∃ v L, o = .returned v ∧ Q_rm1_4 Z a1_0 h0 n0 v U'.heap L ∧ FrameEnd U o U' L ({ frames := 1, cells := 0, slots := 0, locals := 12 } : Room).cells ({ frames := 1, cells := 0, slots := 0, locals := 12 } : Room).slots) := by
  refine MetFree.of_bodySF (plainFor_of_name pn_1) hisR ?_
  intro p e s m args below meth c s₁ Bd hml0 hP hK
  obtain ⟨rfl, hZ, hh⟩ := hP
  have hx := Bd.exec
  have hby := Bd.bytes
  have hml : c.maxLocals = 1 := hml0
  have hown : s.vm.findClass "com/example/holdback/holdback/model/EventKind" = some m.cls := findClass_of_methodNamed Bd.named
  have hnm := (name_of_methodNamed Bd.named Bd.method).1
  have X0 : Stand p l e ({ frames := 1, cells := 0, slots := 0, locals := 12 } : Room) s m #[(.ref a1_0)] below meth c s₁ [] 0 0 := Stand.of_body Bd
  have e0 : s₁.heap = h0 := by rw [← hh, Bd.state]; rfl
  have N0 := Fr.nil n0
  have pre0 : ∀ t, Steps p.tables e below (s₁.setTop (mkF m 0 #[.val (.ref a1_0)] [])) t → Steps p.tables e below (s₁.setTop (entryFrame m #[(.ref a1_0)] 1)) t := fun t k => castTop (ef_rm1_4 m a1_0) k
  obtain ⟨cq1, kq1, q1a, q1b, q1c⟩ := isOf hZ e0 E_a1_0
  obtain ⟨_, _, ⟨T1, L1, k1, n1⟩, -, X1, ⟨Lc1, hQ1, l1, y1, z1⟩, st1⟩ := X0.virtualBackUp hx (C := "com/example/holdback/holdback/model/EventKind") (owner := "java/lang/Enum") (x := (⟨"com/example/holdback/holdback/model/EventKind", "ordinal", "()I"⟩ : MethodName)) (y := (⟨"java/lang/Enum", "ordinal", "()I"⟩ : MethodName)) hown (mvT hZ (ow20 hw)) (mvT hZ (ow21 hw)) (mvT hZ (ow22 hw)) (by decide) (mvT hZ (ow24 hw)) (mvT hZ (ow23 hw)) (backOf (W := 0) (rm2_4 l Z a0 hw [] a1_0 h0 n0 Z0 F_ordinal_a1_0) hZ (ow26 hw) (ow25 hw) (by decide) (by decide)) q1a q1c (g := (mkF m 1 #[.val (.ref a1_0)] [(.ref a1_0)])) rfl (by rw [hml]; rfl) (Steps.refl _) (argsL := []) (rest := []) (lenOf pd___I rfl) rfl (by show 2 * 0 + _ ≤ _; exact Nat.le_of_eq rfl) (hb hby d1_1) (fun _ _ => ⟨rfl, e0, (by decide : 0 + 0 ≤ _), (by decide : 0 + 0 ≤ _)⟩)
  dsimp only [Pt.U, Pt.locs, Pt.cells, Pt.slots] at X1 l1 y1 z1 st1 hQ1
  subst l1 y1 z1
  obtain ⟨rfl, Nq1, e1⟩ := hQ1
  have N1 := Fr.app N0 Nq1
  obtain ⟨fs, hr, hrun, hended, hW, hsame⟩ := X1.leave (v := some (.int (1 : Int32))) (fun h => by rw [Bd.returns] at h; cases h)
  refine ⟨_, _, pre0 _ ?_, hrun, hended, _, _, rfl, ?_, ⟨_, rfl⟩, hW, hsame.mono (by decide) (by decide)⟩
  · show Steps p.tables e below (s₁.setTop (mkF m 0 #[.val (.ref a1_0)] [])) _
    refine XS.aloadN X0.here hx rfl (hb hby d1_0) rfl rfl ?_
    show Steps p.tables e below (s₁.setTop (mkF m 1 #[.val (.ref a1_0)] [(.ref a1_0)])) _
    refine st1.trans ?_
    show Steps p.tables e below (T1.setTop (mkF m 4 #[.val (.ref a1_0)] [(.int (3 : Int32))])) _
    refine XS.tswIn X1.here hx rfl (pc0 := 4) (pc' := 54) rfl (hb hby d1_4) rfl (by decide) (o := 50) rfl (by decide) (by decide) ?_
    show Steps p.tables e below (T1.setTop (mkF m 54 #[.val (.ref a1_0)] [])) _
    refine XS.iconst X1.here hx rfl (hb hby d1_54) ?_
    show Steps p.tables e below (T1.setTop (mkF m 55 #[.val (.ref a1_0)] [(.int (1 : Int32))])) _
    exact retN X1 hx (t := .boolean) Bd.returns (by simp) (hb hby d1_55) hr
  · show Q_rm1_4 Z a1_0 h0 n0 _ T1.heap _
    rw [e1]
    exact ⟨rfl, N1, rfl⟩
theorem ef_rm2_5 (m : MethodId) (y0 : Addr) : entryFrame m #[(.ref y0)] 1 = mkF m 0 #[.val (.ref y0)] [] := by first | (simp [entryFrame, mkF, argsToLocals, Value.category]; done) | rfl
def Q_rm2_5 (Z : State) (a2_0 : Addr) (h0 : Heap) (n0 : Nat) (v : Option Value) (h : Heap) (L : List Loc) : Prop := v = some (.int (4 : Int32)) ∧ Fr n0 L ∧ h = h0
set_option maxRecDepth 65536 in
set_option maxHeartbeats 40000000 in
theorem rm2_5 (l : Launch) (Z : State) (a0 : Array Value) (hw : ∀ d ∈ tables_1, d.before a0 Z = true) (ws : List Jvm.Cond) (a2_0 : Addr) (h0 : Heap) (n0 : Nat) (Z0 : n0 ≤ h0.size) (F_ordinal_a2_0 : Fld Z h0 a2_0 "java/lang/Enum" "ordinal" "I" (.int (4 : Int32))) :
    MetFree l (⟨"java/lang/Enum", "ordinal", "()I"⟩ : MethodName) (head1 (Jvm.Cond.code (⟨"java/lang/Enum", "ordinal", "()I"⟩ : MethodName) jdk_37_method_2_code 1 (some .int) :: ws) ({ frames := 0, cells := 0, slots := 0, locals := 0 } : Room)) (fun a U => a = #[(.ref a2_0)] ∧ Z.Warmed39 U.vm ∧ U.heap = h0) (fun _ _ _ _ _ => True) (fun _ U o U' => ∃ v L, o = .returned v ∧ Q_rm2_5 Z a2_0 h0 n0 v U'.heap L ∧ FrameEnd U o U' L ({ frames := 0, cells := 0, slots := 0, locals := 0 } : Room).cells ({ frames := 0, cells := 0, slots := 0, locals := 0 } : Room).slots) := by
  refine MetFree.of_bodySF (plainFor_of_name pn_2) hisR ?_
  intro p e s m args below meth c s₁ Bd hml0 hP hK
  obtain ⟨rfl, hZ, hh⟩ := hP
  have hx := Bd.exec
  have hby := Bd.bytes
  have hml : c.maxLocals = 1 := hml0
  have hown : s.vm.findClass "java/lang/Enum" = some m.cls := findClass_of_methodNamed Bd.named
  have hnm := (name_of_methodNamed Bd.named Bd.method).1
  have X0 : Stand p l e ({ frames := 0, cells := 0, slots := 0, locals := 0 } : Room) s m #[(.ref a2_0)] below meth c s₁ [] 0 0 := Stand.of_body Bd
  have e0 : s₁.heap = h0 := by rw [← hh, Bd.state]; rfl
  have N0 := Fr.nil n0
  have pre0 : ∀ t, Steps p.tables e below (s₁.setTop (mkF m 0 #[.val (.ref a2_0)] [])) t → Steps p.tables e below (s₁.setTop (entryFrame m #[(.ref a2_0)] 1)) t := fun t k => castTop (ef_rm2_5 m a2_0) k
  obtain ⟨T1, X1, e1, st1⟩ := getF X0 hx hZ hown (host := "") (Or.inl (ow27 hw)) Via.refl e0 F_ordinal_a2_0 (g := (mkF m 1 #[.val (.ref a2_0)] [(.ref a2_0)])) rfl rfl (hb hby d2_1)
  obtain ⟨fs, hr, hrun, hended, hW, hsame⟩ := X1.leave (v := some (.int (4 : Int32))) (fun h => by rw [Bd.returns] at h; cases h)
  refine ⟨_, _, pre0 _ ?_, hrun, hended, _, _, rfl, ?_, ⟨_, rfl⟩, hW, hsame.mono (by decide) (by decide)⟩
  · show Steps p.tables e below (s₁.setTop (mkF m 0 #[.val (.ref a2_0)] [])) _
    refine XS.aloadN X0.here hx rfl (hb hby d2_0) rfl rfl ?_
    show Steps p.tables e below (s₁.setTop (mkF m 1 #[.val (.ref a2_0)] [(.ref a2_0)])) _
    refine st1 _ ?_
    show Steps p.tables e below (T1.setTop (mkF m 4 #[.val (.ref a2_0)] [(.int (4 : Int32))])) _
    exact retI X1 hx Bd.returns (hb hby d2_4) hr
  · show Q_rm2_5 Z a2_0 h0 n0 _ T1.heap _
    rw [e1]
    exact ⟨rfl, N0, rfl⟩
theorem ef_rm1_5 (m : MethodId) (y0 : Addr) : entryFrame m #[(.ref y0)] 1 = mkF m 0 #[.val (.ref y0)] [] := by first | (simp [entryFrame, mkF, argsToLocals, Value.category]; done) | rfl
def Q_rm1_5 (Z : State) (a1_0 : Addr) (h0 : Heap) (n0 : Nat) (v : Option Value) (h : Heap) (L : List Loc) : Prop := v = some (.int (1 : Int32)) ∧ Fr n0 L ∧ h = h0
set_option maxRecDepth 65536 in
set_option maxHeartbeats 40000000 in
theorem rm1_5 (l : Launch) (Z : State) (a0 : Array Value) (hw : ∀ d ∈ tables_1, d.before a0 Z = true) (ws : List Jvm.Cond) (a1_0 : Addr) (h0 : Heap) (n0 : Nat) (Z0 : n0 ≤ h0.size) (E_a1_0 : Exa Z h0 a1_0 "com/example/holdback/holdback/model/EventKind") (F_ordinal_a1_0 : Fld Z h0 a1_0 "java/lang/Enum" "ordinal" "I" (.int (4 : Int32))) :
    MetFree l (⟨"com/example/holdback/holdback/model/EventKind", "takesBack", "()Z"⟩ : MethodName) (head1 (Jvm.Cond.code (⟨"com/example/holdback/holdback/model/EventKind", "takesBack", "()Z"⟩ : MethodName) prog_17_method_5_code 1 (some .boolean) :: ws) ({ frames := 1, cells := 0, slots := 0, locals := 12 } : Room)) (fun a U => a = #[(.ref a1_0)] ∧ Z.Warmed39 U.vm ∧ U.heap = h0) (fun _ _ _ _ _ => True) (fun _ U o U' => ∃ v L, o = .returned v ∧ Q_rm1_5 Z a1_0 h0 n0 v U'.heap L ∧ FrameEnd U o U' L ({ frames := 1, cells := 0, slots := 0, locals := 12 } : Room).cells ({ frames := 1, cells := 0, slots := 0, locals := 12 } : Room).slots) := by
  refine MetFree.of_bodySF (plainFor_of_name pn_1) hisR ?_
  intro p e s m args below meth c s₁ Bd hml0 hP hK
  obtain ⟨rfl, hZ, hh⟩ := hP
  have hx := Bd.exec
  have hby := Bd.bytes
  have hml : c.maxLocals = 1 := hml0
  have hown : s.vm.findClass "com/example/holdback/holdback/model/EventKind" = some m.cls := findClass_of_methodNamed Bd.named
  have hnm := (name_of_methodNamed Bd.named Bd.method).1
  have X0 : Stand p l e ({ frames := 1, cells := 0, slots := 0, locals := 12 } : Room) s m #[(.ref a1_0)] below meth c s₁ [] 0 0 := Stand.of_body Bd
  have e0 : s₁.heap = h0 := by rw [← hh, Bd.state]; rfl
  have N0 := Fr.nil n0
  have pre0 : ∀ t, Steps p.tables e below (s₁.setTop (mkF m 0 #[.val (.ref a1_0)] [])) t → Steps p.tables e below (s₁.setTop (entryFrame m #[(.ref a1_0)] 1)) t := fun t k => castTop (ef_rm1_5 m a1_0) k
  obtain ⟨cq1, kq1, q1a, q1b, q1c⟩ := isOf hZ e0 E_a1_0
  obtain ⟨_, _, ⟨T1, L1, k1, n1⟩, -, X1, ⟨Lc1, hQ1, l1, y1, z1⟩, st1⟩ := X0.virtualBackUp hx (C := "com/example/holdback/holdback/model/EventKind") (owner := "java/lang/Enum") (x := (⟨"com/example/holdback/holdback/model/EventKind", "ordinal", "()I"⟩ : MethodName)) (y := (⟨"java/lang/Enum", "ordinal", "()I"⟩ : MethodName)) hown (mvT hZ (ow20 hw)) (mvT hZ (ow21 hw)) (mvT hZ (ow22 hw)) (by decide) (mvT hZ (ow24 hw)) (mvT hZ (ow23 hw)) (backOf (W := 0) (rm2_5 l Z a0 hw [] a1_0 h0 n0 Z0 F_ordinal_a1_0) hZ (ow26 hw) (ow25 hw) (by decide) (by decide)) q1a q1c (g := (mkF m 1 #[.val (.ref a1_0)] [(.ref a1_0)])) rfl (by rw [hml]; rfl) (Steps.refl _) (argsL := []) (rest := []) (lenOf pd___I rfl) rfl (by show 2 * 0 + _ ≤ _; exact Nat.le_of_eq rfl) (hb hby d1_1) (fun _ _ => ⟨rfl, e0, (by decide : 0 + 0 ≤ _), (by decide : 0 + 0 ≤ _)⟩)
  dsimp only [Pt.U, Pt.locs, Pt.cells, Pt.slots] at X1 l1 y1 z1 st1 hQ1
  subst l1 y1 z1
  obtain ⟨rfl, Nq1, e1⟩ := hQ1
  have N1 := Fr.app N0 Nq1
  obtain ⟨fs, hr, hrun, hended, hW, hsame⟩ := X1.leave (v := some (.int (1 : Int32))) (fun h => by rw [Bd.returns] at h; cases h)
  refine ⟨_, _, pre0 _ ?_, hrun, hended, _, _, rfl, ?_, ⟨_, rfl⟩, hW, hsame.mono (by decide) (by decide)⟩
  · show Steps p.tables e below (s₁.setTop (mkF m 0 #[.val (.ref a1_0)] [])) _
    refine XS.aloadN X0.here hx rfl (hb hby d1_0) rfl rfl ?_
    show Steps p.tables e below (s₁.setTop (mkF m 1 #[.val (.ref a1_0)] [(.ref a1_0)])) _
    refine st1.trans ?_
    show Steps p.tables e below (T1.setTop (mkF m 4 #[.val (.ref a1_0)] [(.int (4 : Int32))])) _
    refine XS.tswIn X1.here hx rfl (pc0 := 4) (pc' := 54) rfl (hb hby d1_4) rfl (by decide) (o := 50) rfl (by decide) (by decide) ?_
    show Steps p.tables e below (T1.setTop (mkF m 54 #[.val (.ref a1_0)] [])) _
    refine XS.iconst X1.here hx rfl (hb hby d1_54) ?_
    show Steps p.tables e below (T1.setTop (mkF m 55 #[.val (.ref a1_0)] [(.int (1 : Int32))])) _
    exact retN X1 hx (t := .boolean) Bd.returns (by simp) (hb hby d1_55) hr
  · show Q_rm1_5 Z a1_0 h0 n0 _ T1.heap _
    rw [e1]
    exact ⟨rfl, N1, rfl⟩
theorem pn_0 : plainName "com/example/holdback/holdback/model/EventKindTakesBackPinLaw" = true := by first | (simp [plainName, overriddenIn]; done) | decide +kernel
theorem ef_rm0 (m : MethodId) (y0 : Int32) : entryFrame m #[(.int y0)] maxLocals = mkF m 0 #[.val (.int y0), .unset, .unset, .unset] [] := by first | (simp [entryFrame, mkF, argsToLocals, Value.category, maxLocals]; done) | rfl
def Q_rm0 (Z : State) (p0_0 : Int32) (s_SALE : Addr) (s_BALANCE : Addr) (s_HOLD : Addr) (s_REFUND : Addr) (s_DISPUTE : Addr) (h0 : Heap) (n0 : Nat) (v : Option Value) (h : Heap) (L : List Loc) : Prop := v = some (.int (1 : Int32)) ∧ Fr n0 L
set_option maxRecDepth 65536 in
set_option maxHeartbeats 40000000 in
theorem rm0 (l : Launch) (Z : State) (a0 : Array Value) (hw : ∀ d ∈ tables_1, d.before a0 Z = true) (ws : List Jvm.Cond) (p0_0 : Int32) (s_SALE : Addr) (s_BALANCE : Addr) (s_HOLD : Addr) (s_REFUND : Addr) (s_DISPUTE : Addr) (h0 : Heap) (n0 : Nat) (Z0 : n0 ≤ h0.size) (S_SALE : Sta Z h0 "com/example/holdback/holdback/model/EventKind" "SALE" "Lcom/example/holdback/holdback/model/EventKind;" (.ref s_SALE)) (E_s_SALE : Exa Z h0 s_SALE "com/example/holdback/holdback/model/EventKind") (F_s_SALE : Fld Z h0 s_SALE "java/lang/Enum" "ordinal" "I" (.int (0 : Int32))) (S_BALANCE : Sta Z h0 "com/example/holdback/holdback/model/EventKind" "BALANCE" "Lcom/example/holdback/holdback/model/EventKind;" (.ref s_BALANCE)) (E_s_BALANCE : Exa Z h0 s_BALANCE "com/example/holdback/holdback/model/EventKind") (F_s_BALANCE : Fld Z h0 s_BALANCE "java/lang/Enum" "ordinal" "I" (.int (1 : Int32))) (S_HOLD : Sta Z h0 "com/example/holdback/holdback/model/EventKind" "HOLD" "Lcom/example/holdback/holdback/model/EventKind;" (.ref s_HOLD)) (E_s_HOLD : Exa Z h0 s_HOLD "com/example/holdback/holdback/model/EventKind") (F_s_HOLD : Fld Z h0 s_HOLD "java/lang/Enum" "ordinal" "I" (.int (2 : Int32))) (S_REFUND : Sta Z h0 "com/example/holdback/holdback/model/EventKind" "REFUND" "Lcom/example/holdback/holdback/model/EventKind;" (.ref s_REFUND)) (E_s_REFUND : Exa Z h0 s_REFUND "com/example/holdback/holdback/model/EventKind") (F_s_REFUND : Fld Z h0 s_REFUND "java/lang/Enum" "ordinal" "I" (.int (3 : Int32))) (S_DISPUTE : Sta Z h0 "com/example/holdback/holdback/model/EventKind" "DISPUTE" "Lcom/example/holdback/holdback/model/EventKind;" (.ref s_DISPUTE)) (E_s_DISPUTE : Exa Z h0 s_DISPUTE "com/example/holdback/holdback/model/EventKind") (F_s_DISPUTE : Fld Z h0 s_DISPUTE "java/lang/Enum" "ordinal" "I" (.int (4 : Int32))) :
    MetFree l x (head1 (Jvm.Cond.code x code maxLocals ret :: ws) room_1) (fun a U => a = #[(.int p0_0)] ∧ Z.Warmed39 U.vm ∧ U.heap = h0) (fun _ _ _ _ _ => True) (fun _ U o U' => ∃ v L, o = .returned v ∧ Q_rm0 Z p0_0 s_SALE s_BALANCE s_HOLD s_REFUND s_DISPUTE h0 n0 v U'.heap L ∧ FrameEnd U o U' L 16 128) := by
  refine MetFree.of_bodySF (plainFor_of_name pn_0) hisR ?_
  intro p e s m args below meth c s₁ Bd hml0 hP hK
  obtain ⟨rfl, hZ, hh⟩ := hP
  have hx := Bd.exec
  have hby := Bd.bytes
  have hml : c.maxLocals = 4 := hml0
  have hown : s.vm.findClass "com/example/holdback/holdback/model/EventKindTakesBackPinLaw" = some m.cls := findClass_of_methodNamed Bd.named
  have hnm := (name_of_methodNamed Bd.named Bd.method).1
  have X0 : Stand p l e room_1 s m #[(.int p0_0)] below meth c s₁ [] 0 0 := Stand.of_body Bd
  have e0 : s₁.heap = h0 := by rw [← hh, Bd.state]; rfl
  have N0 := Fr.nil n0
  have pre0 : ∀ t, Steps p.tables e below (s₁.setTop (mkF m 0 #[.val (.int p0_0), .unset, .unset, .unset] [])) t → Steps p.tables e below (s₁.setTop (entryFrame m #[(.int p0_0)] maxLocals)) t := fun t k => castTop (ef_rm0 m p0_0) k
  obtain ⟨x1, hx1⟩ : ∃ z : Int32, z = ((p0_0 &&& (2147483647 : Int32)) % (5 : Int32)) := ⟨_, rfl⟩
  obtain ⟨T2, h2, k2, X2, e2, E2, A2, O2, st2⟩ := newR X0 hx hZ hown (ow1 hw) (ow2 hw) e0 (g := (mkF m 8 #[.val (.int p0_0), .val (.int x1), .unset, .unset] [(.int (5 : Int32))])) rfl (hb hby at_8) rfl (by decide) (cap := 5) (by decide) (by decide) (by decide) (by decide)
  obtain ⟨b2, g2⟩ : ∃ z, z = h0.size := ⟨_, rfl⟩
  rw [← g2] at A2 st2
  have ne_s_SALE_b2 : s_SALE ≠ b2 := Nat.ne_of_lt (Nat.lt_of_lt_of_le E_s_SALE.lt (Nat.le_of_eq g2.symm))
  have ne_s_BALANCE_b2 : s_BALANCE ≠ b2 := Nat.ne_of_lt (Nat.lt_of_lt_of_le E_s_BALANCE.lt (Nat.le_of_eq g2.symm))
  have ne_s_HOLD_b2 : s_HOLD ≠ b2 := Nat.ne_of_lt (Nat.lt_of_lt_of_le E_s_HOLD.lt (Nat.le_of_eq g2.symm))
  have ne_s_REFUND_b2 : s_REFUND ≠ b2 := Nat.ne_of_lt (Nat.lt_of_lt_of_le E_s_REFUND.lt (Nat.le_of_eq g2.symm))
  have ne_s_DISPUTE_b2 : s_DISPUTE ≠ b2 := Nat.ne_of_lt (Nat.lt_of_lt_of_le E_s_DISPUTE.lt (Nat.le_of_eq g2.symm))
  have V_b2 : Arv Z h2 b2 k2 (.object "com/example/holdback/holdback/model/EventKind") (5 : Int32) [.null, .null, .null, .null, .null] .null := (Arv.new A2 (by decide)).pad (pad_rep [] .null 5)
  have g_b2 : n0 ≤ b2 := Nat.le_trans Z0 (Nat.le_of_eq g2.symm)
  have sz_b2 : h0.size ≤ b2 := Nat.le_trans (Nat.le_refl _) (Nat.le_of_eq g2.symm)
  have K2 : Keep h0 h2 [] := (Keep.refl h0 []).ext E2
  have Z2 : n0 ≤ h2.size := Nat.le_trans Z0 K2.1
  have f3 := (S_SALE.ext E2)
  obtain ⟨T4, X4, e4, st4⟩ := getS2 X2 hx hZ hown (host := "") (Or.inl (ow3 hw)) Via.refl e2 f3 (g := (mkF m 13 #[.val (.int p0_0), .val (.int x1), .unset, .unset] [(.int (0 : Int32)), (.ref b2), (.ref b2)])) rfl (hb hby at_13)
  have f5 := (E_s_SALE.ext E2)
  obtain ⟨cl6, Ar6, qk6, Sz6, Nz6, Hh6, Gf6⟩ := V_b2
  obtain ⟨T7, h7, X7, e7, W7, st7⟩ := stR X4 hx hZ e4 Ar6 (j := (0 : Int32)) (inb_of Sz6 ⟨by decide, by decide⟩) rfl (Sto.ofV Ar6 qk6 O2 (Ins.self f5)) (g := (mkF m 16 #[.val (.int p0_0), .val (.int x1), .unset, .unset] [(.ref s_SALE), (.int (0 : Int32)), (.ref b2), (.ref b2)])) rfl rfl (hb hby at_16)
  have V7 : Arv Z h7 b2 k2 (.object "com/example/holdback/holdback/model/EventKind") (5 : Int32) [(.ref s_SALE), .null, .null, .null, .null] .null := Arv.set Ar6 qk6 Sz6 Nz6 Hh6 Gf6 rfl W7 0 rfl (Nat.le_of_ble_eq_true rfl)
  have K7 : Keep h0 h7 [] := K2.wr W7 (Or.inr sz_b2)
  have Z7 : n0 ≤ h7.size := Nat.le_trans Z0 K7.1
  have N7 := Fr.snoc X7 N0 g_b2
  have f8 := ((S_BALANCE.ext E2).wr W7)
  obtain ⟨T9, X9, e9, st9⟩ := getS2 X7 hx hZ hown (host := "") (Or.inl (ow7 hw)) Via.refl e7 f8 (g := (mkF m 19 #[.val (.int p0_0), .val (.int x1), .unset, .unset] [(.int (1 : Int32)), (.ref b2), (.ref b2)])) rfl (hb hby at_19)
  have f10 := ((E_s_BALANCE.ext E2).wr W7)
  obtain ⟨cl11, Ar11, qk11, Sz11, Nz11, Hh11, Gf11⟩ := V7
  obtain ⟨T12, h12, X12, e12, W12, st12⟩ := stR X9 hx hZ e9 Ar11 (j := (1 : Int32)) (inb_of Sz11 ⟨by decide, by decide⟩) rfl (Sto.ofV Ar11 qk11 O2 (Ins.self f10)) (g := (mkF m 22 #[.val (.int p0_0), .val (.int x1), .unset, .unset] [(.ref s_BALANCE), (.int (1 : Int32)), (.ref b2), (.ref b2)])) rfl rfl (hb hby at_22)
  have V12 : Arv Z h12 b2 k2 (.object "com/example/holdback/holdback/model/EventKind") (5 : Int32) [(.ref s_SALE), (.ref s_BALANCE), .null, .null, .null] .null := Arv.set Ar11 qk11 Sz11 Nz11 Hh11 Gf11 rfl W12 1 rfl (Nat.le_of_ble_eq_true rfl)
  have K12 : Keep h0 h12 [] := K7.wr W12 (Or.inr sz_b2)
  have Z12 : n0 ≤ h12.size := Nat.le_trans Z0 K12.1
  have N12 := Fr.snoc X12 N7 g_b2
  have f13 := (((S_HOLD.ext E2).wr W7).wr W12)
  obtain ⟨T14, X14, e14, st14⟩ := getS2 X12 hx hZ hown (host := "") (Or.inl (ow9 hw)) Via.refl e12 f13 (g := (mkF m 25 #[.val (.int p0_0), .val (.int x1), .unset, .unset] [(.int (2 : Int32)), (.ref b2), (.ref b2)])) rfl (hb hby at_25)
  have f15 := (((E_s_HOLD.ext E2).wr W7).wr W12)
  obtain ⟨cl16, Ar16, qk16, Sz16, Nz16, Hh16, Gf16⟩ := V12
  obtain ⟨T17, h17, X17, e17, W17, st17⟩ := stR X14 hx hZ e14 Ar16 (j := (2 : Int32)) (inb_of Sz16 ⟨by decide, by decide⟩) rfl (Sto.ofV Ar16 qk16 O2 (Ins.self f15)) (g := (mkF m 28 #[.val (.int p0_0), .val (.int x1), .unset, .unset] [(.ref s_HOLD), (.int (2 : Int32)), (.ref b2), (.ref b2)])) rfl rfl (hb hby at_28)
  have V17 : Arv Z h17 b2 k2 (.object "com/example/holdback/holdback/model/EventKind") (5 : Int32) [(.ref s_SALE), (.ref s_BALANCE), (.ref s_HOLD), .null, .null] .null := Arv.set Ar16 qk16 Sz16 Nz16 Hh16 Gf16 rfl W17 2 rfl (Nat.le_of_ble_eq_true rfl)
  have K17 : Keep h0 h17 [] := K12.wr W17 (Or.inr sz_b2)
  have Z17 : n0 ≤ h17.size := Nat.le_trans Z0 K17.1
  have N17 := Fr.snoc X17 N12 g_b2
  have f18 := ((((S_REFUND.ext E2).wr W7).wr W12).wr W17)
  obtain ⟨T19, X19, e19, st19⟩ := getS2 X17 hx hZ hown (host := "") (Or.inl (ow11 hw)) Via.refl e17 f18 (g := (mkF m 31 #[.val (.int p0_0), .val (.int x1), .unset, .unset] [(.int (3 : Int32)), (.ref b2), (.ref b2)])) rfl (hb hby at_31)
  have f20 := ((((E_s_REFUND.ext E2).wr W7).wr W12).wr W17)
  obtain ⟨cl21, Ar21, qk21, Sz21, Nz21, Hh21, Gf21⟩ := V17
  obtain ⟨T22, h22, X22, e22, W22, st22⟩ := stR X19 hx hZ e19 Ar21 (j := (3 : Int32)) (inb_of Sz21 ⟨by decide, by decide⟩) rfl (Sto.ofV Ar21 qk21 O2 (Ins.self f20)) (g := (mkF m 34 #[.val (.int p0_0), .val (.int x1), .unset, .unset] [(.ref s_REFUND), (.int (3 : Int32)), (.ref b2), (.ref b2)])) rfl rfl (hb hby at_34)
  have V22 : Arv Z h22 b2 k2 (.object "com/example/holdback/holdback/model/EventKind") (5 : Int32) [(.ref s_SALE), (.ref s_BALANCE), (.ref s_HOLD), (.ref s_REFUND), .null] .null := Arv.set Ar21 qk21 Sz21 Nz21 Hh21 Gf21 rfl W22 3 rfl (Nat.le_of_ble_eq_true rfl)
  have K22 : Keep h0 h22 [] := K17.wr W22 (Or.inr sz_b2)
  have Z22 : n0 ≤ h22.size := Nat.le_trans Z0 K22.1
  have N22 := Fr.snoc X22 N17 g_b2
  have f23 := (((((S_DISPUTE.ext E2).wr W7).wr W12).wr W17).wr W22)
  obtain ⟨T24, X24, e24, st24⟩ := getS2 X22 hx hZ hown (host := "") (Or.inl (ow13 hw)) Via.refl e22 f23 (g := (mkF m 37 #[.val (.int p0_0), .val (.int x1), .unset, .unset] [(.int (4 : Int32)), (.ref b2), (.ref b2)])) rfl (hb hby at_37)
  have f25 := (((((E_s_DISPUTE.ext E2).wr W7).wr W12).wr W17).wr W22)
  obtain ⟨cl26, Ar26, qk26, Sz26, Nz26, Hh26, Gf26⟩ := V22
  obtain ⟨T27, h27, X27, e27, W27, st27⟩ := stR X24 hx hZ e24 Ar26 (j := (4 : Int32)) (inb_of Sz26 ⟨by decide, by decide⟩) rfl (Sto.ofV Ar26 qk26 O2 (Ins.self f25)) (g := (mkF m 40 #[.val (.int p0_0), .val (.int x1), .unset, .unset] [(.ref s_DISPUTE), (.int (4 : Int32)), (.ref b2), (.ref b2)])) rfl rfl (hb hby at_40)
  have V27 : Arv Z h27 b2 k2 (.object "com/example/holdback/holdback/model/EventKind") (5 : Int32) [(.ref s_SALE), (.ref s_BALANCE), (.ref s_HOLD), (.ref s_REFUND), (.ref s_DISPUTE)] .null := Arv.set Ar26 qk26 Sz26 Nz26 Hh26 Gf26 rfl W27 4 rfl (Nat.le_of_ble_eq_true rfl)
  have K27 : Keep h0 h27 [] := K22.wr W27 (Or.inr sz_b2)
  have Z27 : n0 ≤ h27.size := Nat.le_trans Z0 K27.1
  have N27 := Fr.snoc X27 N22 g_b2
  have G28 : ∀ t, Steps p.tables e below (T27.setTop (mkF m 42 #[.val (.int p0_0), .val (.int x1), .val (.ref b2), .unset] [])) t → Steps p.tables e below (s₁.setTop (mkF m 0 #[.val (.int p0_0), .unset, .unset, .unset] [])) t := by
    intro t k
    show Steps p.tables e below (s₁.setTop (mkF m 0 #[.val (.int p0_0), .unset, .unset, .unset] [])) _
    refine XS.iloadN X0.here hx rfl (hb hby at_0) rfl ?_
    show Steps p.tables e below (s₁.setTop (mkF m 1 #[.val (.int p0_0), .unset, .unset, .unset] [(.int p0_0)])) _
    refine X0.ldcInt hx hown (mvT hZ (ow0 hw)) (g := (mkF m 1 #[.val (.int p0_0), .unset, .unset, .unset] [(.int p0_0)])) rfl (hb hby at_1) _ ?_
    show Steps p.tables e below (s₁.setTop (mkF m 3 #[.val (.int p0_0), .unset, .unset, .unset] [(.int (2147483647 : Int32)), (.int p0_0)])) _
    refine XS.iand X0.here hx rfl (hb hby at_3) rfl ?_
    show Steps p.tables e below (s₁.setTop (mkF m 4 #[.val (.int p0_0), .unset, .unset, .unset] [(.int (p0_0 &&& (2147483647 : Int32)))])) _
    refine XS.iconst X0.here hx rfl (hb hby at_4) ?_
    show Steps p.tables e below (s₁.setTop (mkF m 5 #[.val (.int p0_0), .unset, .unset, .unset] [(.int (5 : Int32)), (.int (p0_0 &&& (2147483647 : Int32)))])) _
    refine iremM X0 hx rfl (hb hby at_5) rfl (by decide : ¬ ((5 : Int32) = (0 : Int32))) ?_
    show Steps p.tables e below (s₁.setTop (mkF m 6 #[.val (.int p0_0), .unset, .unset, .unset] [(.int ((p0_0 &&& (2147483647 : Int32)) % (5 : Int32)))])) _
    refine XS.istoreN X0.here hx rfl (hb hby at_6) rfl (l' := #[.val (.int p0_0), .val (.int ((p0_0 &&& (2147483647 : Int32)) % (5 : Int32))), .unset, .unset]) rfl ?_
    show Steps p.tables e below (s₁.setTop (mkF m 7 #[.val (.int p0_0), .val (.int ((p0_0 &&& (2147483647 : Int32)) % (5 : Int32))), .unset, .unset] [])) _
    rw [← hx1]
    show Steps p.tables e below (s₁.setTop (mkF m 7 #[.val (.int p0_0), .val (.int x1), .unset, .unset] [])) _
    refine XS.iconst X0.here hx rfl (hb hby at_7) ?_
    show Steps p.tables e below (s₁.setTop (mkF m 8 #[.val (.int p0_0), .val (.int x1), .unset, .unset] [(.int (5 : Int32))])) _
    refine st2 _ ?_
    show Steps p.tables e below (T2.setTop (mkF m 11 #[.val (.int p0_0), .val (.int x1), .unset, .unset] [(.ref b2)])) _
    refine XS.dup X2.here hx rfl (hb hby at_11) rfl rfl ?_
    show Steps p.tables e below (T2.setTop (mkF m 12 #[.val (.int p0_0), .val (.int x1), .unset, .unset] [(.ref b2), (.ref b2)])) _
    refine XS.iconst X2.here hx rfl (hb hby at_12) ?_
    show Steps p.tables e below (T2.setTop (mkF m 13 #[.val (.int p0_0), .val (.int x1), .unset, .unset] [(.int (0 : Int32)), (.ref b2), (.ref b2)])) _
    refine st4 _ ?_
    show Steps p.tables e below (T4.setTop (mkF m 16 #[.val (.int p0_0), .val (.int x1), .unset, .unset] [(.ref s_SALE), (.int (0 : Int32)), (.ref b2), (.ref b2)])) _
    refine st7 _ ?_
    show Steps p.tables e below (T7.setTop (mkF m 17 #[.val (.int p0_0), .val (.int x1), .unset, .unset] [(.ref b2)])) _
    refine XS.dup X7.here hx rfl (hb hby at_17) rfl rfl ?_
    show Steps p.tables e below (T7.setTop (mkF m 18 #[.val (.int p0_0), .val (.int x1), .unset, .unset] [(.ref b2), (.ref b2)])) _
    refine XS.iconst X7.here hx rfl (hb hby at_18) ?_
    show Steps p.tables e below (T7.setTop (mkF m 19 #[.val (.int p0_0), .val (.int x1), .unset, .unset] [(.int (1 : Int32)), (.ref b2), (.ref b2)])) _
    refine st9 _ ?_
    show Steps p.tables e below (T9.setTop (mkF m 22 #[.val (.int p0_0), .val (.int x1), .unset, .unset] [(.ref s_BALANCE), (.int (1 : Int32)), (.ref b2), (.ref b2)])) _
    refine st12 _ ?_
    show Steps p.tables e below (T12.setTop (mkF m 23 #[.val (.int p0_0), .val (.int x1), .unset, .unset] [(.ref b2)])) _
    refine XS.dup X12.here hx rfl (hb hby at_23) rfl rfl ?_
    show Steps p.tables e below (T12.setTop (mkF m 24 #[.val (.int p0_0), .val (.int x1), .unset, .unset] [(.ref b2), (.ref b2)])) _
    refine XS.iconst X12.here hx rfl (hb hby at_24) ?_
    show Steps p.tables e below (T12.setTop (mkF m 25 #[.val (.int p0_0), .val (.int x1), .unset, .unset] [(.int (2 : Int32)), (.ref b2), (.ref b2)])) _
    refine st14 _ ?_
    show Steps p.tables e below (T14.setTop (mkF m 28 #[.val (.int p0_0), .val (.int x1), .unset, .unset] [(.ref s_HOLD), (.int (2 : Int32)), (.ref b2), (.ref b2)])) _
    refine st17 _ ?_
    show Steps p.tables e below (T17.setTop (mkF m 29 #[.val (.int p0_0), .val (.int x1), .unset, .unset] [(.ref b2)])) _
    refine XS.dup X17.here hx rfl (hb hby at_29) rfl rfl ?_
    show Steps p.tables e below (T17.setTop (mkF m 30 #[.val (.int p0_0), .val (.int x1), .unset, .unset] [(.ref b2), (.ref b2)])) _
    refine XS.iconst X17.here hx rfl (hb hby at_30) ?_
    show Steps p.tables e below (T17.setTop (mkF m 31 #[.val (.int p0_0), .val (.int x1), .unset, .unset] [(.int (3 : Int32)), (.ref b2), (.ref b2)])) _
    refine st19 _ ?_
    show Steps p.tables e below (T19.setTop (mkF m 34 #[.val (.int p0_0), .val (.int x1), .unset, .unset] [(.ref s_REFUND), (.int (3 : Int32)), (.ref b2), (.ref b2)])) _
    refine st22 _ ?_
    show Steps p.tables e below (T22.setTop (mkF m 35 #[.val (.int p0_0), .val (.int x1), .unset, .unset] [(.ref b2)])) _
    refine XS.dup X22.here hx rfl (hb hby at_35) rfl rfl ?_
    show Steps p.tables e below (T22.setTop (mkF m 36 #[.val (.int p0_0), .val (.int x1), .unset, .unset] [(.ref b2), (.ref b2)])) _
    refine XS.iconst X22.here hx rfl (hb hby at_36) ?_
    show Steps p.tables e below (T22.setTop (mkF m 37 #[.val (.int p0_0), .val (.int x1), .unset, .unset] [(.int (4 : Int32)), (.ref b2), (.ref b2)])) _
    refine st24 _ ?_
    show Steps p.tables e below (T24.setTop (mkF m 40 #[.val (.int p0_0), .val (.int x1), .unset, .unset] [(.ref s_DISPUTE), (.int (4 : Int32)), (.ref b2), (.ref b2)])) _
    refine st27 _ ?_
    show Steps p.tables e below (T27.setTop (mkF m 41 #[.val (.int p0_0), .val (.int x1), .unset, .unset] [(.ref b2)])) _
    refine XS.astoreN X27.here hx rfl (hb hby at_41) rfl rfl (l' := #[.val (.int p0_0), .val (.int x1), .val (.ref b2), .unset]) rfl ?_
    exact k
  rcases own_k p0_0 x1 hx1 with hc29 | hc30 | hc31 | hc32 | hc33
  · have own_t29 : True := trivial
    obtain ⟨cl34, Ar34, qk34, Sz34, Nz34, Hh34, Gf34⟩ := V27
    have f35 := (((((f5.wr W7).wr W12).wr W17).wr W22).wr W27)
    have f36 := ((((((F_s_SALE.ext E2).other W7 (Or.inl ne_s_SALE_b2)).other W12 (Or.inl ne_s_SALE_b2)).other W17 (Or.inl ne_s_SALE_b2)).other W22 (Or.inl ne_s_SALE_b2)).other W27 (Or.inl ne_s_SALE_b2))
    obtain ⟨cq37, kq37, q37a, q37b, q37c⟩ := isOf hZ e27 f35
    obtain ⟨_, _, ⟨T37, L37, k37, n37⟩, -, X37, ⟨Lc37, hQ37, l37, y37, z37⟩, st37⟩ := X27.virtualBack hx (y := (⟨"com/example/holdback/holdback/model/EventKind", "takesBack", "()Z"⟩ : MethodName)) (z := (⟨"com/example/holdback/holdback/model/EventKind", "takesBack", "()Z"⟩ : MethodName)) hown (mvT hZ (ow15 hw)) (mvT hZ (ow16 hw)) (notFace_of_selects (args := #[]) (mvT hZ (ow18 hw))) (mvT hZ (ow18 hw)) (mvT hZ (ow17 hw)) (by decide) (backOf (W := 0) (rm1_1 l Z a0 hw [] s_SALE h27 n0 Z27 f35 f36) hZ (ow19 hw) (ow4 hw) (by decide) (by decide)) q37a q37c (g := (mkF m 67 #[.val (.int p0_0), .val (.int (0 : Int32)), .val (.ref b2), .val (.int (0 : Int32))] [(.ref s_SALE)])) rfl (by rw [hml]; rfl) (Steps.refl _) (argsL := []) (rest := []) (lenOf pd___Z rfl) rfl (by show 2 * 0 + _ ≤ _; exact Nat.le_of_eq rfl) (hb hby at_67) (fun _ _ => ⟨rfl, e27, (by decide : 1 + 0 ≤ _), (by decide : 5 + 0 ≤ _)⟩)
    dsimp only [Pt.U, Pt.locs, Pt.cells, Pt.slots] at X37 l37 y37 z37 st37 hQ37
    subst l37 y37 z37
    obtain ⟨rfl, Nq37, e37⟩ := hQ37
    have N37 := Fr.app N27 Nq37
    obtain ⟨fs, hr, hrun, hended, hW, hsame⟩ := X37.leave (v := some (.int (1 : Int32))) (fun h => by rw [Bd.returns] at h; cases h)
    refine ⟨_, _, pre0 _ ?_, hrun, hended, _, _, rfl, ?_, ⟨_, rfl⟩, hW, hsame.mono (by decide) (by decide)⟩
    · refine G28 _ ?_
      show Steps p.tables e below (T27.setTop (mkF m 42 #[.val (.int p0_0), .val (.int x1), .val (.ref b2), .unset] [])) _
      rw [hc29]
      show Steps p.tables e below (T27.setTop (mkF m 42 #[.val (.int p0_0), .val (.int (0 : Int32)), .val (.ref b2), .unset] [])) _
      show Steps p.tables e below (T27.setTop (mkF m 42 #[.val (.int p0_0), .val (.int (0 : Int32)), .val (.ref b2), .unset] [])) _
      refine XS.iloadN X27.here hx rfl (hb hby at_42) rfl ?_
      show Steps p.tables e below (T27.setTop (mkF m 43 #[.val (.int p0_0), .val (.int (0 : Int32)), .val (.ref b2), .unset] [(.int (0 : Int32))])) _
      refine XS.iconst X27.here hx rfl (hb hby at_43) ?_
      show Steps p.tables e below (T27.setTop (mkF m 44 #[.val (.int p0_0), .val (.int (0 : Int32)), .val (.ref b2), .unset] [(.int (3 : Int32)), (.int (0 : Int32))])) _
      refine XS.icmpYes X27.here hx rfl (pc0 := 44) (pc' := 52) rfl (hb hby at_44) rfl (feq (by decide : ¬ ((0 : Int32) = (3 : Int32)))).2 (by decide) (by decide) ?_
      show Steps p.tables e below (T27.setTop (mkF m 52 #[.val (.int p0_0), .val (.int (0 : Int32)), .val (.ref b2), .unset] [])) _
      refine XS.iloadN X27.here hx rfl (hb hby at_52) rfl ?_
      show Steps p.tables e below (T27.setTop (mkF m 53 #[.val (.int p0_0), .val (.int (0 : Int32)), .val (.ref b2), .unset] [(.int (0 : Int32))])) _
      refine XS.iconst X27.here hx rfl (hb hby at_53) ?_
      show Steps p.tables e below (T27.setTop (mkF m 54 #[.val (.int p0_0), .val (.int (0 : Int32)), .val (.ref b2), .unset] [(.int (4 : Int32)), (.int (0 : Int32))])) _
      refine XS.icmpYes X27.here hx rfl (pc0 := 54) (pc' := 62) rfl (hb hby at_54) rfl (feq (by decide : ¬ ((0 : Int32) = (4 : Int32)))).2 (by decide) (by decide) ?_
      show Steps p.tables e below (T27.setTop (mkF m 62 #[.val (.int p0_0), .val (.int (0 : Int32)), .val (.ref b2), .unset] [])) _
      refine XS.iconst X27.here hx rfl (hb hby at_62) ?_
      show Steps p.tables e below (T27.setTop (mkF m 63 #[.val (.int p0_0), .val (.int (0 : Int32)), .val (.ref b2), .unset] [(.int (0 : Int32))])) _
      refine XS.istoreN X27.here hx rfl (hb hby at_63) rfl (l' := #[.val (.int p0_0), .val (.int (0 : Int32)), .val (.ref b2), .val (.int (0 : Int32))]) rfl ?_
      show Steps p.tables e below (T27.setTop (mkF m 64 #[.val (.int p0_0), .val (.int (0 : Int32)), .val (.ref b2), .val (.int (0 : Int32))] [])) _
      refine XS.aloadN X27.here hx rfl (hb hby at_64) rfl rfl ?_
      show Steps p.tables e below (T27.setTop (mkF m 65 #[.val (.int p0_0), .val (.int (0 : Int32)), .val (.ref b2), .val (.int (0 : Int32))] [(.ref b2)])) _
      refine XS.iloadN X27.here hx rfl (hb hby at_65) rfl ?_
      show Steps p.tables e below (T27.setTop (mkF m 66 #[.val (.int p0_0), .val (.int (0 : Int32)), .val (.ref b2), .val (.int (0 : Int32))] [(.int (0 : Int32)), (.ref b2)])) _
      refine X27.aaload hx (j := (0 : Int32)) (v := (.ref s_SALE)) (by rw [e27]; exact Ar34.1) (State.isArrayOf_alike hZ.alike Ar34.2.1) rfl Ar34.2.2 (inb_of Sz34 ⟨by decide, by decide⟩) (Hh34.at (inb_of Sz34 ⟨by decide, by decide⟩) rfl) (g := (mkF m 66 #[.val (.int p0_0), .val (.int (0 : Int32)), .val (.ref b2), .val (.int (0 : Int32))] [(.int (0 : Int32)), (.ref b2)])) rfl rfl (hb hby at_66) _ ?_
      show Steps p.tables e below (T27.setTop (mkF m 67 #[.val (.int p0_0), .val (.int (0 : Int32)), .val (.ref b2), .val (.int (0 : Int32))] [(.ref s_SALE)])) _
      refine st37.trans ?_
      show Steps p.tables e below (T37.setTop (mkF m 70 #[.val (.int p0_0), .val (.int (0 : Int32)), .val (.ref b2), .val (.int (0 : Int32))] [(.int (0 : Int32))])) _
      refine XS.iloadN X37.here hx rfl (hb hby at_70) rfl ?_
      show Steps p.tables e below (T37.setTop (mkF m 71 #[.val (.int p0_0), .val (.int (0 : Int32)), .val (.ref b2), .val (.int (0 : Int32))] [(.int (0 : Int32)), (.int (0 : Int32))])) _
      refine XS.icmpNo X37.here hx rfl (hb hby at_71) rfl (teq (by decide : (0 : Int32) = (0 : Int32))).2 ?_
      show Steps p.tables e below (T37.setTop (mkF m 74 #[.val (.int p0_0), .val (.int (0 : Int32)), .val (.ref b2), .val (.int (0 : Int32))] [])) _
      refine XS.iconst X37.here hx rfl (hb hby at_74) ?_
      show Steps p.tables e below (T37.setTop (mkF m 75 #[.val (.int p0_0), .val (.int (0 : Int32)), .val (.ref b2), .val (.int (0 : Int32))] [(.int (1 : Int32))])) _
      refine XS.goto X37.here hx rfl (pc0 := 75) (pc' := 79) rfl (hb hby at_75) (by decide) (by decide) ?_
      show Steps p.tables e below (T37.setTop (mkF m 79 #[.val (.int p0_0), .val (.int (0 : Int32)), .val (.ref b2), .val (.int (0 : Int32))] [(.int (1 : Int32))])) _
      exact retN X37 hx (t := .boolean) Bd.returns (by simp) (hb hby at_79) hr
    · exact ⟨rfl, N37⟩
  · have own_t30 : True := trivial
    obtain ⟨cl38, Ar38, qk38, Sz38, Nz38, Hh38, Gf38⟩ := V27
    have f39 := ((((f10.wr W12).wr W17).wr W22).wr W27)
    have f40 := ((((((F_s_BALANCE.ext E2).other W7 (Or.inl ne_s_BALANCE_b2)).other W12 (Or.inl ne_s_BALANCE_b2)).other W17 (Or.inl ne_s_BALANCE_b2)).other W22 (Or.inl ne_s_BALANCE_b2)).other W27 (Or.inl ne_s_BALANCE_b2))
    obtain ⟨cq41, kq41, q41a, q41b, q41c⟩ := isOf hZ e27 f39
    obtain ⟨_, _, ⟨T41, L41, k41, n41⟩, -, X41, ⟨Lc41, hQ41, l41, y41, z41⟩, st41⟩ := X27.virtualBack hx (y := (⟨"com/example/holdback/holdback/model/EventKind", "takesBack", "()Z"⟩ : MethodName)) (z := (⟨"com/example/holdback/holdback/model/EventKind", "takesBack", "()Z"⟩ : MethodName)) hown (mvT hZ (ow15 hw)) (mvT hZ (ow16 hw)) (notFace_of_selects (args := #[]) (mvT hZ (ow18 hw))) (mvT hZ (ow18 hw)) (mvT hZ (ow17 hw)) (by decide) (backOf (W := 0) (rm1_2 l Z a0 hw [] s_BALANCE h27 n0 Z27 f39 f40) hZ (ow19 hw) (ow4 hw) (by decide) (by decide)) q41a q41c (g := (mkF m 67 #[.val (.int p0_0), .val (.int (1 : Int32)), .val (.ref b2), .val (.int (0 : Int32))] [(.ref s_BALANCE)])) rfl (by rw [hml]; rfl) (Steps.refl _) (argsL := []) (rest := []) (lenOf pd___Z rfl) rfl (by show 2 * 0 + _ ≤ _; exact Nat.le_of_eq rfl) (hb hby at_67) (fun _ _ => ⟨rfl, e27, (by decide : 1 + 0 ≤ _), (by decide : 5 + 0 ≤ _)⟩)
    dsimp only [Pt.U, Pt.locs, Pt.cells, Pt.slots] at X41 l41 y41 z41 st41 hQ41
    subst l41 y41 z41
    obtain ⟨rfl, Nq41, e41⟩ := hQ41
    have N41 := Fr.app N27 Nq41
    obtain ⟨fs, hr, hrun, hended, hW, hsame⟩ := X41.leave (v := some (.int (1 : Int32))) (fun h => by rw [Bd.returns] at h; cases h)
    refine ⟨_, _, pre0 _ ?_, hrun, hended, _, _, rfl, ?_, ⟨_, rfl⟩, hW, hsame.mono (by decide) (by decide)⟩
    · refine G28 _ ?_
      show Steps p.tables e below (T27.setTop (mkF m 42 #[.val (.int p0_0), .val (.int x1), .val (.ref b2), .unset] [])) _
      rw [hc30]
      show Steps p.tables e below (T27.setTop (mkF m 42 #[.val (.int p0_0), .val (.int (1 : Int32)), .val (.ref b2), .unset] [])) _
      show Steps p.tables e below (T27.setTop (mkF m 42 #[.val (.int p0_0), .val (.int (1 : Int32)), .val (.ref b2), .unset] [])) _
      refine XS.iloadN X27.here hx rfl (hb hby at_42) rfl ?_
      show Steps p.tables e below (T27.setTop (mkF m 43 #[.val (.int p0_0), .val (.int (1 : Int32)), .val (.ref b2), .unset] [(.int (1 : Int32))])) _
      refine XS.iconst X27.here hx rfl (hb hby at_43) ?_
      show Steps p.tables e below (T27.setTop (mkF m 44 #[.val (.int p0_0), .val (.int (1 : Int32)), .val (.ref b2), .unset] [(.int (3 : Int32)), (.int (1 : Int32))])) _
      refine XS.icmpYes X27.here hx rfl (pc0 := 44) (pc' := 52) rfl (hb hby at_44) rfl (feq (by decide : ¬ ((1 : Int32) = (3 : Int32)))).2 (by decide) (by decide) ?_
      show Steps p.tables e below (T27.setTop (mkF m 52 #[.val (.int p0_0), .val (.int (1 : Int32)), .val (.ref b2), .unset] [])) _
      refine XS.iloadN X27.here hx rfl (hb hby at_52) rfl ?_
      show Steps p.tables e below (T27.setTop (mkF m 53 #[.val (.int p0_0), .val (.int (1 : Int32)), .val (.ref b2), .unset] [(.int (1 : Int32))])) _
      refine XS.iconst X27.here hx rfl (hb hby at_53) ?_
      show Steps p.tables e below (T27.setTop (mkF m 54 #[.val (.int p0_0), .val (.int (1 : Int32)), .val (.ref b2), .unset] [(.int (4 : Int32)), (.int (1 : Int32))])) _
      refine XS.icmpYes X27.here hx rfl (pc0 := 54) (pc' := 62) rfl (hb hby at_54) rfl (feq (by decide : ¬ ((1 : Int32) = (4 : Int32)))).2 (by decide) (by decide) ?_
      show Steps p.tables e below (T27.setTop (mkF m 62 #[.val (.int p0_0), .val (.int (1 : Int32)), .val (.ref b2), .unset] [])) _
      refine XS.iconst X27.here hx rfl (hb hby at_62) ?_
      show Steps p.tables e below (T27.setTop (mkF m 63 #[.val (.int p0_0), .val (.int (1 : Int32)), .val (.ref b2), .unset] [(.int (0 : Int32))])) _
      refine XS.istoreN X27.here hx rfl (hb hby at_63) rfl (l' := #[.val (.int p0_0), .val (.int (1 : Int32)), .val (.ref b2), .val (.int (0 : Int32))]) rfl ?_
      show Steps p.tables e below (T27.setTop (mkF m 64 #[.val (.int p0_0), .val (.int (1 : Int32)), .val (.ref b2), .val (.int (0 : Int32))] [])) _
      refine XS.aloadN X27.here hx rfl (hb hby at_64) rfl rfl ?_
      show Steps p.tables e below (T27.setTop (mkF m 65 #[.val (.int p0_0), .val (.int (1 : Int32)), .val (.ref b2), .val (.int (0 : Int32))] [(.ref b2)])) _
      refine XS.iloadN X27.here hx rfl (hb hby at_65) rfl ?_
      show Steps p.tables e below (T27.setTop (mkF m 66 #[.val (.int p0_0), .val (.int (1 : Int32)), .val (.ref b2), .val (.int (0 : Int32))] [(.int (1 : Int32)), (.ref b2)])) _
      refine X27.aaload hx (j := (1 : Int32)) (v := (.ref s_BALANCE)) (by rw [e27]; exact Ar38.1) (State.isArrayOf_alike hZ.alike Ar38.2.1) rfl Ar38.2.2 (inb_of Sz38 ⟨by decide, by decide⟩) (Hh38.at (inb_of Sz38 ⟨by decide, by decide⟩) rfl) (g := (mkF m 66 #[.val (.int p0_0), .val (.int (1 : Int32)), .val (.ref b2), .val (.int (0 : Int32))] [(.int (1 : Int32)), (.ref b2)])) rfl rfl (hb hby at_66) _ ?_
      show Steps p.tables e below (T27.setTop (mkF m 67 #[.val (.int p0_0), .val (.int (1 : Int32)), .val (.ref b2), .val (.int (0 : Int32))] [(.ref s_BALANCE)])) _
      refine st41.trans ?_
      show Steps p.tables e below (T41.setTop (mkF m 70 #[.val (.int p0_0), .val (.int (1 : Int32)), .val (.ref b2), .val (.int (0 : Int32))] [(.int (0 : Int32))])) _
      refine XS.iloadN X41.here hx rfl (hb hby at_70) rfl ?_
      show Steps p.tables e below (T41.setTop (mkF m 71 #[.val (.int p0_0), .val (.int (1 : Int32)), .val (.ref b2), .val (.int (0 : Int32))] [(.int (0 : Int32)), (.int (0 : Int32))])) _
      refine XS.icmpNo X41.here hx rfl (hb hby at_71) rfl (teq (by decide : (0 : Int32) = (0 : Int32))).2 ?_
      show Steps p.tables e below (T41.setTop (mkF m 74 #[.val (.int p0_0), .val (.int (1 : Int32)), .val (.ref b2), .val (.int (0 : Int32))] [])) _
      refine XS.iconst X41.here hx rfl (hb hby at_74) ?_
      show Steps p.tables e below (T41.setTop (mkF m 75 #[.val (.int p0_0), .val (.int (1 : Int32)), .val (.ref b2), .val (.int (0 : Int32))] [(.int (1 : Int32))])) _
      refine XS.goto X41.here hx rfl (pc0 := 75) (pc' := 79) rfl (hb hby at_75) (by decide) (by decide) ?_
      show Steps p.tables e below (T41.setTop (mkF m 79 #[.val (.int p0_0), .val (.int (1 : Int32)), .val (.ref b2), .val (.int (0 : Int32))] [(.int (1 : Int32))])) _
      exact retN X41 hx (t := .boolean) Bd.returns (by simp) (hb hby at_79) hr
    · exact ⟨rfl, N41⟩
  · have own_t31 : True := trivial
    obtain ⟨cl42, Ar42, qk42, Sz42, Nz42, Hh42, Gf42⟩ := V27
    have f43 := (((f15.wr W17).wr W22).wr W27)
    have f44 := ((((((F_s_HOLD.ext E2).other W7 (Or.inl ne_s_HOLD_b2)).other W12 (Or.inl ne_s_HOLD_b2)).other W17 (Or.inl ne_s_HOLD_b2)).other W22 (Or.inl ne_s_HOLD_b2)).other W27 (Or.inl ne_s_HOLD_b2))
    obtain ⟨cq45, kq45, q45a, q45b, q45c⟩ := isOf hZ e27 f43
    obtain ⟨_, _, ⟨T45, L45, k45, n45⟩, -, X45, ⟨Lc45, hQ45, l45, y45, z45⟩, st45⟩ := X27.virtualBack hx (y := (⟨"com/example/holdback/holdback/model/EventKind", "takesBack", "()Z"⟩ : MethodName)) (z := (⟨"com/example/holdback/holdback/model/EventKind", "takesBack", "()Z"⟩ : MethodName)) hown (mvT hZ (ow15 hw)) (mvT hZ (ow16 hw)) (notFace_of_selects (args := #[]) (mvT hZ (ow18 hw))) (mvT hZ (ow18 hw)) (mvT hZ (ow17 hw)) (by decide) (backOf (W := 0) (rm1_3 l Z a0 hw [] s_HOLD h27 n0 Z27 f43 f44) hZ (ow19 hw) (ow4 hw) (by decide) (by decide)) q45a q45c (g := (mkF m 67 #[.val (.int p0_0), .val (.int (2 : Int32)), .val (.ref b2), .val (.int (0 : Int32))] [(.ref s_HOLD)])) rfl (by rw [hml]; rfl) (Steps.refl _) (argsL := []) (rest := []) (lenOf pd___Z rfl) rfl (by show 2 * 0 + _ ≤ _; exact Nat.le_of_eq rfl) (hb hby at_67) (fun _ _ => ⟨rfl, e27, (by decide : 1 + 0 ≤ _), (by decide : 5 + 0 ≤ _)⟩)
    dsimp only [Pt.U, Pt.locs, Pt.cells, Pt.slots] at X45 l45 y45 z45 st45 hQ45
    subst l45 y45 z45
    obtain ⟨rfl, Nq45, e45⟩ := hQ45
    have N45 := Fr.app N27 Nq45
    obtain ⟨fs, hr, hrun, hended, hW, hsame⟩ := X45.leave (v := some (.int (1 : Int32))) (fun h => by rw [Bd.returns] at h; cases h)
    refine ⟨_, _, pre0 _ ?_, hrun, hended, _, _, rfl, ?_, ⟨_, rfl⟩, hW, hsame.mono (by decide) (by decide)⟩
    · refine G28 _ ?_
      show Steps p.tables e below (T27.setTop (mkF m 42 #[.val (.int p0_0), .val (.int x1), .val (.ref b2), .unset] [])) _
      rw [hc31]
      show Steps p.tables e below (T27.setTop (mkF m 42 #[.val (.int p0_0), .val (.int (2 : Int32)), .val (.ref b2), .unset] [])) _
      show Steps p.tables e below (T27.setTop (mkF m 42 #[.val (.int p0_0), .val (.int (2 : Int32)), .val (.ref b2), .unset] [])) _
      refine XS.iloadN X27.here hx rfl (hb hby at_42) rfl ?_
      show Steps p.tables e below (T27.setTop (mkF m 43 #[.val (.int p0_0), .val (.int (2 : Int32)), .val (.ref b2), .unset] [(.int (2 : Int32))])) _
      refine XS.iconst X27.here hx rfl (hb hby at_43) ?_
      show Steps p.tables e below (T27.setTop (mkF m 44 #[.val (.int p0_0), .val (.int (2 : Int32)), .val (.ref b2), .unset] [(.int (3 : Int32)), (.int (2 : Int32))])) _
      refine XS.icmpYes X27.here hx rfl (pc0 := 44) (pc' := 52) rfl (hb hby at_44) rfl (feq (by decide : ¬ ((2 : Int32) = (3 : Int32)))).2 (by decide) (by decide) ?_
      show Steps p.tables e below (T27.setTop (mkF m 52 #[.val (.int p0_0), .val (.int (2 : Int32)), .val (.ref b2), .unset] [])) _
      refine XS.iloadN X27.here hx rfl (hb hby at_52) rfl ?_
      show Steps p.tables e below (T27.setTop (mkF m 53 #[.val (.int p0_0), .val (.int (2 : Int32)), .val (.ref b2), .unset] [(.int (2 : Int32))])) _
      refine XS.iconst X27.here hx rfl (hb hby at_53) ?_
      show Steps p.tables e below (T27.setTop (mkF m 54 #[.val (.int p0_0), .val (.int (2 : Int32)), .val (.ref b2), .unset] [(.int (4 : Int32)), (.int (2 : Int32))])) _
      refine XS.icmpYes X27.here hx rfl (pc0 := 54) (pc' := 62) rfl (hb hby at_54) rfl (feq (by decide : ¬ ((2 : Int32) = (4 : Int32)))).2 (by decide) (by decide) ?_
      show Steps p.tables e below (T27.setTop (mkF m 62 #[.val (.int p0_0), .val (.int (2 : Int32)), .val (.ref b2), .unset] [])) _
      refine XS.iconst X27.here hx rfl (hb hby at_62) ?_
      show Steps p.tables e below (T27.setTop (mkF m 63 #[.val (.int p0_0), .val (.int (2 : Int32)), .val (.ref b2), .unset] [(.int (0 : Int32))])) _
      refine XS.istoreN X27.here hx rfl (hb hby at_63) rfl (l' := #[.val (.int p0_0), .val (.int (2 : Int32)), .val (.ref b2), .val (.int (0 : Int32))]) rfl ?_
      show Steps p.tables e below (T27.setTop (mkF m 64 #[.val (.int p0_0), .val (.int (2 : Int32)), .val (.ref b2), .val (.int (0 : Int32))] [])) _
      refine XS.aloadN X27.here hx rfl (hb hby at_64) rfl rfl ?_
      show Steps p.tables e below (T27.setTop (mkF m 65 #[.val (.int p0_0), .val (.int (2 : Int32)), .val (.ref b2), .val (.int (0 : Int32))] [(.ref b2)])) _
      refine XS.iloadN X27.here hx rfl (hb hby at_65) rfl ?_
      show Steps p.tables e below (T27.setTop (mkF m 66 #[.val (.int p0_0), .val (.int (2 : Int32)), .val (.ref b2), .val (.int (0 : Int32))] [(.int (2 : Int32)), (.ref b2)])) _
      refine X27.aaload hx (j := (2 : Int32)) (v := (.ref s_HOLD)) (by rw [e27]; exact Ar42.1) (State.isArrayOf_alike hZ.alike Ar42.2.1) rfl Ar42.2.2 (inb_of Sz42 ⟨by decide, by decide⟩) (Hh42.at (inb_of Sz42 ⟨by decide, by decide⟩) rfl) (g := (mkF m 66 #[.val (.int p0_0), .val (.int (2 : Int32)), .val (.ref b2), .val (.int (0 : Int32))] [(.int (2 : Int32)), (.ref b2)])) rfl rfl (hb hby at_66) _ ?_
      show Steps p.tables e below (T27.setTop (mkF m 67 #[.val (.int p0_0), .val (.int (2 : Int32)), .val (.ref b2), .val (.int (0 : Int32))] [(.ref s_HOLD)])) _
      refine st45.trans ?_
      show Steps p.tables e below (T45.setTop (mkF m 70 #[.val (.int p0_0), .val (.int (2 : Int32)), .val (.ref b2), .val (.int (0 : Int32))] [(.int (0 : Int32))])) _
      refine XS.iloadN X45.here hx rfl (hb hby at_70) rfl ?_
      show Steps p.tables e below (T45.setTop (mkF m 71 #[.val (.int p0_0), .val (.int (2 : Int32)), .val (.ref b2), .val (.int (0 : Int32))] [(.int (0 : Int32)), (.int (0 : Int32))])) _
      refine XS.icmpNo X45.here hx rfl (hb hby at_71) rfl (teq (by decide : (0 : Int32) = (0 : Int32))).2 ?_
      show Steps p.tables e below (T45.setTop (mkF m 74 #[.val (.int p0_0), .val (.int (2 : Int32)), .val (.ref b2), .val (.int (0 : Int32))] [])) _
      refine XS.iconst X45.here hx rfl (hb hby at_74) ?_
      show Steps p.tables e below (T45.setTop (mkF m 75 #[.val (.int p0_0), .val (.int (2 : Int32)), .val (.ref b2), .val (.int (0 : Int32))] [(.int (1 : Int32))])) _
      refine XS.goto X45.here hx rfl (pc0 := 75) (pc' := 79) rfl (hb hby at_75) (by decide) (by decide) ?_
      show Steps p.tables e below (T45.setTop (mkF m 79 #[.val (.int p0_0), .val (.int (2 : Int32)), .val (.ref b2), .val (.int (0 : Int32))] [(.int (1 : Int32))])) _
      exact retN X45 hx (t := .boolean) Bd.returns (by simp) (hb hby at_79) hr
    · exact ⟨rfl, N45⟩
  · have own_t32 : True := trivial
    obtain ⟨cl46, Ar46, qk46, Sz46, Nz46, Hh46, Gf46⟩ := V27
    have f47 := ((f20.wr W22).wr W27)
    have f48 := ((((((F_s_REFUND.ext E2).other W7 (Or.inl ne_s_REFUND_b2)).other W12 (Or.inl ne_s_REFUND_b2)).other W17 (Or.inl ne_s_REFUND_b2)).other W22 (Or.inl ne_s_REFUND_b2)).other W27 (Or.inl ne_s_REFUND_b2))
    obtain ⟨cq49, kq49, q49a, q49b, q49c⟩ := isOf hZ e27 f47
    obtain ⟨_, _, ⟨T49, L49, k49, n49⟩, -, X49, ⟨Lc49, hQ49, l49, y49, z49⟩, st49⟩ := X27.virtualBack hx (y := (⟨"com/example/holdback/holdback/model/EventKind", "takesBack", "()Z"⟩ : MethodName)) (z := (⟨"com/example/holdback/holdback/model/EventKind", "takesBack", "()Z"⟩ : MethodName)) hown (mvT hZ (ow15 hw)) (mvT hZ (ow16 hw)) (notFace_of_selects (args := #[]) (mvT hZ (ow18 hw))) (mvT hZ (ow18 hw)) (mvT hZ (ow17 hw)) (by decide) (backOf (W := 0) (rm1_4 l Z a0 hw [] s_REFUND h27 n0 Z27 f47 f48) hZ (ow19 hw) (ow4 hw) (by decide) (by decide)) q49a q49c (g := (mkF m 67 #[.val (.int p0_0), .val (.int (3 : Int32)), .val (.ref b2), .val (.int (1 : Int32))] [(.ref s_REFUND)])) rfl (by rw [hml]; rfl) (Steps.refl _) (argsL := []) (rest := []) (lenOf pd___Z rfl) rfl (by show 2 * 0 + _ ≤ _; exact Nat.le_of_eq rfl) (hb hby at_67) (fun _ _ => ⟨rfl, e27, (by decide : 1 + 0 ≤ _), (by decide : 5 + 0 ≤ _)⟩)
    dsimp only [Pt.U, Pt.locs, Pt.cells, Pt.slots] at X49 l49 y49 z49 st49 hQ49
    subst l49 y49 z49
    obtain ⟨rfl, Nq49, e49⟩ := hQ49
    have N49 := Fr.app N27 Nq49
    obtain ⟨fs, hr, hrun, hended, hW, hsame⟩ := X49.leave (v := some (.int (1 : Int32))) (fun h => by rw [Bd.returns] at h; cases h)
    refine ⟨_, _, pre0 _ ?_, hrun, hended, _, _, rfl, ?_, ⟨_, rfl⟩, hW, hsame.mono (by decide) (by decide)⟩
    · refine G28 _ ?_
      show Steps p.tables e below (T27.setTop (mkF m 42 #[.val (.int p0_0), .val (.int x1), .val (.ref b2), .unset] [])) _
      rw [hc32]
      show Steps p.tables e below (T27.setTop (mkF m 42 #[.val (.int p0_0), .val (.int (3 : Int32)), .val (.ref b2), .unset] [])) _
      show Steps p.tables e below (T27.setTop (mkF m 42 #[.val (.int p0_0), .val (.int (3 : Int32)), .val (.ref b2), .unset] [])) _
      refine XS.iloadN X27.here hx rfl (hb hby at_42) rfl ?_
      show Steps p.tables e below (T27.setTop (mkF m 43 #[.val (.int p0_0), .val (.int (3 : Int32)), .val (.ref b2), .unset] [(.int (3 : Int32))])) _
      refine XS.iconst X27.here hx rfl (hb hby at_43) ?_
      show Steps p.tables e below (T27.setTop (mkF m 44 #[.val (.int p0_0), .val (.int (3 : Int32)), .val (.ref b2), .unset] [(.int (3 : Int32)), (.int (3 : Int32))])) _
      refine XS.icmpNo X27.here hx rfl (hb hby at_44) rfl (teq (by decide : (3 : Int32) = (3 : Int32))).2 ?_
      show Steps p.tables e below (T27.setTop (mkF m 47 #[.val (.int p0_0), .val (.int (3 : Int32)), .val (.ref b2), .unset] [])) _
      refine XS.iconst X27.here hx rfl (hb hby at_47) ?_
      show Steps p.tables e below (T27.setTop (mkF m 48 #[.val (.int p0_0), .val (.int (3 : Int32)), .val (.ref b2), .unset] [(.int (1 : Int32))])) _
      refine XS.istoreN X27.here hx rfl (hb hby at_48) rfl (l' := #[.val (.int p0_0), .val (.int (3 : Int32)), .val (.ref b2), .val (.int (1 : Int32))]) rfl ?_
      show Steps p.tables e below (T27.setTop (mkF m 49 #[.val (.int p0_0), .val (.int (3 : Int32)), .val (.ref b2), .val (.int (1 : Int32))] [])) _
      refine XS.goto X27.here hx rfl (pc0 := 49) (pc' := 64) rfl (hb hby at_49) (by decide) (by decide) ?_
      show Steps p.tables e below (T27.setTop (mkF m 64 #[.val (.int p0_0), .val (.int (3 : Int32)), .val (.ref b2), .val (.int (1 : Int32))] [])) _
      refine XS.aloadN X27.here hx rfl (hb hby at_64) rfl rfl ?_
      show Steps p.tables e below (T27.setTop (mkF m 65 #[.val (.int p0_0), .val (.int (3 : Int32)), .val (.ref b2), .val (.int (1 : Int32))] [(.ref b2)])) _
      refine XS.iloadN X27.here hx rfl (hb hby at_65) rfl ?_
      show Steps p.tables e below (T27.setTop (mkF m 66 #[.val (.int p0_0), .val (.int (3 : Int32)), .val (.ref b2), .val (.int (1 : Int32))] [(.int (3 : Int32)), (.ref b2)])) _
      refine X27.aaload hx (j := (3 : Int32)) (v := (.ref s_REFUND)) (by rw [e27]; exact Ar46.1) (State.isArrayOf_alike hZ.alike Ar46.2.1) rfl Ar46.2.2 (inb_of Sz46 ⟨by decide, by decide⟩) (Hh46.at (inb_of Sz46 ⟨by decide, by decide⟩) rfl) (g := (mkF m 66 #[.val (.int p0_0), .val (.int (3 : Int32)), .val (.ref b2), .val (.int (1 : Int32))] [(.int (3 : Int32)), (.ref b2)])) rfl rfl (hb hby at_66) _ ?_
      show Steps p.tables e below (T27.setTop (mkF m 67 #[.val (.int p0_0), .val (.int (3 : Int32)), .val (.ref b2), .val (.int (1 : Int32))] [(.ref s_REFUND)])) _
      refine st49.trans ?_
      show Steps p.tables e below (T49.setTop (mkF m 70 #[.val (.int p0_0), .val (.int (3 : Int32)), .val (.ref b2), .val (.int (1 : Int32))] [(.int (1 : Int32))])) _
      refine XS.iloadN X49.here hx rfl (hb hby at_70) rfl ?_
      show Steps p.tables e below (T49.setTop (mkF m 71 #[.val (.int p0_0), .val (.int (3 : Int32)), .val (.ref b2), .val (.int (1 : Int32))] [(.int (1 : Int32)), (.int (1 : Int32))])) _
      refine XS.icmpNo X49.here hx rfl (hb hby at_71) rfl (teq (by decide : (1 : Int32) = (1 : Int32))).2 ?_
      show Steps p.tables e below (T49.setTop (mkF m 74 #[.val (.int p0_0), .val (.int (3 : Int32)), .val (.ref b2), .val (.int (1 : Int32))] [])) _
      refine XS.iconst X49.here hx rfl (hb hby at_74) ?_
      show Steps p.tables e below (T49.setTop (mkF m 75 #[.val (.int p0_0), .val (.int (3 : Int32)), .val (.ref b2), .val (.int (1 : Int32))] [(.int (1 : Int32))])) _
      refine XS.goto X49.here hx rfl (pc0 := 75) (pc' := 79) rfl (hb hby at_75) (by decide) (by decide) ?_
      show Steps p.tables e below (T49.setTop (mkF m 79 #[.val (.int p0_0), .val (.int (3 : Int32)), .val (.ref b2), .val (.int (1 : Int32))] [(.int (1 : Int32))])) _
      exact retN X49 hx (t := .boolean) Bd.returns (by simp) (hb hby at_79) hr
    · exact ⟨rfl, N49⟩
  · have own_t33 : True := trivial
    obtain ⟨cl50, Ar50, qk50, Sz50, Nz50, Hh50, Gf50⟩ := V27
    have f51 := (f25.wr W27)
    have f52 := ((((((F_s_DISPUTE.ext E2).other W7 (Or.inl ne_s_DISPUTE_b2)).other W12 (Or.inl ne_s_DISPUTE_b2)).other W17 (Or.inl ne_s_DISPUTE_b2)).other W22 (Or.inl ne_s_DISPUTE_b2)).other W27 (Or.inl ne_s_DISPUTE_b2))
    obtain ⟨cq53, kq53, q53a, q53b, q53c⟩ := isOf hZ e27 f51
    obtain ⟨_, _, ⟨T53, L53, k53, n53⟩, -, X53, ⟨Lc53, hQ53, l53, y53, z53⟩, st53⟩ := X27.virtualBack hx (y := (⟨"com/example/holdback/holdback/model/EventKind", "takesBack", "()Z"⟩ : MethodName)) (z := (⟨"com/example/holdback/holdback/model/EventKind", "takesBack", "()Z"⟩ : MethodName)) hown (mvT hZ (ow15 hw)) (mvT hZ (ow16 hw)) (notFace_of_selects (args := #[]) (mvT hZ (ow18 hw))) (mvT hZ (ow18 hw)) (mvT hZ (ow17 hw)) (by decide) (backOf (W := 0) (rm1_5 l Z a0 hw [] s_DISPUTE h27 n0 Z27 f51 f52) hZ (ow19 hw) (ow4 hw) (by decide) (by decide)) q53a q53c (g := (mkF m 67 #[.val (.int p0_0), .val (.int (4 : Int32)), .val (.ref b2), .val (.int (1 : Int32))] [(.ref s_DISPUTE)])) rfl (by rw [hml]; rfl) (Steps.refl _) (argsL := []) (rest := []) (lenOf pd___Z rfl) rfl (by show 2 * 0 + _ ≤ _; exact Nat.le_of_eq rfl) (hb hby at_67) (fun _ _ => ⟨rfl, e27, (by decide : 1 + 0 ≤ _), (by decide : 5 + 0 ≤ _)⟩)
    dsimp only [Pt.U, Pt.locs, Pt.cells, Pt.slots] at X53 l53 y53 z53 st53 hQ53
    subst l53 y53 z53
    obtain ⟨rfl, Nq53, e53⟩ := hQ53
    have N53 := Fr.app N27 Nq53
    obtain ⟨fs, hr, hrun, hended, hW, hsame⟩ := X53.leave (v := some (.int (1 : Int32))) (fun h => by rw [Bd.returns] at h; cases h)
    refine ⟨_, _, pre0 _ ?_, hrun, hended, _, _, rfl, ?_, ⟨_, rfl⟩, hW, hsame.mono (by decide) (by decide)⟩
    · refine G28 _ ?_
      show Steps p.tables e below (T27.setTop (mkF m 42 #[.val (.int p0_0), .val (.int x1), .val (.ref b2), .unset] [])) _
      rw [hc33]
      show Steps p.tables e below (T27.setTop (mkF m 42 #[.val (.int p0_0), .val (.int (4 : Int32)), .val (.ref b2), .unset] [])) _
      show Steps p.tables e below (T27.setTop (mkF m 42 #[.val (.int p0_0), .val (.int (4 : Int32)), .val (.ref b2), .unset] [])) _
      refine XS.iloadN X27.here hx rfl (hb hby at_42) rfl ?_
      show Steps p.tables e below (T27.setTop (mkF m 43 #[.val (.int p0_0), .val (.int (4 : Int32)), .val (.ref b2), .unset] [(.int (4 : Int32))])) _
      refine XS.iconst X27.here hx rfl (hb hby at_43) ?_
      show Steps p.tables e below (T27.setTop (mkF m 44 #[.val (.int p0_0), .val (.int (4 : Int32)), .val (.ref b2), .unset] [(.int (3 : Int32)), (.int (4 : Int32))])) _
      refine XS.icmpYes X27.here hx rfl (pc0 := 44) (pc' := 52) rfl (hb hby at_44) rfl (feq (by decide : ¬ ((4 : Int32) = (3 : Int32)))).2 (by decide) (by decide) ?_
      show Steps p.tables e below (T27.setTop (mkF m 52 #[.val (.int p0_0), .val (.int (4 : Int32)), .val (.ref b2), .unset] [])) _
      refine XS.iloadN X27.here hx rfl (hb hby at_52) rfl ?_
      show Steps p.tables e below (T27.setTop (mkF m 53 #[.val (.int p0_0), .val (.int (4 : Int32)), .val (.ref b2), .unset] [(.int (4 : Int32))])) _
      refine XS.iconst X27.here hx rfl (hb hby at_53) ?_
      show Steps p.tables e below (T27.setTop (mkF m 54 #[.val (.int p0_0), .val (.int (4 : Int32)), .val (.ref b2), .unset] [(.int (4 : Int32)), (.int (4 : Int32))])) _
      refine XS.icmpNo X27.here hx rfl (hb hby at_54) rfl (teq (by decide : (4 : Int32) = (4 : Int32))).2 ?_
      show Steps p.tables e below (T27.setTop (mkF m 57 #[.val (.int p0_0), .val (.int (4 : Int32)), .val (.ref b2), .unset] [])) _
      refine XS.iconst X27.here hx rfl (hb hby at_57) ?_
      show Steps p.tables e below (T27.setTop (mkF m 58 #[.val (.int p0_0), .val (.int (4 : Int32)), .val (.ref b2), .unset] [(.int (1 : Int32))])) _
      refine XS.istoreN X27.here hx rfl (hb hby at_58) rfl (l' := #[.val (.int p0_0), .val (.int (4 : Int32)), .val (.ref b2), .val (.int (1 : Int32))]) rfl ?_
      show Steps p.tables e below (T27.setTop (mkF m 59 #[.val (.int p0_0), .val (.int (4 : Int32)), .val (.ref b2), .val (.int (1 : Int32))] [])) _
      refine XS.goto X27.here hx rfl (pc0 := 59) (pc' := 64) rfl (hb hby at_59) (by decide) (by decide) ?_
      show Steps p.tables e below (T27.setTop (mkF m 64 #[.val (.int p0_0), .val (.int (4 : Int32)), .val (.ref b2), .val (.int (1 : Int32))] [])) _
      refine XS.aloadN X27.here hx rfl (hb hby at_64) rfl rfl ?_
      show Steps p.tables e below (T27.setTop (mkF m 65 #[.val (.int p0_0), .val (.int (4 : Int32)), .val (.ref b2), .val (.int (1 : Int32))] [(.ref b2)])) _
      refine XS.iloadN X27.here hx rfl (hb hby at_65) rfl ?_
      show Steps p.tables e below (T27.setTop (mkF m 66 #[.val (.int p0_0), .val (.int (4 : Int32)), .val (.ref b2), .val (.int (1 : Int32))] [(.int (4 : Int32)), (.ref b2)])) _
      refine X27.aaload hx (j := (4 : Int32)) (v := (.ref s_DISPUTE)) (by rw [e27]; exact Ar50.1) (State.isArrayOf_alike hZ.alike Ar50.2.1) rfl Ar50.2.2 (inb_of Sz50 ⟨by decide, by decide⟩) (Hh50.at (inb_of Sz50 ⟨by decide, by decide⟩) rfl) (g := (mkF m 66 #[.val (.int p0_0), .val (.int (4 : Int32)), .val (.ref b2), .val (.int (1 : Int32))] [(.int (4 : Int32)), (.ref b2)])) rfl rfl (hb hby at_66) _ ?_
      show Steps p.tables e below (T27.setTop (mkF m 67 #[.val (.int p0_0), .val (.int (4 : Int32)), .val (.ref b2), .val (.int (1 : Int32))] [(.ref s_DISPUTE)])) _
      refine st53.trans ?_
      show Steps p.tables e below (T53.setTop (mkF m 70 #[.val (.int p0_0), .val (.int (4 : Int32)), .val (.ref b2), .val (.int (1 : Int32))] [(.int (1 : Int32))])) _
      refine XS.iloadN X53.here hx rfl (hb hby at_70) rfl ?_
      show Steps p.tables e below (T53.setTop (mkF m 71 #[.val (.int p0_0), .val (.int (4 : Int32)), .val (.ref b2), .val (.int (1 : Int32))] [(.int (1 : Int32)), (.int (1 : Int32))])) _
      refine XS.icmpNo X53.here hx rfl (hb hby at_71) rfl (teq (by decide : (1 : Int32) = (1 : Int32))).2 ?_
      show Steps p.tables e below (T53.setTop (mkF m 74 #[.val (.int p0_0), .val (.int (4 : Int32)), .val (.ref b2), .val (.int (1 : Int32))] [])) _
      refine XS.iconst X53.here hx rfl (hb hby at_74) ?_
      show Steps p.tables e below (T53.setTop (mkF m 75 #[.val (.int p0_0), .val (.int (4 : Int32)), .val (.ref b2), .val (.int (1 : Int32))] [(.int (1 : Int32))])) _
      refine XS.goto X53.here hx rfl (pc0 := 75) (pc' := 79) rfl (hb hby at_75) (by decide) (by decide) ?_
      show Steps p.tables e below (T53.setTop (mkF m 79 #[.val (.int p0_0), .val (.int (4 : Int32)), .val (.ref b2), .val (.int (1 : Int32))] [(.int (1 : Int32))])) _
      exact retN X53 hx (t := .boolean) Bd.returns (by simp) (hb hby at_79) hr
    · exact ⟨rfl, N53⟩
set_option maxRecDepth 65536 in
set_option maxHeartbeats 40000000 in
theorem comes_1 {Post : Tables → Env → Array Value → State → Outcome → State → Prop} (hpost : ∀ tb e args s v u, (limb_1_1.after args s (.returned v) u = true ∧ limb_1_2.after args s (.returned v) u = true ∧ True) → FrameEnd s (.returned v) u (Jvm.fieldLocs frame_1_writes args s ++ Jvm.arrayLocs frame_1_arrays args s ++ Jvm.staticLocs frame_1_statics s) 16 128 → Post tb e args s (.returned v) u) :
    ArmFor flags0 classFile x code maxLocals ret World_1 tables_1 room_1 Calls_1 rest_1 Pre_1 Post := by
  intro l hfl _ _ p e ha hc hk s m args below hf hA hF happ hP
  obtain ⟨hcalls, hrest, hpre⟩ := hP
  obtain ⟨-, -, -, hnamed, -, -, -, hat⟩ := (Spec.applies_iff hf).mp happ
  obtain ⟨hg, hn⟩ := and_e (Cond.before_iff.mp (show (Jvm.Cond.and given_1 narrow_1).before args s = true from hpre))
  obtain ⟨g1, g2⟩ := and_e hg
  obtain ⟨w0, rfl⟩ : ∃ w0 : Value, args = #[w0] := by
    have hs : args.size = 1 := by simpa [Cond.value, given_1] using g1
    obtain ⟨L⟩ := args
    match L, hs with
    | [w0], _ => exact ⟨w0, rfl⟩
  have hw := fun d (hd : d ∈ tables_1) => atoms_spec (ws := Jvm.Cond.code x code maxLocals ret :: tables_1) hat d (List.mem_cons_of_mem _ hd)
  have hfit : Fit s := fun {y c} hc i hi => by
    obtain ⟨ha, rfl⟩ := Array.getElem?_eq_some_iff.mp hc
    have q := List.all_eq_true.mp ((Array.all_eq_true_iff_forall_mem.mp hF) _ (Array.getElem_mem ha)) i (List.mem_range.mpr hi)
    simpa [Array.getElem?_eq_getElem hi] using q
  obtain ⟨i0, ei0⟩ := is_v g2
  obtain rfl : w0 = (.int i0) := Option.some.inj ei0
  obtain ⟨nl0, nr0⟩ := and_e hn
  obtain ⟨nl1, nr1⟩ := and_e nr0
  obtain ⟨nl2, nr2⟩ := and_e nr1
  obtain ⟨nl3, nr3⟩ := and_e nr2
  obtain ⟨nl4, nr4⟩ := and_e nr3
  obtain ⟨nl5, nr5⟩ := and_e nr4
  obtain ⟨nl6, nr6⟩ := and_e nr5
  obtain ⟨nl7, nr7⟩ := and_e nr6
  obtain ⟨nl8, nr8⟩ := and_e nr7
  obtain ⟨s_SALE, es_SALE⟩ := exa_v nl0
  have E_SALE := Exa.start es_SALE nl0
  have S_SALE := Sta.start es_SALE (Or.inr ⟨(ow4 hw), (ow5 hw)⟩)
  have F_SALE : Fld s s.heap s_SALE "java/lang/Enum" "ordinal" "I" (.int (0 : Int32)) := own_ord es_SALE nl5
  obtain ⟨s_BALANCE, es_BALANCE⟩ := exa_v nl1
  have E_BALANCE := Exa.start es_BALANCE nl1
  have S_BALANCE := Sta.start es_BALANCE (Or.inr ⟨(ow4 hw), (ow8 hw)⟩)
  have F_BALANCE : Fld s s.heap s_BALANCE "java/lang/Enum" "ordinal" "I" (.int (1 : Int32)) := own_ord es_BALANCE nl7
  obtain ⟨s_HOLD, es_HOLD⟩ := exa_v nl2
  have E_HOLD := Exa.start es_HOLD nl2
  have S_HOLD := Sta.start es_HOLD (Or.inr ⟨(ow4 hw), (ow10 hw)⟩)
  have F_HOLD : Fld s s.heap s_HOLD "java/lang/Enum" "ordinal" "I" (.int (2 : Int32)) := own_ord es_HOLD nr8
  obtain ⟨s_REFUND, es_REFUND⟩ := exa_v nl3
  have E_REFUND := Exa.start es_REFUND nl3
  have S_REFUND := Sta.start es_REFUND (Or.inr ⟨(ow4 hw), (ow12 hw)⟩)
  have F_REFUND : Fld s s.heap s_REFUND "java/lang/Enum" "ordinal" "I" (.int (3 : Int32)) := own_ord es_REFUND nl6
  obtain ⟨s_DISPUTE, es_DISPUTE⟩ := exa_v nl4
  have E_DISPUTE := Exa.start es_DISPUTE nl4
  have S_DISPUTE := Sta.start es_DISPUTE (Or.inr ⟨(ow4 hw), (ow14 hw)⟩)
  have F_DISPUTE : Fld s s.heap s_DISPUTE "java/lang/Enum" "ordinal" "I" (.int (4 : Int32)) := own_ord es_DISPUTE nl8
  obtain ⟨n, o, h1, h2, h3, _, L, rfl, ⟨rfl, N⟩, hq⟩ := rm0 l s _ hw tables_1 i0 s_SALE s_BALANCE s_HOLD s_REFUND s_DISPUTE s.heap s.heap.size (Nat.le_refl _) S_SALE E_SALE F_SALE S_BALANCE E_BALANCE F_BALANCE S_HOLD E_HOLD F_HOLD S_REFUND E_REFUND F_REFUND S_DISPUTE E_DISPUTE F_DISPUTE p e ha hc hk s m _ below hf ((Spec.applies_iff_loose hf).mp happ).1 ⟨rfl, State.Warmed39.refl s, rfl⟩ trivial
  refine ⟨n, _, h1, h2, h3, hpost _ _ _ _ _ _ ⟨Cond.after_iff.mpr rfl, Cond.after_iff.mpr (eq_i res_at (Term.int_eval (1)) rfl), trivial⟩ ⟨hq.1, hq.2.1, (hq.2.2.sift fun y hy => Or.inr (N y hy)).mono (by decide) (by decide)⟩⟩
theorem main_1_1 : Claimed_1_1 := comes_1 fun _ _ _ _ _ _ h hF => ⟨h.1, hF⟩
theorem main_1_2 : Claimed_1_2 := comes_1 fun _ _ _ _ _ _ h hF => ⟨h.2.1, hF⟩
end Jvm.Pilot.@@N@@
namespace Jvm.Pilot.@@N@@
open Jvm Jvm.ClassFile Sem Op Lib Jvm.Free Jvm.Stand Jvm.Pilot.@@N@@.Jvm.D
/-! MADE BY PROGRAM (witnessworld.py) out of the Statement's table words and the real class files: 14 classes; the members and pool entries that the words name. The judged class is class 1, her method 1. -/
namespace start1
open Jvm.ClassFile
def u (s : String) : CpInfo := .utf8 (stringToUtf16 s)
/-- a pool by its gaps: so many unusable entries, then the entry; so many at the end -/
def gap : Nat → List CpInfo → List CpInfo
  | 0, r => r
  | n + 1, r => .unusable :: gap n r
def poolList (es : List (Nat × CpInfo)) (last : Nat) : List CpInfo := es.foldr (fun e r => gap e.1 (e.2 :: r)) (gap last [])
def pool (es : List (Nat × CpInfo)) (last : Nat) : Array CpInfo := ⟨poolList es last⟩
def fileOf (pool : Array CpInfo) (this : Nat) (attrs : Array Attribute := #[]) (ms : Array MethodInfo := #[]) (fl : Nat := 33) (sup : Nat := 0) (ifs : Array Nat := #[]) (fds : Array FieldInfo := #[]) : ClassFile where
  minorVersion := 0
  majorVersion := 65
  constantPool := pool
  accessFlags := fl
  thisClass := this
  superClass := sup
  interfaces := ifs
  fields := fds
  methods := ms
  attributes := attrs
def plain (name : String) (sup : Option ClassId) : Class where
  name := name
  kind := .ordinary
  loader := none
  accessFlags := 33
  super := sup
  interfaces := #[]
  cf := none
  fields := #[]
  methods := #[]
  instanceTypes := #[]
  staticTypes := #[]
  resolved := #[]
  callSites := []
  init := .initialized
  statics := none
  mirror := none

def pool0 : Array CpInfo := pool [(5, u "<init>"), (0, u "()V"), (1, .class_ 10), (1, u "java/lang/Object")] 113

def k0m0 : Method := { name := "<init>", desc := "()V", sig := { parameters := [], returnType := none }, accessFlags := 1, code := none }
/-- java/lang/Object -/
def k0 : Class := { plain "java/lang/Object" none with
  accessFlags := 33
  interfaces := #[]
  cf := some (fileOf pool0 8 #[] #[{ accessFlags := 1, nameIndex := 5, descriptorIndex := 6, attributes := #[] }] 33 0 #[] #[])
  fields := #[]
  methods := #[k0m0]
  instanceTypes := #[]
  staticTypes := #[]
  resolved := Array.replicate 124 none
  statics := none }

def pool1 : Array CpInfo := pool [(2, .class_ 4), (1, u "java/lang/Object"), (0, u "<init>"), (0, u "()V"), (0, .integer 2147483647), (0, .class_ 9), (0, u "com/example/holdback/holdback/model/EventKind"), (0, .fieldref 8 11), (0, .nameAndType 12 13), (0, u "SALE"), (0, u "Lcom/example/holdback/holdback/model/EventKind;"), (0, .fieldref 8 15), (0, .nameAndType 16 13), (0, u "BALANCE"), (0, .fieldref 8 18), (0, .nameAndType 19 13), (0, u "HOLD"), (0, .fieldref 8 21), (0, .nameAndType 22 13), (0, u "REFUND"), (0, .fieldref 8 24), (0, .nameAndType 25 13), (0, u "DISPUTE"), (0, .methodref 8 27), (0, .nameAndType 28 29), (0, u "takesBack"), (0, u "()Z"), (0, .class_ 31), (0, u "com/example/holdback/holdback/model/EventKindTakesBackPinLaw"), (2, u "law"), (0, u "(I)Z")] 5

def k1m0 : Method := { name := "<init>", desc := "()V", sig := { parameters := [], returnType := none }, accessFlags := 1, code := none }
def k1c1 : Code := { maxStack := 4, maxLocals := 4, code := code, exceptionTable := #[], attributes := #[] }
def k1m1 : Method := { name := "law", desc := "(I)Z", sig := { parameters := [.int], returnType := some .boolean }, accessFlags := 9, code := some k1c1 }
/-- com/example/holdback/holdback/model/EventKindTakesBackPinLaw -/
def k1 : Class := { plain "com/example/holdback/holdback/model/EventKindTakesBackPinLaw" (some 0) with
  accessFlags := 49
  interfaces := #[]
  cf := some (fileOf pool1 30 #[] #[{ accessFlags := 1, nameIndex := 5, descriptorIndex := 6, attributes := #[] }, { accessFlags := 9, nameIndex := 34, descriptorIndex := 35, attributes := #[] }] 49 2 #[] #[])
  fields := #[]
  methods := #[k1m0, k1m1]
  instanceTypes := #[]
  staticTypes := #[]
  resolved := Array.replicate 41 none
  statics := none }

def pool2 : Array CpInfo := pool [(1, .class_ 2), (0, u "java/lang/constant/Constable"), (0, .class_ 4), (0, u "java/lang/Object")] 6

/-- java/lang/constant/Constable -/
def k2 : Class := { plain "java/lang/constant/Constable" (some 0) with
  accessFlags := 1537
  interfaces := #[]
  cf := some (fileOf pool2 1 #[] #[] 1537 3 #[] #[])
  fields := #[]
  methods := #[]
  instanceTypes := #[]
  staticTypes := #[]
  resolved := Array.replicate 11 none
  statics := none }

def pool3 : Array CpInfo := pool [(1, .class_ 2), (0, u "java/lang/Comparable"), (0, .class_ 4), (0, u "java/lang/Object")] 7

/-- java/lang/Comparable -/
def k3 : Class := { plain "java/lang/Comparable" (some 0) with
  accessFlags := 1537
  interfaces := #[]
  cf := some (fileOf pool3 1 #[] #[] 1537 3 #[] #[])
  fields := #[]
  methods := #[]
  instanceTypes := #[]
  staticTypes := #[]
  resolved := Array.replicate 12 none
  statics := none }

def pool4 : Array CpInfo := pool [(1, .class_ 2), (0, u "java/io/Serializable"), (0, .class_ 4), (0, u "java/lang/Object")] 2

/-- java/io/Serializable -/
def k4 : Class := { plain "java/io/Serializable" (some 0) with
  accessFlags := 1537
  interfaces := #[]
  cf := some (fileOf pool4 1 #[] #[] 1537 3 #[] #[])
  fields := #[]
  methods := #[]
  instanceTypes := #[]
  staticTypes := #[]
  resolved := Array.replicate 7 none
  statics := none }

def pool5 : Array CpInfo := pool [(2, .class_ 4), (1, u "java/lang/Enum"), (0, u "name"), (0, u "Ljava/lang/String;"), (0, .fieldref 2 8), (0, .nameAndType 9 10), (0, u "ordinal"), (0, u "I"), (1, .class_ 14), (1, u "java/lang/Object"), (4, u "hash"), (86, .class_ 108), (1, u "java/lang/Enum$EnumDesc"), (2, .class_ 112), (0, u "java/lang/constant/Constable"), (0, .class_ 114), (0, u "java/lang/Comparable"), (0, .class_ 116), (0, u "java/io/Serializable"), (9, u "()I")] 77

def k5c0 : Code := { maxStack := 1, maxLocals := 1, code := jdk_37_method_2_code, exceptionTable := #[], attributes := #[] }
def k5m0 : Method := { name := "ordinal", desc := "()I", sig := { parameters := [], returnType := some .int }, accessFlags := 17, code := some k5c0 }
/-- java/lang/Enum -/
def k5 : Class := { plain "java/lang/Enum" (some 0) with
  accessFlags := 1057
  interfaces := #[2, 3, 4]
  cf := some (fileOf pool5 2 #[.nestMembers #[106]] #[{ accessFlags := 17, nameIndex := 9, descriptorIndex := 126, attributes := #[] }] 1057 12 #[111, 113, 115] #[{ accessFlags := 18, nameIndex := 5, descriptorIndex := 6, attributes := #[] }, { accessFlags := 18, nameIndex := 9, descriptorIndex := 10, attributes := #[] }, { accessFlags := 2, nameIndex := 19, descriptorIndex := 10, attributes := #[] }])
  fields := #[{ name := "name", type := (.object "java/lang/String"), accessFlags := 18, slot := 0, constantValue := 0 }, { name := "ordinal", type := .int, accessFlags := 18, slot := 1, constantValue := 0 }, { name := "hash", type := .int, accessFlags := 2, slot := 2, constantValue := 0 }]
  methods := #[k5m0]
  instanceTypes := #[(.object "java/lang/String"), .int, .int]
  staticTypes := #[]
  resolved := Array.replicate 204 none
  statics := none }

def pool6 : Array CpInfo := pool [(9, .class_ 10), (0, u "com/example/holdback/holdback/model/FileNamed"), (20, .class_ 32), (0, u "java/lang/Object")] 9

/-- com/example/holdback/holdback/model/FileNamed -/
def k6 : Class := { plain "com/example/holdback/holdback/model/FileNamed" (some 0) with
  accessFlags := 1537
  interfaces := #[]
  cf := some (fileOf pool6 9 #[] #[] 1537 31 #[] #[])
  fields := #[]
  methods := #[]
  instanceTypes := #[]
  staticTypes := #[]
  resolved := Array.replicate 42 none
  statics := none }

def pool7 : Array CpInfo := pool [(1, .class_ 2), (0, u "com/example/holdback/holdback/model/EventKind"), (2, u "SALE"), (0, u "Lcom/example/holdback/holdback/model/EventKind;"), (2, u "BALANCE"), (2, u "HOLD"), (2, u "REFUND"), (2, u "DISPUTE"), (2, u "$VALUES"), (0, u "[Lcom/example/holdback/holdback/model/EventKind;"), (6, .class_ 31), (1, u "java/lang/Enum"), (8, u "fileName"), (0, u "Ljava/lang/String;"), (0, .methodref 1 43), (0, .nameAndType 44 45), (0, u "ordinal"), (0, u "()I"), (27, .class_ 74), (0, u "com/example/holdback/holdback/model/FileNamed"), (8, u "takesBack"), (0, u "()Z")] 6

def k7c0 : Code := { maxStack := 4, maxLocals := 1, code := prog_17_method_5_code, exceptionTable := #[], attributes := #[] }
def k7m0 : Method := { name := "takesBack", desc := "()Z", sig := { parameters := [], returnType := some .boolean }, accessFlags := 1, code := some k7c0 }
/-- com/example/holdback/holdback/model/EventKind -/
def k7 : Class := { plain "com/example/holdback/holdback/model/EventKind" (some 5) with
  accessFlags := 16433
  interfaces := #[6]
  cf := some (fileOf pool7 1 #[] #[{ accessFlags := 1, nameIndex := 83, descriptorIndex := 84, attributes := #[] }] 16433 29 #[73] #[{ accessFlags := 16409, nameIndex := 5, descriptorIndex := 6, attributes := #[] }, { accessFlags := 16409, nameIndex := 9, descriptorIndex := 6, attributes := #[] }, { accessFlags := 16409, nameIndex := 12, descriptorIndex := 6, attributes := #[] }, { accessFlags := 16409, nameIndex := 15, descriptorIndex := 6, attributes := #[] }, { accessFlags := 16409, nameIndex := 18, descriptorIndex := 6, attributes := #[] }, { accessFlags := 18, nameIndex := 40, descriptorIndex := 41, attributes := #[] }, { accessFlags := 4122, nameIndex := 21, descriptorIndex := 22, attributes := #[] }])
  fields := #[{ name := "SALE", type := (.object "com/example/holdback/holdback/model/EventKind"), accessFlags := 16409, slot := 0, constantValue := 0 }, { name := "BALANCE", type := (.object "com/example/holdback/holdback/model/EventKind"), accessFlags := 16409, slot := 1, constantValue := 0 }, { name := "HOLD", type := (.object "com/example/holdback/holdback/model/EventKind"), accessFlags := 16409, slot := 2, constantValue := 0 }, { name := "REFUND", type := (.object "com/example/holdback/holdback/model/EventKind"), accessFlags := 16409, slot := 3, constantValue := 0 }, { name := "DISPUTE", type := (.object "com/example/holdback/holdback/model/EventKind"), accessFlags := 16409, slot := 4, constantValue := 0 }, { name := "fileName", type := (.object "java/lang/String"), accessFlags := 18, slot := 3, constantValue := 0 }, { name := "$VALUES", type := (.array (.object "com/example/holdback/holdback/model/EventKind")), accessFlags := 4122, slot := 5, constantValue := 0 }]
  methods := #[k7m0]
  instanceTypes := #[(.object "java/lang/String"), .int, .int, (.object "java/lang/String")]
  staticTypes := #[(.object "com/example/holdback/holdback/model/EventKind"), (.object "com/example/holdback/holdback/model/EventKind"), (.object "com/example/holdback/holdback/model/EventKind"), (.object "com/example/holdback/holdback/model/EventKind"), (.object "com/example/holdback/holdback/model/EventKind"), (.array (.object "com/example/holdback/holdback/model/EventKind"))]
  resolved := Array.replicate 91 none
  statics := some 0 }

def pool8 : Array CpInfo := pool [(1, u "java/lang/Cloneable"), (0, .class_ 1), (0, u "java/lang/Object"), (0, .class_ 3)] 3

/-- java/lang/Cloneable -/
def k8 : Class := { plain "java/lang/Cloneable" (some 0) with
  accessFlags := 1537
  interfaces := #[]
  cf := some (fileOf pool8 2 #[] #[] 1537 4 #[] #[])
  fields := #[]
  methods := #[]
  instanceTypes := #[]
  staticTypes := #[]
  resolved := Array.replicate 8 none
  statics := none }

/-- the primitive byte -/
def k9 : Class := { plain "byte" none with kind := .primitive 'B', accessFlags := 0x411 }
/-- [B -/
def k10 : Class := { plain "[B" (some 0) with kind := .array 9 .byte, interfaces := #[8, 4], accessFlags := 1041 }

/-- the primitive int -/
def k11 : Class := { plain "int" none with kind := .primitive 'I', accessFlags := 0x411 }
/-- [I -/
def k12 : Class := { plain "[I" (some 0) with kind := .array 11 .int, interfaces := #[8, 4], accessFlags := 1041 }

/-- [Lcom/example/holdback/holdback/model/EventKind; -/
def k13 : Class := { plain "[Lcom/example/holdback/holdback/model/EventKind;" (some 0) with kind := .array 7 (.object "com/example/holdback/holdback/model/EventKind"), interfaces := #[8, 4], accessFlags := 1041 }

def heap : Heap := #[{ cls := 7, slots := #[.ref 1, .ref 2, .ref 3, .ref 4, .ref 5, .null], vm := .statics 7 },
  { cls := 7, slots := #[.null, .int 0, .int 0, .null], vm := .none },
  { cls := 7, slots := #[.null, .int 1, .int 0, .null], vm := .none },
  { cls := 7, slots := #[.null, .int 2, .int 0, .null], vm := .none },
  { cls := 7, slots := #[.null, .int 3, .int 0, .null], vm := .none },
  { cls := 7, slots := #[.null, .int 4, .int 0, .null], vm := .none }]
def classes : Array Class := #[k0, k1, k2, k3, k4, k5, k6, k7, k8, k9, k10, k11, k12, k13]
def interned : List (Array UInt16 × Addr) := []
def slotsUsed : Nat := 26
def theMethod : MethodId := ⟨1, 1⟩
def args0 : Array Value := #[.int 5]
def aboutOver (below : List Frame) : State where
  vm := { classes := classes, interned := interned.toArray }
  heap := heap
  slotsUsed := slotsUsed
  threads := #[{ frames := .invoking theMethod args0 :: below }]
def below0 : List Frame := [.native { method := ⟨0, 0⟩, args := #[] }]
def about1 : State := aboutOver below0
def p0 : Program := .bare "" "" ""
def e0 : Env := launch0.env 0 0 0
theorem w_frames : about1.frames = Frame.invoking theMethod args0 :: below0 := rfl
set_option maxRecDepth 65536 in
theorem w_args : argsFit about1.vm theMethod args0 = true := by decide +kernel
set_option maxRecDepth 65536 in
theorem w_heap : heapFits about1 = true := by decide +kernel
set_option maxRecDepth 65536 in
theorem w_runnable : about1.curStatus? = some .runnable := by decide +kernel
set_option maxRecDepth 65536 in
theorem w_alone : about1.alone = true := by decide +kernel
set_option maxRecDepth 65536 in
theorem w_named : about1.methodNamed? x = some theMethod := by decide +kernel
set_option maxRecDepth 65536 in
theorem w_hears : about1.hears theMethod below0 = true := by decide +kernel
set_option maxRecDepth 65536 in
theorem w_ripe : about1.ripe theMethod args0 below0 = true := by decide +kernel
theorem w_running : about1.status = .running := rfl
set_option maxRecDepth 65536 in
theorem w_room : about1.hasRoom e0.platform room_1 = true :=
  launch0.hasRoom_least _ room_1 (by decide +kernel) (by decide +kernel) (by decide +kernel) (by decide +kernel) (by decide +kernel) (by decide +kernel)
theorem allAtoms_all (ts : List Jvm.Cond) (a : Array Jvm.Value) (st : Jvm.State) : (allAtoms ts).before a st = ts.all (fun c => c.before a st) := by
  induction ts with
  | nil => rfl
  | cons c t ih =>
    show (Jvm.Cond.and c (allAtoms t)).before a st = _
    rw [Jvm.Cond.before_and, ih, List.all_cons]
def words1 : List Jvm.Cond := Jvm.Cond.code x code maxLocals ret :: tables_1
/-- a 'code' word, met by the world's own term for the bytes: nothing is compared byte by byte -/
theorem code_word {y : MethodName} {bytes : ByteArray} {mx : Nat} {rt : Option FieldType} {a : Array Value} {s : State} {m : MethodId} {meth : Method} {c : Code} (h1 : s.methodNamed? y = some m) (h2 : s.vm.method? m = some meth) (h3 : meth.code = some c) (h4 : c.code = bytes)
    (h5 : (c.maxLocals == mx && c.exceptionTable.isEmpty && decide (c.maxStack ≤ mostOperands) && decide (meth.sig.returnType = rt) && !meth.locks && decide (parseMethodDescriptor y.desc = some meth.sig)) = true) : (Jvm.Cond.code y bytes mx rt).before a s = true := by
  simp only [Bool.and_eq_true, beq_iff_eq, Bool.not_eq_true', decide_eq_true_eq] at h5
  obtain ⟨⟨⟨⟨⟨g1, g2⟩, g3⟩, g4⟩, g5⟩, g6⟩ := h5
  simp [Cond.before, Cond.holds, Cond.value, h1, h2, h3, h4, g1, g2, g3, g4, g5, g6]
def isCode : Jvm.Cond → Bool
  | .code _ _ _ _ => true
  | _ => false
theorem all_split {L : List Jvm.Cond} {P : Jvm.Cond → Bool} (h1 : L.all (fun c => isCode c || P c) = true) (h2 : ∀ c ∈ L.filter isCode, P c = true) : L.all P = true := by
  refine List.all_eq_true.mpr fun c hc => ?_
  have h := List.all_eq_true.mp h1 c hc
  rcases Bool.eq_false_or_eq_true (isCode c) with hi | hi
  · exact h2 c (List.mem_filter.mpr ⟨hc, hi⟩)
  · simpa [hi] using h
set_option maxRecDepth 65536 in
theorem w_c0 : (Jvm.Cond.code x code maxLocals ret).before args0 about1 = true := code_word (m := ⟨1, 1⟩) (meth := k1m1) (c := k1c1) (by decide +kernel) rfl rfl rfl (by decide +kernel)
set_option maxRecDepth 65536 in
theorem w_c1 : (Jvm.Cond.code ({ cls := "com/example/holdback/holdback/model/EventKind", name := "takesBack", desc := "()Z" } : Jvm.MethodName) prog_17_method_5_code (1 : Nat) (Option.some Jvm.ClassFile.FieldType.boolean)).before args0 about1 = true := code_word (m := ⟨7, 0⟩) (meth := k7m0) (c := k7c0) (by decide +kernel) rfl rfl rfl (by decide +kernel)
set_option maxRecDepth 65536 in
theorem w_c2 : (Jvm.Cond.code ({ cls := "java/lang/Enum", name := "ordinal", desc := "()I" } : Jvm.MethodName) jdk_37_method_2_code (1 : Nat) (Option.some Jvm.ClassFile.FieldType.int)).before args0 about1 = true := code_word (m := ⟨5, 0⟩) (meth := k5m0) (c := k5c0) (by decide +kernel) rfl rfl rfl (by decide +kernel)
def codes1 : List Jvm.Cond := [Jvm.Cond.code x code maxLocals ret, Jvm.Cond.code ({ cls := "com/example/holdback/holdback/model/EventKind", name := "takesBack", desc := "()Z" } : Jvm.MethodName) prog_17_method_5_code (1 : Nat) (Option.some Jvm.ClassFile.FieldType.boolean), Jvm.Cond.code ({ cls := "java/lang/Enum", name := "ordinal", desc := "()I" } : Jvm.MethodName) jdk_37_method_2_code (1 : Nat) (Option.some Jvm.ClassFile.FieldType.int)]
set_option maxRecDepth 65536 in
theorem codes_eq : words1.filter isCode = codes1 := rfl
theorem w_codes : ∀ c ∈ words1.filter isCode, c.before args0 about1 = true := by
  rw [codes_eq]
  intro c hc
  simp only [codes1, List.mem_cons, List.not_mem_nil, or_false] at hc
  rcases hc with rfl | rfl | rfl
  · exact w_c0
  · exact w_c1
  · exact w_c2
set_option maxRecDepth 65536 in
theorem w_t1 : (words1.take 24).all (fun c => isCode c || c.before args0 about1) = true := by decide +kernel
set_option maxRecDepth 65536 in
theorem w_t2 : (words1.drop 24).all (fun c => isCode c || c.before args0 about1) = true := by decide +kernel
theorem w_tables : (allAtoms (Jvm.Cond.code x code maxLocals ret :: tables_1)).before args0 about1 = true := by
  rw [allAtoms_all]
  show words1.all (fun c => c.before args0 about1) = true
  refine all_split ?_ w_codes
  rw [← List.take_append_drop 24 words1, List.all_append, w_t1, w_t2]
  rfl
set_option maxRecDepth 65536 in
theorem w_case : (Jvm.Cond.and given_1 narrow_1).before args0 about1 = true := by decide +kernel
theorem w_applies : (headSpec (Jvm.Cond.code x code maxLocals ret :: tables_1) room_1).applies x e0.platform about1 = true :=
  (Spec.applies_iff w_frames).mpr ⟨w_running, w_runnable, w_alone, w_named, w_hears, w_ripe, w_room, w_tables⟩
theorem atStart : AtStart classFile x code maxLocals ret World_1 tables_1 room_1 Calls_1 rest_1 Pre_1 launch0 p0 e0 about1 theMethod args0 below0 :=
  ⟨lists_1, trivial, launch0.admits_env _ _ _, launch0.least_env, fairChoices_fair.cas, fairChoices_fair.clock, w_frames, w_args, w_heap, w_applies, trivial, trivial, w_case⟩
end start1
theorem witness_1 : WitnessClaimed_1 := ⟨start1.p0, start1.e0, start1.about1, start1.theMethod, start1.args0, start1.below0, start1.atStart⟩
end Jvm.Pilot.@@N@@
