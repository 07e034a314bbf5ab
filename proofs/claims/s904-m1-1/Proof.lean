import JvmDerived
import JvmDerived.Pilot.@@N@@Statement
import JvmDerived.Pilot.@@N@@Code
set_option linter.unusedVariables false
set_option linter.unusedSimpArgs false
namespace Jvm.RoadKit
open Sem ClassFile Op Lib Jvm.Stand Jvm.Free Jvm.LawKit
section New
variable {p : Program} {l : Launch} {e : Env} {R : Room} {s : State} {m : MethodId} {args : Array Value} {below : List Frame} {meth : Method} {c : Code} {T : State} {locs : List Loc} {cells slots : Nat}
theorem retI (X : Stand p l e R s m args below meth c T locs cells slots) (hx : p.tables.exec = Jvm.exec) {pc : Nat} {Ls : Array Slot} {z : Int32} {rest : List Value} (hret : meth.sig.returnType = some .int) (hd : decode c.code pc = .ok (.ireturn, 1)) {fs : List Frame}
    (hl : ∀ (f : JFrame) (acts : List Action), f.method = m → f.locked = none → f.entered = [] → (doReturn e (T.setTop f) acts (some (.int z))).1 = T.setFrames fs) : Steps p.tables e below (T.setTop (mkF m pc Ls (.int z :: rest))) (T.setFrames fs) := by
  have hm' : T.vm.method? m = some meth := X.method'
  have hn : narrow .int (.int z) = .int z := rfl
  show Steps p.tables e below (T.setTop { method := m, pc := pc, locals := Ls, stack := _ :: rest, locked := none }) _
  jvm_step X.here [X.here.top, hx, hd, hm', hret, hn]
  first | (intro acts; rw [hl _ acts rfl rfl rfl]) | rw [hl _ _ rfl rfl rfl]
  exact Steps.refl _
theorem own_join {n0 : Nat} (X : Stand p l e R s m args below meth c T locs cells slots) (N : Fr n0 locs) {h : Heap} (g g' : JFrame)
    (H : ∃ (T' : State) (locs' : List Loc), Stand p l e R s m args below meth c T' locs' cells slots ∧ Fr n0 locs' ∧ T'.heap = h ∧ ∀ t, Steps p.tables e below (T'.setTop g') t → Steps p.tables e below (T.setTop g) t) :
    ∃ (T' : State) (locs' : List Loc), Stand p l e R s m args below meth c T' locs' cells slots ∧ Fr n0 locs' ∧ T'.heap = h ∧ ∀ t, Steps p.tables e below (T'.setTop g') t → Steps p.tables e below (T.setTop g) t := H
theorem own_mono (X : Stand p l e R s m args below meth c T locs cells slots) {c' s' : Nat} (h1 : cells ≤ c') (h2 : slots ≤ s') : Stand p l e R s m args below meth c T locs c' s' :=
  ⟨X.admits, X.cas, X.clock, X.frames, X.room, X.hears, X.method, X.code, X.here, X.tail, X.warmed, X.limits, X.bytes, X.same.mono h1 h2⟩
theorem own_lrem {g : JFrame} {target : State} (X : Stand p l e R s m args below meth c T locs cells slots) (hx : p.tables.exec = Jvm.exec) (hg : g.method = m) {x y : Int64} {rest : List Value} (hd : decode c.code g.pc = .ok (.lrem, 1)) (hs : g.stack = .long y :: .long x :: rest) (hy : y ≠ 0)
    (hr : Steps p.tables e below (T.setTop { g with pc := g.pc + 1, stack := .long (x % y) :: rest }) target) : Steps p.tables e below (T.setTop g) target :=
  Jvm.Free.XS.lrem X.here hx hg hd hs hy (by rw [lrem_mod x y]; exact hr)
def Bya (Z : State) (h : Heap) (a : Addr) (z : Int32) (f : Int32 → Int32) : Prop := ∃ c : Cell, Arr Z h a c .byte ∧ c.slots.size = z.toNatClampNeg ∧ ∀ j : Int32, ¬ j < 0 → j < z → c.slots[j.toNatClampNeg]? = some (.int (f j))
theorem Bya.lt {Z : State} {h : Heap} {a : Addr} {z : Int32} {f : Int32 → Int32} (F : Bya Z h a z f) : a < h.size := by obtain ⟨c, A, -⟩ := F; exact A.lt
theorem Bya.ext {Z : State} {h h' : Heap} {a : Addr} {z : Int32} {f : Int32 → Int32} (F : Bya Z h a z f) (E : Ext h h') : Bya Z h' a z f := by obtain ⟨c, A, r⟩ := F; exact ⟨c, A.ext E, r⟩
theorem Bya.other {Z : State} {h h' : Heap} {a b : Addr} {z : Int32} {f : Int32 → Int32} {sl : Nat} {v : Value} (F : Bya Z h b z f) (W : Wr h h' a sl v) (q : b ≠ a) : Bya Z h' b z f := by obtain ⟨c, A, r⟩ := F; exact ⟨c, A.other W q, r⟩
theorem Bya.keep {Z : State} {h h' : Heap} {a : Addr} {z : Int32} {f : Int32 → Int32} {ws : List Addr} (F : Bya Z h a z f) (K : Keep h h' ws) (q : a ∉ ws) : Bya Z h' a z f := by obtain ⟨c, A, r⟩ := F; exact ⟨c, ⟨K.2.1 a c A.1 q, A.2⟩, r⟩
theorem Bya.set {Z : State} {h h' : Heap} {a : Addr} {z j v : Int32} {f : Int32 → Int32} {c : Cell} (A : Arr Z h a c .byte) (S : c.slots.size = z.toNatClampNeg) (H : ∀ j : Int32, ¬ j < 0 → j < z → c.slots[j.toNatClampNeg]? = some (.int (f j))) (hj : ¬ j < 0 ∧ j < z) (W : Wr h h' a j.toNatClampNeg (.int v)) : Bya Z h' a z (fun i => if i = j then v else f i) := by
  refine ⟨_, A.same W, by rw [sz_set]; exact S, fun i h1 h2 => ?_⟩
  by_cases q : i = j
  · rw [get_hit (inb_of S hj) q]; simp [q]
  · rw [get_miss hj.1 h1 q, H i h1 h2]; simp [q]
theorem Bya.of_arv {Z : State} {h : Heap} {a : Addr} {k : ClassId} {z : Int32} {vs : List Value} {es : List Int32} (F : Arv Z h a k .byte z vs (.int (0 : Int32))) (e : vs = es.map Value.int) : Bya Z h a z (fun i => es.getD i.toNatClampNeg 0) := by
  obtain ⟨c, A, -, S, -, H, -⟩ := F
  refine ⟨c, A, S, fun j h1 h2 => ?_⟩
  refine H.at (inb_of S ⟨h1, h2⟩) ?_
  subst e
  simp only [List.getD_eq_getElem?_getD, List.getElem?_map]
  cases es[j.toNatClampNeg]? <;> rfl
theorem own_b1 {x : Int32} (h : x = 1) : ¬ x = 0 := by rw [h]; decide
theorem own_cons {α : Type} {a b : α} {l m : List α} (h1 : a = b) (h2 : l = m) : a :: l = b :: m := by rw [h1, h2]
theorem own_arv {Z : State} {h : Heap} {a : Addr} {k : ClassId} {ty : FieldType} {z : Int32} {vs ws : List Value} {d : Value} (A : Arv Z h a k ty z vs d) (q : ws = vs) : Arv Z h a k ty z ws d := q ▸ A
theorem own_fld {Z : State} {h : Heap} {a : Addr} {C n d : String} {v w : Value} (F : Fld Z h a C n d v) (q : w = v) : Fld Z h a C n d w := q ▸ F
end New
end Jvm.RoadKit
namespace Jvm.Pilot.@@N@@
open Jvm Jvm.ClassFile Sem Op Lib Jvm.Free Jvm.Stand Jvm.LawKit Jvm.RoadKit Bundle Jvm.Pilot.@@N@@.Jvm.D
theorem ow0 {Z : State} {a0 : Array Value} (hw : ∀ d ∈ tables_1, d.before a0 Z = true) : (Jvm.Cond.constant "com/example/mortise/mortise/join/RecordKeyHashPinLaw" (7 : Nat) (2147483647 : Int32)).before a0 Z = true := hw _ (List.mem_of_getElem? (i := 0) rfl)
theorem ow1 {Z : State} {a0 : Array Value} (hw : ∀ d ∈ tables_1, d.before a0 Z = true) : (Jvm.Cond.methodLink "com/example/mortise/mortise/join/RecordKeyHashPinLaw" (8 : Nat) ({ cls := "com/example/mortise/mortise/join/RecordKeyHashPinLaw", name := "fill", desc := "(J)[B" } : Jvm.MethodName)).before a0 Z = true := hw _ (List.mem_of_getElem? (i := 1) rfl)
theorem ow2 {Z : State} {a0 : Array Value} (hw : ∀ d ∈ tables_1, d.before a0 Z = true) : (Jvm.Cond.static ({ cls := "com/example/mortise/mortise/join/RecordKeyHashPinLaw", name := "fill", desc := "(J)[B" } : Jvm.MethodName)).before a0 Z = true := hw _ (List.mem_of_getElem? (i := 2) rfl)
theorem ow3 {Z : State} {a0 : Array Value} (hw : ∀ d ∈ tables_1, d.before a0 Z = true) : (Jvm.Cond.initialized "com/example/mortise/mortise/join/RecordKeyHashPinLaw").before a0 Z = true := hw _ (List.mem_of_getElem? (i := 3) rfl)
theorem ow4 {Z : State} {a0 : Array Value} (hw : ∀ d ∈ tables_1, d.before a0 Z = true) : (Jvm.Cond.code ({ cls := "com/example/mortise/mortise/join/RecordKeyHashPinLaw", name := "fill", desc := "(J)[B" } : Jvm.MethodName) method_2_code (3 : Nat) (Option.some (Jvm.ClassFile.FieldType.array Jvm.ClassFile.FieldType.byte))).before a0 Z = true := hw _ (List.mem_of_getElem? (i := 4) rfl)
theorem ow5 {Z : State} {a0 : Array Value} (hw : ∀ d ∈ tables_1, d.before a0 Z = true) : (Jvm.Cond.arrayClass Jvm.ClassFile.FieldType.byte).before a0 Z = true := hw _ (List.mem_of_getElem? (i := 5) rfl)
theorem ow6 {Z : State} {a0 : Array Value} (hw : ∀ d ∈ tables_1, d.before a0 Z = true) : (Jvm.Cond.methodLink "com/example/mortise/mortise/join/RecordKeyHashPinLaw" (14 : Nat) ({ cls := "com/example/mortise/mortise/join/RecordKeyHashPinLaw", name := "place", desc := "([BIJI)V" } : Jvm.MethodName)).before a0 Z = true := hw _ (List.mem_of_getElem? (i := 6) rfl)
theorem ow7 {Z : State} {a0 : Array Value} (hw : ∀ d ∈ tables_1, d.before a0 Z = true) : (Jvm.Cond.static ({ cls := "com/example/mortise/mortise/join/RecordKeyHashPinLaw", name := "place", desc := "([BIJI)V" } : Jvm.MethodName)).before a0 Z = true := hw _ (List.mem_of_getElem? (i := 7) rfl)
theorem ow8 {Z : State} {a0 : Array Value} (hw : ∀ d ∈ tables_1, d.before a0 Z = true) : (Jvm.Cond.code ({ cls := "com/example/mortise/mortise/join/RecordKeyHashPinLaw", name := "place", desc := "([BIJI)V" } : Jvm.MethodName) method_3_code (5 : Nat) (Option.none : Option Jvm.ClassFile.FieldType)).before a0 Z = true := hw _ (List.mem_of_getElem? (i := 8) rfl)
theorem ow9 {Z : State} {a0 : Array Value} (hw : ∀ d ∈ tables_1, d.before a0 Z = true) : (Jvm.Cond.methodLink "com/example/mortise/mortise/join/RecordKeyHashPinLaw" (18 : Nat) ({ cls := "com/example/mortise/mortise/join/Record", name := "keyHash", desc := "([BII)J" } : Jvm.MethodName)).before a0 Z = true := hw _ (List.mem_of_getElem? (i := 9) rfl)
theorem ow10 {Z : State} {a0 : Array Value} (hw : ∀ d ∈ tables_1, d.before a0 Z = true) : (Jvm.Cond.static ({ cls := "com/example/mortise/mortise/join/Record", name := "keyHash", desc := "([BII)J" } : Jvm.MethodName)).before a0 Z = true := hw _ (List.mem_of_getElem? (i := 10) rfl)
theorem ow11 {Z : State} {a0 : Array Value} (hw : ∀ d ∈ tables_1, d.before a0 Z = true) : (Jvm.Cond.initialized "com/example/mortise/mortise/join/Record").before a0 Z = true := hw _ (List.mem_of_getElem? (i := 11) rfl)
theorem ow12 {Z : State} {a0 : Array Value} (hw : ∀ d ∈ tables_1, d.before a0 Z = true) : (Jvm.Cond.code ({ cls := "com/example/mortise/mortise/join/Record", name := "keyHash", desc := "([BII)J" } : Jvm.MethodName) prog_36_method_9_code (6 : Nat) (Option.some Jvm.ClassFile.FieldType.long)).before a0 Z = true := hw _ (List.mem_of_getElem? (i := 12) rfl)
theorem ow13 {Z : State} {a0 : Array Value} (hw : ∀ d ∈ tables_1, d.before a0 Z = true) : (Jvm.Cond.constantLong "com/example/mortise/mortise/join/Record" (33 : Nat) (-3750763034362895579 : Int64)).before a0 Z = true := hw _ (List.mem_of_getElem? (i := 13) rfl)
theorem ow14 {Z : State} {a0 : Array Value} (hw : ∀ d ∈ tables_1, d.before a0 Z = true) : (Jvm.Cond.constantLong "com/example/mortise/mortise/join/Record" (35 : Nat) (1099511628211 : Int64)).before a0 Z = true := hw _ (List.mem_of_getElem? (i := 14) rfl)
theorem ow15 {Z : State} {a0 : Array Value} (hw : ∀ d ∈ tables_1, d.before a0 Z = true) : (Jvm.Cond.constantLong "com/example/mortise/mortise/join/Record" (37 : Nat) (-49064778989728563 : Int64)).before a0 Z = true := hw _ (List.mem_of_getElem? (i := 15) rfl)
theorem ow16 {Z : State} {a0 : Array Value} (hw : ∀ d ∈ tables_1, d.before a0 Z = true) : (Jvm.Cond.constantLong "com/example/mortise/mortise/join/Record" (39 : Nat) (-4265267296055464877 : Int64)).before a0 Z = true := hw _ (List.mem_of_getElem? (i := 16) rfl)
theorem own_ix0 {s : Int32} (h : ¬ s < 0 ∧ s < 8) : ¬ s < 0 ∧ s < 12 := by
  have h1 := h.1
  have h2 := h.2
  rw [Int32.lt_iff_toInt_lt, show (0 : Int32).toInt = 0 from by decide] at h1
  rw [Int32.lt_iff_toInt_lt, show (8 : Int32).toInt = 8 from by decide] at h2
  rw [Int32.lt_iff_toInt_lt, Int32.lt_iff_toInt_lt, show (0 : Int32).toInt = 0 from by decide, show (12 : Int32).toInt = 12 from by decide]; omega
theorem own_sum {s c : Int32} (h : ¬ s < 0 ∧ s < 8) (hc : ¬ c < 0 ∧ c < 5) : (s + c).toInt = s.toInt + c.toInt ∧ 0 ≤ s.toInt ∧ s.toInt < 8 ∧ 0 ≤ c.toInt ∧ c.toInt < 5 := by
  have h1 := h.1
  have h2 := h.2
  have h3 := hc.1
  have h4 := hc.2
  rw [Int32.lt_iff_toInt_lt, show (0 : Int32).toInt = 0 from by decide] at h1 h3
  rw [Int32.lt_iff_toInt_lt, show (8 : Int32).toInt = 8 from by decide] at h2
  rw [Int32.lt_iff_toInt_lt, show (5 : Int32).toInt = 5 from by decide] at h4
  have q := c_iadd s c
  have r := rng32 (s + c)
  omega
theorem own_ix {s c : Int32} (h : ¬ s < 0 ∧ s < 8) (hc : ¬ c < 0 ∧ c < 5) : ¬ (s + c) < 0 ∧ (s + c) < 12 := by
  obtain ⟨q, q1, q2, q3, q4⟩ := own_sum h hc
  rw [Int32.lt_iff_toInt_lt, Int32.lt_iff_toInt_lt, show (0 : Int32).toInt = 0 from by decide, show (12 : Int32).toInt = 12 from by decide]; omega
theorem own_ltT {s c d : Int32} (h : ¬ s < 0 ∧ s < 8) (hc : ¬ c < 0 ∧ c < 5) (hd : ¬ d < 0 ∧ d < 5) (q : c < d) : (s + c) < (s + d) := by
  obtain ⟨a1, -⟩ := own_sum h hc
  obtain ⟨a2, -⟩ := own_sum h hd
  rw [Int32.lt_iff_toInt_lt] at q ⊢; omega
theorem own_ltF {s c d : Int32} (h : ¬ s < 0 ∧ s < 8) (hc : ¬ c < 0 ∧ c < 5) (hd : ¬ d < 0 ∧ d < 5) (q : ¬ c < d) : ¬ (s + c) < (s + d) := by
  obtain ⟨a1, -⟩ := own_sum h hc
  obtain ⟨a2, -⟩ := own_sum h hd
  rw [Int32.lt_iff_toInt_lt] at q ⊢; omega
theorem own_ltT0 {s d : Int32} (h : ¬ s < 0 ∧ s < 8) (hd : ¬ d < 0 ∧ d < 5) (q : (0 : Int32) < d) : s < (s + d) := by
  have := own_ltT h (c := 0) (by decide) hd q; rwa [Int32.add_zero] at this
theorem own_ltF0 {s d : Int32} (h : ¬ s < 0 ∧ s < 8) (hd : ¬ d < 0 ∧ d < 5) (q : ¬ (0 : Int32) < d) : ¬ s < (s + d) := by
  have := own_ltF h (c := 0) (by decide) hd q; rwa [Int32.add_zero] at this
theorem own_asa (a b c : Int32) : a + b - c = a + (b - c) := by rw [Int32.sub_eq_add_neg, Int32.sub_eq_add_neg, Int32.add_assoc]
theorem own_last {s c d : Int32} (h : ¬ s < 0 ∧ s < 8) (hd : ¬ d < 0 ∧ d < 5) (q : c - (1 : Int32) = d) : ¬ ((s + c) - (1 : Int32)) < 0 ∧ ((s + c) - (1 : Int32)) < 12 := by
  have e : (s + c) - (1 : Int32) = s + d := by rw [← q]; exact own_asa _ _ _
  rw [e]; exact own_ix h hd
theorem own_addc (s a b d : Int32) (h : a + b = d) : (s + a) + b = s + d := by rw [Int32.add_assoc, h]
theorem own_m7 (x : Int32) : ¬ (x &&& (7 : Int32)) < 0 ∧ (x &&& (7 : Int32)) < 8 := by
  have h1 := c_and x (7 : Int32) (by decide)
  rw [show (7 : Int32).toInt = 7 from by decide] at h1
  rw [Int32.lt_iff_toInt_lt, Int32.lt_iff_toInt_lt, show (0 : Int32).toInt = 0 from by decide, show (8 : Int32).toInt = 8 from by decide]; omega
theorem own_len (p x : Int32) (hx : x = ((p &&& (2147483647 : Int32)) % (5 : Int32))) : x = (0 : Int32) ∨ x = (1 : Int32) ∨ x = (2 : Int32) ∨ x = (3 : Int32) ∨ x = (4 : Int32) := by
  have h1 := c_and p (2147483647 : Int32) (by decide)
  have h2 := (c_iremV (p &&& (2147483647 : Int32)) (5 : Int32)).1 h1.1 (by decide)
  rw [← hx, show (5 : Int32).toInt = 5 from by decide] at h2
  simp only [← Int32.toInt_inj]
  simp only [show (0 : Int32).toInt = 0 from by decide, show (1 : Int32).toInt = 1 from by decide, show (2 : Int32).toInt = 2 from by decide, show (3 : Int32).toInt = 3 from by decide, show (4 : Int32).toInt = 4 from by decide]
  omega
theorem d1_0 : decode method_2_code 0 = .ok (.bipush 12, 2) := by decide +kernel
theorem d1_2 : decode method_2_code 2 = .ok (.newarray .byte, 2) := by decide +kernel
theorem d1_4 : decode method_2_code 4 = .ok (.astore_n 2, 1) := by decide +kernel
theorem d1_5 : decode method_2_code 5 = .ok (.aload_n 2, 1) := by decide +kernel
theorem d1_6 : decode method_2_code 6 = .ok (.iconst 0, 1) := by decide +kernel
theorem d1_7 : decode method_2_code 7 = .ok (.lload_n 0, 1) := by decide +kernel
theorem d1_8 : decode method_2_code 8 = .ok (.l2i, 1) := by decide +kernel
theorem d1_9 : decode method_2_code 9 = .ok (.i2b, 1) := by decide +kernel
theorem d1_10 : decode method_2_code 10 = .ok (.bastore, 1) := by decide +kernel
theorem d1_11 : decode method_2_code 11 = .ok (.aload_n 2, 1) := by decide +kernel
theorem d1_12 : decode method_2_code 12 = .ok (.iconst 1, 1) := by decide +kernel
theorem d1_13 : decode method_2_code 13 = .ok (.lload_n 0, 1) := by decide +kernel
theorem d1_14 : decode method_2_code 14 = .ok (.bipush 8, 2) := by decide +kernel
theorem d1_16 : decode method_2_code 16 = .ok (.lushr, 1) := by decide +kernel
theorem d1_17 : decode method_2_code 17 = .ok (.l2i, 1) := by decide +kernel
theorem d1_18 : decode method_2_code 18 = .ok (.i2b, 1) := by decide +kernel
theorem d1_19 : decode method_2_code 19 = .ok (.bastore, 1) := by decide +kernel
theorem d1_20 : decode method_2_code 20 = .ok (.aload_n 2, 1) := by decide +kernel
theorem d1_21 : decode method_2_code 21 = .ok (.iconst 2, 1) := by decide +kernel
theorem d1_22 : decode method_2_code 22 = .ok (.lload_n 0, 1) := by decide +kernel
theorem d1_23 : decode method_2_code 23 = .ok (.bipush 16, 2) := by decide +kernel
theorem d1_25 : decode method_2_code 25 = .ok (.lushr, 1) := by decide +kernel
theorem d1_26 : decode method_2_code 26 = .ok (.l2i, 1) := by decide +kernel
theorem d1_27 : decode method_2_code 27 = .ok (.i2b, 1) := by decide +kernel
theorem d1_28 : decode method_2_code 28 = .ok (.bastore, 1) := by decide +kernel
theorem d1_29 : decode method_2_code 29 = .ok (.aload_n 2, 1) := by decide +kernel
theorem d1_30 : decode method_2_code 30 = .ok (.iconst 3, 1) := by decide +kernel
theorem d1_31 : decode method_2_code 31 = .ok (.lload_n 0, 1) := by decide +kernel
theorem d1_32 : decode method_2_code 32 = .ok (.bipush 24, 2) := by decide +kernel
theorem d1_34 : decode method_2_code 34 = .ok (.lushr, 1) := by decide +kernel
theorem d1_35 : decode method_2_code 35 = .ok (.l2i, 1) := by decide +kernel
theorem d1_36 : decode method_2_code 36 = .ok (.i2b, 1) := by decide +kernel
theorem d1_37 : decode method_2_code 37 = .ok (.bastore, 1) := by decide +kernel
theorem d1_38 : decode method_2_code 38 = .ok (.aload_n 2, 1) := by decide +kernel
theorem d1_39 : decode method_2_code 39 = .ok (.iconst 4, 1) := by decide +kernel
theorem d1_40 : decode method_2_code 40 = .ok (.lload_n 0, 1) := by decide +kernel
theorem d1_41 : decode method_2_code 41 = .ok (.bipush 32, 2) := by decide +kernel
theorem d1_43 : decode method_2_code 43 = .ok (.lushr, 1) := by decide +kernel
theorem d1_44 : decode method_2_code 44 = .ok (.l2i, 1) := by decide +kernel
theorem d1_45 : decode method_2_code 45 = .ok (.i2b, 1) := by decide +kernel
theorem d1_46 : decode method_2_code 46 = .ok (.bastore, 1) := by decide +kernel
theorem d1_47 : decode method_2_code 47 = .ok (.aload_n 2, 1) := by decide +kernel
theorem d1_48 : decode method_2_code 48 = .ok (.iconst 5, 1) := by decide +kernel
theorem d1_49 : decode method_2_code 49 = .ok (.lload_n 0, 1) := by decide +kernel
theorem d1_50 : decode method_2_code 50 = .ok (.bipush 40, 2) := by decide +kernel
theorem d1_52 : decode method_2_code 52 = .ok (.lushr, 1) := by decide +kernel
theorem d1_53 : decode method_2_code 53 = .ok (.l2i, 1) := by decide +kernel
theorem d1_54 : decode method_2_code 54 = .ok (.i2b, 1) := by decide +kernel
theorem d1_55 : decode method_2_code 55 = .ok (.bastore, 1) := by decide +kernel
theorem d1_56 : decode method_2_code 56 = .ok (.aload_n 2, 1) := by decide +kernel
theorem d1_57 : decode method_2_code 57 = .ok (.bipush 6, 2) := by decide +kernel
theorem d1_59 : decode method_2_code 59 = .ok (.lload_n 0, 1) := by decide +kernel
theorem d1_60 : decode method_2_code 60 = .ok (.bipush 48, 2) := by decide +kernel
theorem d1_62 : decode method_2_code 62 = .ok (.lushr, 1) := by decide +kernel
theorem d1_63 : decode method_2_code 63 = .ok (.l2i, 1) := by decide +kernel
theorem d1_64 : decode method_2_code 64 = .ok (.i2b, 1) := by decide +kernel
theorem d1_65 : decode method_2_code 65 = .ok (.bastore, 1) := by decide +kernel
theorem d1_66 : decode method_2_code 66 = .ok (.aload_n 2, 1) := by decide +kernel
theorem d1_67 : decode method_2_code 67 = .ok (.bipush 7, 2) := by decide +kernel
theorem d1_69 : decode method_2_code 69 = .ok (.lload_n 0, 1) := by decide +kernel
theorem d1_70 : decode method_2_code 70 = .ok (.bipush 56, 2) := by decide +kernel
theorem d1_72 : decode method_2_code 72 = .ok (.lushr, 1) := by decide +kernel
theorem d1_73 : decode method_2_code 73 = .ok (.l2i, 1) := by decide +kernel
theorem d1_74 : decode method_2_code 74 = .ok (.i2b, 1) := by decide +kernel
theorem d1_75 : decode method_2_code 75 = .ok (.bastore, 1) := by decide +kernel
theorem d1_76 : decode method_2_code 76 = .ok (.aload_n 2, 1) := by decide +kernel
theorem d1_77 : decode method_2_code 77 = .ok (.bipush 8, 2) := by decide +kernel
theorem d1_79 : decode method_2_code 79 = .ok (.lload_n 0, 1) := by decide +kernel
theorem d1_80 : decode method_2_code 80 = .ok (.iconst 4, 1) := by decide +kernel
theorem d1_81 : decode method_2_code 81 = .ok (.lushr, 1) := by decide +kernel
theorem d1_82 : decode method_2_code 82 = .ok (.l2i, 1) := by decide +kernel
theorem d1_83 : decode method_2_code 83 = .ok (.i2b, 1) := by decide +kernel
theorem d1_84 : decode method_2_code 84 = .ok (.bastore, 1) := by decide +kernel
theorem d1_85 : decode method_2_code 85 = .ok (.aload_n 2, 1) := by decide +kernel
theorem d1_86 : decode method_2_code 86 = .ok (.bipush 9, 2) := by decide +kernel
theorem d1_88 : decode method_2_code 88 = .ok (.lload_n 0, 1) := by decide +kernel
theorem d1_89 : decode method_2_code 89 = .ok (.bipush 12, 2) := by decide +kernel
theorem d1_91 : decode method_2_code 91 = .ok (.lushr, 1) := by decide +kernel
theorem d1_92 : decode method_2_code 92 = .ok (.l2i, 1) := by decide +kernel
theorem d1_93 : decode method_2_code 93 = .ok (.i2b, 1) := by decide +kernel
theorem d1_94 : decode method_2_code 94 = .ok (.bastore, 1) := by decide +kernel
theorem d1_95 : decode method_2_code 95 = .ok (.aload_n 2, 1) := by decide +kernel
theorem d1_96 : decode method_2_code 96 = .ok (.bipush 10, 2) := by decide +kernel
theorem d1_98 : decode method_2_code 98 = .ok (.lload_n 0, 1) := by decide +kernel
theorem d1_99 : decode method_2_code 99 = .ok (.bipush 20, 2) := by decide +kernel
theorem d1_101 : decode method_2_code 101 = .ok (.lushr, 1) := by decide +kernel
theorem d1_102 : decode method_2_code 102 = .ok (.l2i, 1) := by decide +kernel
theorem d1_103 : decode method_2_code 103 = .ok (.i2b, 1) := by decide +kernel
theorem d1_104 : decode method_2_code 104 = .ok (.bastore, 1) := by decide +kernel
theorem d1_105 : decode method_2_code 105 = .ok (.aload_n 2, 1) := by decide +kernel
theorem d1_106 : decode method_2_code 106 = .ok (.bipush 11, 2) := by decide +kernel
theorem d1_108 : decode method_2_code 108 = .ok (.lload_n 0, 1) := by decide +kernel
theorem d1_109 : decode method_2_code 109 = .ok (.bipush 28, 2) := by decide +kernel
theorem d1_111 : decode method_2_code 111 = .ok (.lushr, 1) := by decide +kernel
theorem d1_112 : decode method_2_code 112 = .ok (.l2i, 1) := by decide +kernel
theorem d1_113 : decode method_2_code 113 = .ok (.i2b, 1) := by decide +kernel
theorem d1_114 : decode method_2_code 114 = .ok (.bastore, 1) := by decide +kernel
theorem d1_115 : decode method_2_code 115 = .ok (.aload_n 2, 1) := by decide +kernel
theorem d1_116 : decode method_2_code 116 = .ok (.areturn, 1) := by decide +kernel
theorem pn_1 : plainName "com/example/mortise/mortise/join/RecordKeyHashPinLaw" = true := by first | (simp [plainName, overriddenIn]; done) | decide +kernel
theorem ef_rm1 (m : MethodId) (y0 : Int64) : entryFrame m #[(.long y0)] 3 = mkF m 0 #[.val (.long y0), .second, .unset] [] := by first | (simp [entryFrame, mkF, argsToLocals, Value.category]; done) | rfl
def Q_rm1 (Z : State) (q1_0 : Int64) (h0 : Heap) (n0 : Nat) (v : Option Value) (h : Heap) (L : List Loc) : Prop := ∃ bx1_0 : Addr, ∃ kx1_0 : ClassId, v = some (.ref bx1_0) ∧ Fr n0 L ∧ Keep h0 h [] ∧ h0.size ≤ bx1_0 ∧ Arv Z h bx1_0 kx1_0 .byte (12 : Int32) [(.int (nar .byte ((q1_0.toInt32).toInt8.toInt32))), (.int (nar .byte ((((q1_0.toUInt64 >>> ((8 : Int32) &&& 0x3f).toInt64.toUInt64).toInt64).toInt32).toInt8.toInt32))), (.int (nar .byte ((((q1_0.toUInt64 >>> ((16 : Int32) &&& 0x3f).toInt64.toUInt64).toInt64).toInt32).toInt8.toInt32))), (.int (nar .byte ((((q1_0.toUInt64 >>> ((24 : Int32) &&& 0x3f).toInt64.toUInt64).toInt64).toInt32).toInt8.toInt32))), (.int (nar .byte ((((q1_0.toUInt64 >>> ((32 : Int32) &&& 0x3f).toInt64.toUInt64).toInt64).toInt32).toInt8.toInt32))), (.int (nar .byte ((((q1_0.toUInt64 >>> ((40 : Int32) &&& 0x3f).toInt64.toUInt64).toInt64).toInt32).toInt8.toInt32))), (.int (nar .byte ((((q1_0.toUInt64 >>> ((48 : Int32) &&& 0x3f).toInt64.toUInt64).toInt64).toInt32).toInt8.toInt32))), (.int (nar .byte ((((q1_0.toUInt64 >>> ((56 : Int32) &&& 0x3f).toInt64.toUInt64).toInt64).toInt32).toInt8.toInt32))), (.int (nar .byte ((((q1_0.toUInt64 >>> ((4 : Int32) &&& 0x3f).toInt64.toUInt64).toInt64).toInt32).toInt8.toInt32))), (.int (nar .byte ((((q1_0.toUInt64 >>> ((12 : Int32) &&& 0x3f).toInt64.toUInt64).toInt64).toInt32).toInt8.toInt32))), (.int (nar .byte ((((q1_0.toUInt64 >>> ((20 : Int32) &&& 0x3f).toInt64.toUInt64).toInt64).toInt32).toInt8.toInt32))), (.int (nar .byte ((((q1_0.toUInt64 >>> ((28 : Int32) &&& 0x3f).toInt64.toUInt64).toInt64).toInt32).toInt8.toInt32)))] (.int (0 : Int32))
set_option maxRecDepth 65536 in
set_option maxHeartbeats 40000000 in
theorem rm1 (l : Launch) (Z : State) (a0 : Array Value) (hw : ∀ d ∈ tables_1, d.before a0 Z = true) (ws : List Jvm.Cond) (q1_0 : Int64) (h0 : Heap) (n0 : Nat) (Z0 : n0 ≤ h0.size) :
    MetFree l (⟨"com/example/mortise/mortise/join/RecordKeyHashPinLaw", "fill", "(J)[B"⟩ : MethodName) (head1 (Jvm.Cond.code (⟨"com/example/mortise/mortise/join/RecordKeyHashPinLaw", "fill", "(J)[B"⟩ : MethodName) method_2_code 3 (some (.array .byte)) :: ws) ({ frames := 0, cells := 1, slots := 12, locals := 0 } : Room)) (fun a U => a = #[(.long q1_0)] ∧ Z.Warmed39 U.vm ∧ U.heap = h0) (fun _ _ _ _ _ => True) (fun _ U o U' => ∃ v L, o = .returned v ∧ Q_rm1 Z q1_0 h0 n0 v U'.heap L ∧ FrameEnd U o U' L ({ frames := 0, cells := 1, slots := 12, locals := 0 } : Room).cells ({ frames := 0, cells := 1, slots := 12, locals := 0 } : Room).slots) := by
  refine MetFree.of_bodySF (plainFor_of_name pn_1) hisR ?_
  intro p e s m args below meth c s₁ Bd hml0 hP hK
  obtain ⟨rfl, hZ, hh⟩ := hP
  have hx := Bd.exec
  have hby := Bd.bytes
  have hml : c.maxLocals = 3 := hml0
  have hown : s.vm.findClass "com/example/mortise/mortise/join/RecordKeyHashPinLaw" = some m.cls := findClass_of_methodNamed Bd.named
  have hnm := (name_of_methodNamed Bd.named Bd.method).1
  have X0 : Stand p l e ({ frames := 0, cells := 1, slots := 12, locals := 0 } : Room) s m #[(.long q1_0)] below meth c s₁ [] 0 0 := Stand.of_body Bd
  have e0 : s₁.heap = h0 := by rw [← hh, Bd.state]; rfl
  have N0 := Fr.nil n0
  have pre0 : ∀ t, Steps p.tables e below (s₁.setTop (mkF m 0 #[.val (.long q1_0), .second, .unset] [])) t → Steps p.tables e below (s₁.setTop (entryFrame m #[(.long q1_0)] 3)) t := fun t k => castTop (ef_rm1 m q1_0) k
  obtain ⟨T1, h1, k1, X1, e1, E1, A1, st1⟩ := newP X0 hx hZ (aty := .byte) (ow5 hw) e0 (g := (mkF m 2 #[.val (.long q1_0), .second, .unset] [(.int (12 : Int32))])) rfl (hb hby d1_2) rfl (by decide) (cap := 12) (by decide) (by decide) (by decide) (by decide)
  obtain ⟨b1, g1⟩ : ∃ z, z = h0.size := ⟨_, rfl⟩
  rw [← g1] at A1 st1
  have V_b1 : Arv Z h1 b1 k1 .byte (12 : Int32) [(.int (0 : Int32)), (.int (0 : Int32)), (.int (0 : Int32)), (.int (0 : Int32)), (.int (0 : Int32)), (.int (0 : Int32)), (.int (0 : Int32)), (.int (0 : Int32)), (.int (0 : Int32)), (.int (0 : Int32)), (.int (0 : Int32)), (.int (0 : Int32))] (.int (0 : Int32)) := (Arv.new A1 (by decide)).pad (pad_rep [] (.int (0 : Int32)) 12)
  have g_b1 : n0 ≤ b1 := Nat.le_trans Z0 (Nat.le_of_eq g1.symm)
  have sz_b1 : h0.size ≤ b1 := Nat.le_trans (Nat.le_refl _) (Nat.le_of_eq g1.symm)
  have K1 : Keep h0 h1 [] := (Keep.refl h0 []).ext E1
  have Z1 : n0 ≤ h1.size := Nat.le_trans Z0 K1.1
  obtain ⟨cl2, Ar2, qk2, Sz2, Nz2, Hh2, Gf2⟩ := id V_b1
  obtain ⟨T3, h3, X3, e3, W3, st3⟩ := stB X1 hx hZ e1 Ar2 (j := (0 : Int32)) (inb_of Sz2 ⟨by decide, by decide⟩) (g := (mkF m 10 #[.val (.long q1_0), .second, .val (.ref b1)] [(.int ((q1_0.toInt32).toInt8.toInt32)), (.int (0 : Int32)), (.ref b1)])) rfl rfl (hb hby d1_10)
  have V3 : Arv Z h3 b1 k1 .byte (12 : Int32) [(.int (nar .byte ((q1_0.toInt32).toInt8.toInt32))), (.int (0 : Int32)), (.int (0 : Int32)), (.int (0 : Int32)), (.int (0 : Int32)), (.int (0 : Int32)), (.int (0 : Int32)), (.int (0 : Int32)), (.int (0 : Int32)), (.int (0 : Int32)), (.int (0 : Int32)), (.int (0 : Int32))] (.int (0 : Int32)) := Arv.set Ar2 qk2 Sz2 Nz2 Hh2 Gf2 (fits_nar_byte _) W3 0 rfl (Nat.le_of_ble_eq_true rfl)
  have K3 : Keep h0 h3 [] := K1.wr W3 (Or.inr sz_b1)
  have Z3 : n0 ≤ h3.size := Nat.le_trans Z0 K3.1
  have N3 := Fr.snoc X3 N0 g_b1
  obtain ⟨cl4, Ar4, qk4, Sz4, Nz4, Hh4, Gf4⟩ := id V3
  obtain ⟨T5, h5, X5, e5, W5, st5⟩ := stB X3 hx hZ e3 Ar4 (j := (1 : Int32)) (inb_of Sz4 ⟨by decide, by decide⟩) (g := (mkF m 19 #[.val (.long q1_0), .second, .val (.ref b1)] [(.int ((((q1_0.toUInt64 >>> ((8 : Int32) &&& 0x3f).toInt64.toUInt64).toInt64).toInt32).toInt8.toInt32)), (.int (1 : Int32)), (.ref b1)])) rfl rfl (hb hby d1_19)
  have V5 : Arv Z h5 b1 k1 .byte (12 : Int32) [(.int (nar .byte ((q1_0.toInt32).toInt8.toInt32))), (.int (nar .byte ((((q1_0.toUInt64 >>> ((8 : Int32) &&& 0x3f).toInt64.toUInt64).toInt64).toInt32).toInt8.toInt32))), (.int (0 : Int32)), (.int (0 : Int32)), (.int (0 : Int32)), (.int (0 : Int32)), (.int (0 : Int32)), (.int (0 : Int32)), (.int (0 : Int32)), (.int (0 : Int32)), (.int (0 : Int32)), (.int (0 : Int32))] (.int (0 : Int32)) := Arv.set Ar4 qk4 Sz4 Nz4 Hh4 Gf4 (fits_nar_byte _) W5 1 rfl (Nat.le_of_ble_eq_true rfl)
  have K5 : Keep h0 h5 [] := K3.wr W5 (Or.inr sz_b1)
  have Z5 : n0 ≤ h5.size := Nat.le_trans Z0 K5.1
  have N5 := Fr.snoc X5 N3 g_b1
  obtain ⟨cl6, Ar6, qk6, Sz6, Nz6, Hh6, Gf6⟩ := id V5
  obtain ⟨T7, h7, X7, e7, W7, st7⟩ := stB X5 hx hZ e5 Ar6 (j := (2 : Int32)) (inb_of Sz6 ⟨by decide, by decide⟩) (g := (mkF m 28 #[.val (.long q1_0), .second, .val (.ref b1)] [(.int ((((q1_0.toUInt64 >>> ((16 : Int32) &&& 0x3f).toInt64.toUInt64).toInt64).toInt32).toInt8.toInt32)), (.int (2 : Int32)), (.ref b1)])) rfl rfl (hb hby d1_28)
  have V7 : Arv Z h7 b1 k1 .byte (12 : Int32) [(.int (nar .byte ((q1_0.toInt32).toInt8.toInt32))), (.int (nar .byte ((((q1_0.toUInt64 >>> ((8 : Int32) &&& 0x3f).toInt64.toUInt64).toInt64).toInt32).toInt8.toInt32))), (.int (nar .byte ((((q1_0.toUInt64 >>> ((16 : Int32) &&& 0x3f).toInt64.toUInt64).toInt64).toInt32).toInt8.toInt32))), (.int (0 : Int32)), (.int (0 : Int32)), (.int (0 : Int32)), (.int (0 : Int32)), (.int (0 : Int32)), (.int (0 : Int32)), (.int (0 : Int32)), (.int (0 : Int32)), (.int (0 : Int32))] (.int (0 : Int32)) := Arv.set Ar6 qk6 Sz6 Nz6 Hh6 Gf6 (fits_nar_byte _) W7 2 rfl (Nat.le_of_ble_eq_true rfl)
  have K7 : Keep h0 h7 [] := K5.wr W7 (Or.inr sz_b1)
  have Z7 : n0 ≤ h7.size := Nat.le_trans Z0 K7.1
  have N7 := Fr.snoc X7 N5 g_b1
  obtain ⟨cl8, Ar8, qk8, Sz8, Nz8, Hh8, Gf8⟩ := id V7
  obtain ⟨T9, h9, X9, e9, W9, st9⟩ := stB X7 hx hZ e7 Ar8 (j := (3 : Int32)) (inb_of Sz8 ⟨by decide, by decide⟩) (g := (mkF m 37 #[.val (.long q1_0), .second, .val (.ref b1)] [(.int ((((q1_0.toUInt64 >>> ((24 : Int32) &&& 0x3f).toInt64.toUInt64).toInt64).toInt32).toInt8.toInt32)), (.int (3 : Int32)), (.ref b1)])) rfl rfl (hb hby d1_37)
  have V9 : Arv Z h9 b1 k1 .byte (12 : Int32) [(.int (nar .byte ((q1_0.toInt32).toInt8.toInt32))), (.int (nar .byte ((((q1_0.toUInt64 >>> ((8 : Int32) &&& 0x3f).toInt64.toUInt64).toInt64).toInt32).toInt8.toInt32))), (.int (nar .byte ((((q1_0.toUInt64 >>> ((16 : Int32) &&& 0x3f).toInt64.toUInt64).toInt64).toInt32).toInt8.toInt32))), (.int (nar .byte ((((q1_0.toUInt64 >>> ((24 : Int32) &&& 0x3f).toInt64.toUInt64).toInt64).toInt32).toInt8.toInt32))), (.int (0 : Int32)), (.int (0 : Int32)), (.int (0 : Int32)), (.int (0 : Int32)), (.int (0 : Int32)), (.int (0 : Int32)), (.int (0 : Int32)), (.int (0 : Int32))] (.int (0 : Int32)) := Arv.set Ar8 qk8 Sz8 Nz8 Hh8 Gf8 (fits_nar_byte _) W9 3 rfl (Nat.le_of_ble_eq_true rfl)
  have K9 : Keep h0 h9 [] := K7.wr W9 (Or.inr sz_b1)
  have Z9 : n0 ≤ h9.size := Nat.le_trans Z0 K9.1
  have N9 := Fr.snoc X9 N7 g_b1
  obtain ⟨cl10, Ar10, qk10, Sz10, Nz10, Hh10, Gf10⟩ := id V9
  obtain ⟨T11, h11, X11, e11, W11, st11⟩ := stB X9 hx hZ e9 Ar10 (j := (4 : Int32)) (inb_of Sz10 ⟨by decide, by decide⟩) (g := (mkF m 46 #[.val (.long q1_0), .second, .val (.ref b1)] [(.int ((((q1_0.toUInt64 >>> ((32 : Int32) &&& 0x3f).toInt64.toUInt64).toInt64).toInt32).toInt8.toInt32)), (.int (4 : Int32)), (.ref b1)])) rfl rfl (hb hby d1_46)
  have V11 : Arv Z h11 b1 k1 .byte (12 : Int32) [(.int (nar .byte ((q1_0.toInt32).toInt8.toInt32))), (.int (nar .byte ((((q1_0.toUInt64 >>> ((8 : Int32) &&& 0x3f).toInt64.toUInt64).toInt64).toInt32).toInt8.toInt32))), (.int (nar .byte ((((q1_0.toUInt64 >>> ((16 : Int32) &&& 0x3f).toInt64.toUInt64).toInt64).toInt32).toInt8.toInt32))), (.int (nar .byte ((((q1_0.toUInt64 >>> ((24 : Int32) &&& 0x3f).toInt64.toUInt64).toInt64).toInt32).toInt8.toInt32))), (.int (nar .byte ((((q1_0.toUInt64 >>> ((32 : Int32) &&& 0x3f).toInt64.toUInt64).toInt64).toInt32).toInt8.toInt32))), (.int (0 : Int32)), (.int (0 : Int32)), (.int (0 : Int32)), (.int (0 : Int32)), (.int (0 : Int32)), (.int (0 : Int32)), (.int (0 : Int32))] (.int (0 : Int32)) := Arv.set Ar10 qk10 Sz10 Nz10 Hh10 Gf10 (fits_nar_byte _) W11 4 rfl (Nat.le_of_ble_eq_true rfl)
  have K11 : Keep h0 h11 [] := K9.wr W11 (Or.inr sz_b1)
  have Z11 : n0 ≤ h11.size := Nat.le_trans Z0 K11.1
  have N11 := Fr.snoc X11 N9 g_b1
  obtain ⟨cl12, Ar12, qk12, Sz12, Nz12, Hh12, Gf12⟩ := id V11
  obtain ⟨T13, h13, X13, e13, W13, st13⟩ := stB X11 hx hZ e11 Ar12 (j := (5 : Int32)) (inb_of Sz12 ⟨by decide, by decide⟩) (g := (mkF m 55 #[.val (.long q1_0), .second, .val (.ref b1)] [(.int ((((q1_0.toUInt64 >>> ((40 : Int32) &&& 0x3f).toInt64.toUInt64).toInt64).toInt32).toInt8.toInt32)), (.int (5 : Int32)), (.ref b1)])) rfl rfl (hb hby d1_55)
  have V13 : Arv Z h13 b1 k1 .byte (12 : Int32) [(.int (nar .byte ((q1_0.toInt32).toInt8.toInt32))), (.int (nar .byte ((((q1_0.toUInt64 >>> ((8 : Int32) &&& 0x3f).toInt64.toUInt64).toInt64).toInt32).toInt8.toInt32))), (.int (nar .byte ((((q1_0.toUInt64 >>> ((16 : Int32) &&& 0x3f).toInt64.toUInt64).toInt64).toInt32).toInt8.toInt32))), (.int (nar .byte ((((q1_0.toUInt64 >>> ((24 : Int32) &&& 0x3f).toInt64.toUInt64).toInt64).toInt32).toInt8.toInt32))), (.int (nar .byte ((((q1_0.toUInt64 >>> ((32 : Int32) &&& 0x3f).toInt64.toUInt64).toInt64).toInt32).toInt8.toInt32))), (.int (nar .byte ((((q1_0.toUInt64 >>> ((40 : Int32) &&& 0x3f).toInt64.toUInt64).toInt64).toInt32).toInt8.toInt32))), (.int (0 : Int32)), (.int (0 : Int32)), (.int (0 : Int32)), (.int (0 : Int32)), (.int (0 : Int32)), (.int (0 : Int32))] (.int (0 : Int32)) := Arv.set Ar12 qk12 Sz12 Nz12 Hh12 Gf12 (fits_nar_byte _) W13 5 rfl (Nat.le_of_ble_eq_true rfl)
  have K13 : Keep h0 h13 [] := K11.wr W13 (Or.inr sz_b1)
  have Z13 : n0 ≤ h13.size := Nat.le_trans Z0 K13.1
  have N13 := Fr.snoc X13 N11 g_b1
  obtain ⟨cl14, Ar14, qk14, Sz14, Nz14, Hh14, Gf14⟩ := id V13
  obtain ⟨T15, h15, X15, e15, W15, st15⟩ := stB X13 hx hZ e13 Ar14 (j := (6 : Int32)) (inb_of Sz14 ⟨by decide, by decide⟩) (g := (mkF m 65 #[.val (.long q1_0), .second, .val (.ref b1)] [(.int ((((q1_0.toUInt64 >>> ((48 : Int32) &&& 0x3f).toInt64.toUInt64).toInt64).toInt32).toInt8.toInt32)), (.int (6 : Int32)), (.ref b1)])) rfl rfl (hb hby d1_65)
  have V15 : Arv Z h15 b1 k1 .byte (12 : Int32) [(.int (nar .byte ((q1_0.toInt32).toInt8.toInt32))), (.int (nar .byte ((((q1_0.toUInt64 >>> ((8 : Int32) &&& 0x3f).toInt64.toUInt64).toInt64).toInt32).toInt8.toInt32))), (.int (nar .byte ((((q1_0.toUInt64 >>> ((16 : Int32) &&& 0x3f).toInt64.toUInt64).toInt64).toInt32).toInt8.toInt32))), (.int (nar .byte ((((q1_0.toUInt64 >>> ((24 : Int32) &&& 0x3f).toInt64.toUInt64).toInt64).toInt32).toInt8.toInt32))), (.int (nar .byte ((((q1_0.toUInt64 >>> ((32 : Int32) &&& 0x3f).toInt64.toUInt64).toInt64).toInt32).toInt8.toInt32))), (.int (nar .byte ((((q1_0.toUInt64 >>> ((40 : Int32) &&& 0x3f).toInt64.toUInt64).toInt64).toInt32).toInt8.toInt32))), (.int (nar .byte ((((q1_0.toUInt64 >>> ((48 : Int32) &&& 0x3f).toInt64.toUInt64).toInt64).toInt32).toInt8.toInt32))), (.int (0 : Int32)), (.int (0 : Int32)), (.int (0 : Int32)), (.int (0 : Int32)), (.int (0 : Int32))] (.int (0 : Int32)) := Arv.set Ar14 qk14 Sz14 Nz14 Hh14 Gf14 (fits_nar_byte _) W15 6 rfl (Nat.le_of_ble_eq_true rfl)
  have K15 : Keep h0 h15 [] := K13.wr W15 (Or.inr sz_b1)
  have Z15 : n0 ≤ h15.size := Nat.le_trans Z0 K15.1
  have N15 := Fr.snoc X15 N13 g_b1
  obtain ⟨cl16, Ar16, qk16, Sz16, Nz16, Hh16, Gf16⟩ := id V15
  obtain ⟨T17, h17, X17, e17, W17, st17⟩ := stB X15 hx hZ e15 Ar16 (j := (7 : Int32)) (inb_of Sz16 ⟨by decide, by decide⟩) (g := (mkF m 75 #[.val (.long q1_0), .second, .val (.ref b1)] [(.int ((((q1_0.toUInt64 >>> ((56 : Int32) &&& 0x3f).toInt64.toUInt64).toInt64).toInt32).toInt8.toInt32)), (.int (7 : Int32)), (.ref b1)])) rfl rfl (hb hby d1_75)
  have V17 : Arv Z h17 b1 k1 .byte (12 : Int32) [(.int (nar .byte ((q1_0.toInt32).toInt8.toInt32))), (.int (nar .byte ((((q1_0.toUInt64 >>> ((8 : Int32) &&& 0x3f).toInt64.toUInt64).toInt64).toInt32).toInt8.toInt32))), (.int (nar .byte ((((q1_0.toUInt64 >>> ((16 : Int32) &&& 0x3f).toInt64.toUInt64).toInt64).toInt32).toInt8.toInt32))), (.int (nar .byte ((((q1_0.toUInt64 >>> ((24 : Int32) &&& 0x3f).toInt64.toUInt64).toInt64).toInt32).toInt8.toInt32))), (.int (nar .byte ((((q1_0.toUInt64 >>> ((32 : Int32) &&& 0x3f).toInt64.toUInt64).toInt64).toInt32).toInt8.toInt32))), (.int (nar .byte ((((q1_0.toUInt64 >>> ((40 : Int32) &&& 0x3f).toInt64.toUInt64).toInt64).toInt32).toInt8.toInt32))), (.int (nar .byte ((((q1_0.toUInt64 >>> ((48 : Int32) &&& 0x3f).toInt64.toUInt64).toInt64).toInt32).toInt8.toInt32))), (.int (nar .byte ((((q1_0.toUInt64 >>> ((56 : Int32) &&& 0x3f).toInt64.toUInt64).toInt64).toInt32).toInt8.toInt32))), (.int (0 : Int32)), (.int (0 : Int32)), (.int (0 : Int32)), (.int (0 : Int32))] (.int (0 : Int32)) := Arv.set Ar16 qk16 Sz16 Nz16 Hh16 Gf16 (fits_nar_byte _) W17 7 rfl (Nat.le_of_ble_eq_true rfl)
  have K17 : Keep h0 h17 [] := K15.wr W17 (Or.inr sz_b1)
  have Z17 : n0 ≤ h17.size := Nat.le_trans Z0 K17.1
  have N17 := Fr.snoc X17 N15 g_b1
  obtain ⟨cl18, Ar18, qk18, Sz18, Nz18, Hh18, Gf18⟩ := id V17
  obtain ⟨T19, h19, X19, e19, W19, st19⟩ := stB X17 hx hZ e17 Ar18 (j := (8 : Int32)) (inb_of Sz18 ⟨by decide, by decide⟩) (g := (mkF m 84 #[.val (.long q1_0), .second, .val (.ref b1)] [(.int ((((q1_0.toUInt64 >>> ((4 : Int32) &&& 0x3f).toInt64.toUInt64).toInt64).toInt32).toInt8.toInt32)), (.int (8 : Int32)), (.ref b1)])) rfl rfl (hb hby d1_84)
  have V19 : Arv Z h19 b1 k1 .byte (12 : Int32) [(.int (nar .byte ((q1_0.toInt32).toInt8.toInt32))), (.int (nar .byte ((((q1_0.toUInt64 >>> ((8 : Int32) &&& 0x3f).toInt64.toUInt64).toInt64).toInt32).toInt8.toInt32))), (.int (nar .byte ((((q1_0.toUInt64 >>> ((16 : Int32) &&& 0x3f).toInt64.toUInt64).toInt64).toInt32).toInt8.toInt32))), (.int (nar .byte ((((q1_0.toUInt64 >>> ((24 : Int32) &&& 0x3f).toInt64.toUInt64).toInt64).toInt32).toInt8.toInt32))), (.int (nar .byte ((((q1_0.toUInt64 >>> ((32 : Int32) &&& 0x3f).toInt64.toUInt64).toInt64).toInt32).toInt8.toInt32))), (.int (nar .byte ((((q1_0.toUInt64 >>> ((40 : Int32) &&& 0x3f).toInt64.toUInt64).toInt64).toInt32).toInt8.toInt32))), (.int (nar .byte ((((q1_0.toUInt64 >>> ((48 : Int32) &&& 0x3f).toInt64.toUInt64).toInt64).toInt32).toInt8.toInt32))), (.int (nar .byte ((((q1_0.toUInt64 >>> ((56 : Int32) &&& 0x3f).toInt64.toUInt64).toInt64).toInt32).toInt8.toInt32))), (.int (nar .byte ((((q1_0.toUInt64 >>> ((4 : Int32) &&& 0x3f).toInt64.toUInt64).toInt64).toInt32).toInt8.toInt32))), (.int (0 : Int32)), (.int (0 : Int32)), (.int (0 : Int32))] (.int (0 : Int32)) := Arv.set Ar18 qk18 Sz18 Nz18 Hh18 Gf18 (fits_nar_byte _) W19 8 rfl (Nat.le_of_ble_eq_true rfl)
  have K19 : Keep h0 h19 [] := K17.wr W19 (Or.inr sz_b1)
  have Z19 : n0 ≤ h19.size := Nat.le_trans Z0 K19.1
  have N19 := Fr.snoc X19 N17 g_b1
  obtain ⟨cl20, Ar20, qk20, Sz20, Nz20, Hh20, Gf20⟩ := id V19
  obtain ⟨T21, h21, X21, e21, W21, st21⟩ := stB X19 hx hZ e19 Ar20 (j := (9 : Int32)) (inb_of Sz20 ⟨by decide, by decide⟩) (g := (mkF m 94 #[.val (.long q1_0), .second, .val (.ref b1)] [(.int ((((q1_0.toUInt64 >>> ((12 : Int32) &&& 0x3f).toInt64.toUInt64).toInt64).toInt32).toInt8.toInt32)), (.int (9 : Int32)), (.ref b1)])) rfl rfl (hb hby d1_94)
  have V21 : Arv Z h21 b1 k1 .byte (12 : Int32) [(.int (nar .byte ((q1_0.toInt32).toInt8.toInt32))), (.int (nar .byte ((((q1_0.toUInt64 >>> ((8 : Int32) &&& 0x3f).toInt64.toUInt64).toInt64).toInt32).toInt8.toInt32))), (.int (nar .byte ((((q1_0.toUInt64 >>> ((16 : Int32) &&& 0x3f).toInt64.toUInt64).toInt64).toInt32).toInt8.toInt32))), (.int (nar .byte ((((q1_0.toUInt64 >>> ((24 : Int32) &&& 0x3f).toInt64.toUInt64).toInt64).toInt32).toInt8.toInt32))), (.int (nar .byte ((((q1_0.toUInt64 >>> ((32 : Int32) &&& 0x3f).toInt64.toUInt64).toInt64).toInt32).toInt8.toInt32))), (.int (nar .byte ((((q1_0.toUInt64 >>> ((40 : Int32) &&& 0x3f).toInt64.toUInt64).toInt64).toInt32).toInt8.toInt32))), (.int (nar .byte ((((q1_0.toUInt64 >>> ((48 : Int32) &&& 0x3f).toInt64.toUInt64).toInt64).toInt32).toInt8.toInt32))), (.int (nar .byte ((((q1_0.toUInt64 >>> ((56 : Int32) &&& 0x3f).toInt64.toUInt64).toInt64).toInt32).toInt8.toInt32))), (.int (nar .byte ((((q1_0.toUInt64 >>> ((4 : Int32) &&& 0x3f).toInt64.toUInt64).toInt64).toInt32).toInt8.toInt32))), (.int (nar .byte ((((q1_0.toUInt64 >>> ((12 : Int32) &&& 0x3f).toInt64.toUInt64).toInt64).toInt32).toInt8.toInt32))), (.int (0 : Int32)), (.int (0 : Int32))] (.int (0 : Int32)) := Arv.set Ar20 qk20 Sz20 Nz20 Hh20 Gf20 (fits_nar_byte _) W21 9 rfl (Nat.le_of_ble_eq_true rfl)
  have K21 : Keep h0 h21 [] := K19.wr W21 (Or.inr sz_b1)
  have Z21 : n0 ≤ h21.size := Nat.le_trans Z0 K21.1
  have N21 := Fr.snoc X21 N19 g_b1
  obtain ⟨cl22, Ar22, qk22, Sz22, Nz22, Hh22, Gf22⟩ := id V21
  obtain ⟨T23, h23, X23, e23, W23, st23⟩ := stB X21 hx hZ e21 Ar22 (j := (10 : Int32)) (inb_of Sz22 ⟨by decide, by decide⟩) (g := (mkF m 104 #[.val (.long q1_0), .second, .val (.ref b1)] [(.int ((((q1_0.toUInt64 >>> ((20 : Int32) &&& 0x3f).toInt64.toUInt64).toInt64).toInt32).toInt8.toInt32)), (.int (10 : Int32)), (.ref b1)])) rfl rfl (hb hby d1_104)
  have V23 : Arv Z h23 b1 k1 .byte (12 : Int32) [(.int (nar .byte ((q1_0.toInt32).toInt8.toInt32))), (.int (nar .byte ((((q1_0.toUInt64 >>> ((8 : Int32) &&& 0x3f).toInt64.toUInt64).toInt64).toInt32).toInt8.toInt32))), (.int (nar .byte ((((q1_0.toUInt64 >>> ((16 : Int32) &&& 0x3f).toInt64.toUInt64).toInt64).toInt32).toInt8.toInt32))), (.int (nar .byte ((((q1_0.toUInt64 >>> ((24 : Int32) &&& 0x3f).toInt64.toUInt64).toInt64).toInt32).toInt8.toInt32))), (.int (nar .byte ((((q1_0.toUInt64 >>> ((32 : Int32) &&& 0x3f).toInt64.toUInt64).toInt64).toInt32).toInt8.toInt32))), (.int (nar .byte ((((q1_0.toUInt64 >>> ((40 : Int32) &&& 0x3f).toInt64.toUInt64).toInt64).toInt32).toInt8.toInt32))), (.int (nar .byte ((((q1_0.toUInt64 >>> ((48 : Int32) &&& 0x3f).toInt64.toUInt64).toInt64).toInt32).toInt8.toInt32))), (.int (nar .byte ((((q1_0.toUInt64 >>> ((56 : Int32) &&& 0x3f).toInt64.toUInt64).toInt64).toInt32).toInt8.toInt32))), (.int (nar .byte ((((q1_0.toUInt64 >>> ((4 : Int32) &&& 0x3f).toInt64.toUInt64).toInt64).toInt32).toInt8.toInt32))), (.int (nar .byte ((((q1_0.toUInt64 >>> ((12 : Int32) &&& 0x3f).toInt64.toUInt64).toInt64).toInt32).toInt8.toInt32))), (.int (nar .byte ((((q1_0.toUInt64 >>> ((20 : Int32) &&& 0x3f).toInt64.toUInt64).toInt64).toInt32).toInt8.toInt32))), (.int (0 : Int32))] (.int (0 : Int32)) := Arv.set Ar22 qk22 Sz22 Nz22 Hh22 Gf22 (fits_nar_byte _) W23 10 rfl (Nat.le_of_ble_eq_true rfl)
  have K23 : Keep h0 h23 [] := K21.wr W23 (Or.inr sz_b1)
  have Z23 : n0 ≤ h23.size := Nat.le_trans Z0 K23.1
  have N23 := Fr.snoc X23 N21 g_b1
  obtain ⟨cl24, Ar24, qk24, Sz24, Nz24, Hh24, Gf24⟩ := id V23
  obtain ⟨T25, h25, X25, e25, W25, st25⟩ := stB X23 hx hZ e23 Ar24 (j := (11 : Int32)) (inb_of Sz24 ⟨by decide, by decide⟩) (g := (mkF m 114 #[.val (.long q1_0), .second, .val (.ref b1)] [(.int ((((q1_0.toUInt64 >>> ((28 : Int32) &&& 0x3f).toInt64.toUInt64).toInt64).toInt32).toInt8.toInt32)), (.int (11 : Int32)), (.ref b1)])) rfl rfl (hb hby d1_114)
  have V25 : Arv Z h25 b1 k1 .byte (12 : Int32) [(.int (nar .byte ((q1_0.toInt32).toInt8.toInt32))), (.int (nar .byte ((((q1_0.toUInt64 >>> ((8 : Int32) &&& 0x3f).toInt64.toUInt64).toInt64).toInt32).toInt8.toInt32))), (.int (nar .byte ((((q1_0.toUInt64 >>> ((16 : Int32) &&& 0x3f).toInt64.toUInt64).toInt64).toInt32).toInt8.toInt32))), (.int (nar .byte ((((q1_0.toUInt64 >>> ((24 : Int32) &&& 0x3f).toInt64.toUInt64).toInt64).toInt32).toInt8.toInt32))), (.int (nar .byte ((((q1_0.toUInt64 >>> ((32 : Int32) &&& 0x3f).toInt64.toUInt64).toInt64).toInt32).toInt8.toInt32))), (.int (nar .byte ((((q1_0.toUInt64 >>> ((40 : Int32) &&& 0x3f).toInt64.toUInt64).toInt64).toInt32).toInt8.toInt32))), (.int (nar .byte ((((q1_0.toUInt64 >>> ((48 : Int32) &&& 0x3f).toInt64.toUInt64).toInt64).toInt32).toInt8.toInt32))), (.int (nar .byte ((((q1_0.toUInt64 >>> ((56 : Int32) &&& 0x3f).toInt64.toUInt64).toInt64).toInt32).toInt8.toInt32))), (.int (nar .byte ((((q1_0.toUInt64 >>> ((4 : Int32) &&& 0x3f).toInt64.toUInt64).toInt64).toInt32).toInt8.toInt32))), (.int (nar .byte ((((q1_0.toUInt64 >>> ((12 : Int32) &&& 0x3f).toInt64.toUInt64).toInt64).toInt32).toInt8.toInt32))), (.int (nar .byte ((((q1_0.toUInt64 >>> ((20 : Int32) &&& 0x3f).toInt64.toUInt64).toInt64).toInt32).toInt8.toInt32))), (.int (nar .byte ((((q1_0.toUInt64 >>> ((28 : Int32) &&& 0x3f).toInt64.toUInt64).toInt64).toInt32).toInt8.toInt32)))] (.int (0 : Int32)) := Arv.set Ar24 qk24 Sz24 Nz24 Hh24 Gf24 (fits_nar_byte _) W25 11 rfl (Nat.le_of_ble_eq_true rfl)
  have K25 : Keep h0 h25 [] := K23.wr W25 (Or.inr sz_b1)
  have Z25 : n0 ≤ h25.size := Nat.le_trans Z0 K25.1
  have N25 := Fr.snoc X25 N23 g_b1
  obtain ⟨fs, hr, hrun, hended, hW, hsame⟩ := X25.leave (v := some (.ref b1)) (fun h => by rw [Bd.returns] at h; cases h)
  refine ⟨_, _, pre0 _ ?_, hrun, hended, _, _, rfl, ?_, ⟨_, rfl⟩, hW, hsame.mono (by decide) (by decide)⟩
  · show Steps p.tables e below (s₁.setTop (mkF m 0 #[.val (.long q1_0), .second, .unset] [])) _
    refine XS.bipush X0.here hx rfl (hb hby d1_0) ?_
    show Steps p.tables e below (s₁.setTop (mkF m 2 #[.val (.long q1_0), .second, .unset] [(.int (12 : Int32))])) _
    refine st1 _ ?_
    show Steps p.tables e below (T1.setTop (mkF m 4 #[.val (.long q1_0), .second, .unset] [(.ref b1)])) _
    refine XS.astoreN X1.here hx rfl (hb hby d1_4) rfl rfl (l' := #[.val (.long q1_0), .second, .val (.ref b1)]) rfl ?_
    show Steps p.tables e below (T1.setTop (mkF m 5 #[.val (.long q1_0), .second, .val (.ref b1)] [])) _
    refine XS.aloadN X1.here hx rfl (hb hby d1_5) rfl rfl ?_
    show Steps p.tables e below (T1.setTop (mkF m 6 #[.val (.long q1_0), .second, .val (.ref b1)] [(.ref b1)])) _
    refine XS.iconst X1.here hx rfl (hb hby d1_6) ?_
    show Steps p.tables e below (T1.setTop (mkF m 7 #[.val (.long q1_0), .second, .val (.ref b1)] [(.int (0 : Int32)), (.ref b1)])) _
    refine XS.lloadN X1.here hx rfl (hb hby d1_7) rfl ?_
    show Steps p.tables e below (T1.setTop (mkF m 8 #[.val (.long q1_0), .second, .val (.ref b1)] [(.long q1_0), (.int (0 : Int32)), (.ref b1)])) _
    refine XS.l2i X1.here hx rfl (hb hby d1_8) rfl ?_
    show Steps p.tables e below (T1.setTop (mkF m 9 #[.val (.long q1_0), .second, .val (.ref b1)] [(.int (q1_0.toInt32)), (.int (0 : Int32)), (.ref b1)])) _
    refine XS.i2b X1.here hx rfl (hb hby d1_9) rfl ?_
    show Steps p.tables e below (T1.setTop (mkF m 10 #[.val (.long q1_0), .second, .val (.ref b1)] [(.int ((q1_0.toInt32).toInt8.toInt32)), (.int (0 : Int32)), (.ref b1)])) _
    refine st3 _ ?_
    show Steps p.tables e below (T3.setTop (mkF m 11 #[.val (.long q1_0), .second, .val (.ref b1)] [])) _
    refine XS.aloadN X3.here hx rfl (hb hby d1_11) rfl rfl ?_
    show Steps p.tables e below (T3.setTop (mkF m 12 #[.val (.long q1_0), .second, .val (.ref b1)] [(.ref b1)])) _
    refine XS.iconst X3.here hx rfl (hb hby d1_12) ?_
    show Steps p.tables e below (T3.setTop (mkF m 13 #[.val (.long q1_0), .second, .val (.ref b1)] [(.int (1 : Int32)), (.ref b1)])) _
    refine XS.lloadN X3.here hx rfl (hb hby d1_13) rfl ?_
    show Steps p.tables e below (T3.setTop (mkF m 14 #[.val (.long q1_0), .second, .val (.ref b1)] [(.long q1_0), (.int (1 : Int32)), (.ref b1)])) _
    refine XS.bipush X3.here hx rfl (hb hby d1_14) ?_
    show Steps p.tables e below (T3.setTop (mkF m 16 #[.val (.long q1_0), .second, .val (.ref b1)] [(.int (8 : Int32)), (.long q1_0), (.int (1 : Int32)), (.ref b1)])) _
    refine XS.lushr X3.here hx rfl (hb hby d1_16) rfl ?_
    show Steps p.tables e below (T3.setTop (mkF m 17 #[.val (.long q1_0), .second, .val (.ref b1)] [(.long ((q1_0.toUInt64 >>> ((8 : Int32) &&& 0x3f).toInt64.toUInt64).toInt64)), (.int (1 : Int32)), (.ref b1)])) _
    refine XS.l2i X3.here hx rfl (hb hby d1_17) rfl ?_
    show Steps p.tables e below (T3.setTop (mkF m 18 #[.val (.long q1_0), .second, .val (.ref b1)] [(.int (((q1_0.toUInt64 >>> ((8 : Int32) &&& 0x3f).toInt64.toUInt64).toInt64).toInt32)), (.int (1 : Int32)), (.ref b1)])) _
    refine XS.i2b X3.here hx rfl (hb hby d1_18) rfl ?_
    show Steps p.tables e below (T3.setTop (mkF m 19 #[.val (.long q1_0), .second, .val (.ref b1)] [(.int ((((q1_0.toUInt64 >>> ((8 : Int32) &&& 0x3f).toInt64.toUInt64).toInt64).toInt32).toInt8.toInt32)), (.int (1 : Int32)), (.ref b1)])) _
    refine st5 _ ?_
    show Steps p.tables e below (T5.setTop (mkF m 20 #[.val (.long q1_0), .second, .val (.ref b1)] [])) _
    refine XS.aloadN X5.here hx rfl (hb hby d1_20) rfl rfl ?_
    show Steps p.tables e below (T5.setTop (mkF m 21 #[.val (.long q1_0), .second, .val (.ref b1)] [(.ref b1)])) _
    refine XS.iconst X5.here hx rfl (hb hby d1_21) ?_
    show Steps p.tables e below (T5.setTop (mkF m 22 #[.val (.long q1_0), .second, .val (.ref b1)] [(.int (2 : Int32)), (.ref b1)])) _
    refine XS.lloadN X5.here hx rfl (hb hby d1_22) rfl ?_
    show Steps p.tables e below (T5.setTop (mkF m 23 #[.val (.long q1_0), .second, .val (.ref b1)] [(.long q1_0), (.int (2 : Int32)), (.ref b1)])) _
    refine XS.bipush X5.here hx rfl (hb hby d1_23) ?_
    show Steps p.tables e below (T5.setTop (mkF m 25 #[.val (.long q1_0), .second, .val (.ref b1)] [(.int (16 : Int32)), (.long q1_0), (.int (2 : Int32)), (.ref b1)])) _
    refine XS.lushr X5.here hx rfl (hb hby d1_25) rfl ?_
    show Steps p.tables e below (T5.setTop (mkF m 26 #[.val (.long q1_0), .second, .val (.ref b1)] [(.long ((q1_0.toUInt64 >>> ((16 : Int32) &&& 0x3f).toInt64.toUInt64).toInt64)), (.int (2 : Int32)), (.ref b1)])) _
    refine XS.l2i X5.here hx rfl (hb hby d1_26) rfl ?_
    show Steps p.tables e below (T5.setTop (mkF m 27 #[.val (.long q1_0), .second, .val (.ref b1)] [(.int (((q1_0.toUInt64 >>> ((16 : Int32) &&& 0x3f).toInt64.toUInt64).toInt64).toInt32)), (.int (2 : Int32)), (.ref b1)])) _
    refine XS.i2b X5.here hx rfl (hb hby d1_27) rfl ?_
    show Steps p.tables e below (T5.setTop (mkF m 28 #[.val (.long q1_0), .second, .val (.ref b1)] [(.int ((((q1_0.toUInt64 >>> ((16 : Int32) &&& 0x3f).toInt64.toUInt64).toInt64).toInt32).toInt8.toInt32)), (.int (2 : Int32)), (.ref b1)])) _
    refine st7 _ ?_
    show Steps p.tables e below (T7.setTop (mkF m 29 #[.val (.long q1_0), .second, .val (.ref b1)] [])) _
    refine XS.aloadN X7.here hx rfl (hb hby d1_29) rfl rfl ?_
    show Steps p.tables e below (T7.setTop (mkF m 30 #[.val (.long q1_0), .second, .val (.ref b1)] [(.ref b1)])) _
    refine XS.iconst X7.here hx rfl (hb hby d1_30) ?_
    show Steps p.tables e below (T7.setTop (mkF m 31 #[.val (.long q1_0), .second, .val (.ref b1)] [(.int (3 : Int32)), (.ref b1)])) _
    refine XS.lloadN X7.here hx rfl (hb hby d1_31) rfl ?_
    show Steps p.tables e below (T7.setTop (mkF m 32 #[.val (.long q1_0), .second, .val (.ref b1)] [(.long q1_0), (.int (3 : Int32)), (.ref b1)])) _
    refine XS.bipush X7.here hx rfl (hb hby d1_32) ?_
    show Steps p.tables e below (T7.setTop (mkF m 34 #[.val (.long q1_0), .second, .val (.ref b1)] [(.int (24 : Int32)), (.long q1_0), (.int (3 : Int32)), (.ref b1)])) _
    refine XS.lushr X7.here hx rfl (hb hby d1_34) rfl ?_
    show Steps p.tables e below (T7.setTop (mkF m 35 #[.val (.long q1_0), .second, .val (.ref b1)] [(.long ((q1_0.toUInt64 >>> ((24 : Int32) &&& 0x3f).toInt64.toUInt64).toInt64)), (.int (3 : Int32)), (.ref b1)])) _
    refine XS.l2i X7.here hx rfl (hb hby d1_35) rfl ?_
    show Steps p.tables e below (T7.setTop (mkF m 36 #[.val (.long q1_0), .second, .val (.ref b1)] [(.int (((q1_0.toUInt64 >>> ((24 : Int32) &&& 0x3f).toInt64.toUInt64).toInt64).toInt32)), (.int (3 : Int32)), (.ref b1)])) _
    refine XS.i2b X7.here hx rfl (hb hby d1_36) rfl ?_
    show Steps p.tables e below (T7.setTop (mkF m 37 #[.val (.long q1_0), .second, .val (.ref b1)] [(.int ((((q1_0.toUInt64 >>> ((24 : Int32) &&& 0x3f).toInt64.toUInt64).toInt64).toInt32).toInt8.toInt32)), (.int (3 : Int32)), (.ref b1)])) _
    refine st9 _ ?_
    show Steps p.tables e below (T9.setTop (mkF m 38 #[.val (.long q1_0), .second, .val (.ref b1)] [])) _
    refine XS.aloadN X9.here hx rfl (hb hby d1_38) rfl rfl ?_
    show Steps p.tables e below (T9.setTop (mkF m 39 #[.val (.long q1_0), .second, .val (.ref b1)] [(.ref b1)])) _
    refine XS.iconst X9.here hx rfl (hb hby d1_39) ?_
    show Steps p.tables e below (T9.setTop (mkF m 40 #[.val (.long q1_0), .second, .val (.ref b1)] [(.int (4 : Int32)), (.ref b1)])) _
    refine XS.lloadN X9.here hx rfl (hb hby d1_40) rfl ?_
    show Steps p.tables e below (T9.setTop (mkF m 41 #[.val (.long q1_0), .second, .val (.ref b1)] [(.long q1_0), (.int (4 : Int32)), (.ref b1)])) _
    refine XS.bipush X9.here hx rfl (hb hby d1_41) ?_
    show Steps p.tables e below (T9.setTop (mkF m 43 #[.val (.long q1_0), .second, .val (.ref b1)] [(.int (32 : Int32)), (.long q1_0), (.int (4 : Int32)), (.ref b1)])) _
    refine XS.lushr X9.here hx rfl (hb hby d1_43) rfl ?_
    show Steps p.tables e below (T9.setTop (mkF m 44 #[.val (.long q1_0), .second, .val (.ref b1)] [(.long ((q1_0.toUInt64 >>> ((32 : Int32) &&& 0x3f).toInt64.toUInt64).toInt64)), (.int (4 : Int32)), (.ref b1)])) _
    refine XS.l2i X9.here hx rfl (hb hby d1_44) rfl ?_
    show Steps p.tables e below (T9.setTop (mkF m 45 #[.val (.long q1_0), .second, .val (.ref b1)] [(.int (((q1_0.toUInt64 >>> ((32 : Int32) &&& 0x3f).toInt64.toUInt64).toInt64).toInt32)), (.int (4 : Int32)), (.ref b1)])) _
    refine XS.i2b X9.here hx rfl (hb hby d1_45) rfl ?_
    show Steps p.tables e below (T9.setTop (mkF m 46 #[.val (.long q1_0), .second, .val (.ref b1)] [(.int ((((q1_0.toUInt64 >>> ((32 : Int32) &&& 0x3f).toInt64.toUInt64).toInt64).toInt32).toInt8.toInt32)), (.int (4 : Int32)), (.ref b1)])) _
    refine st11 _ ?_
    show Steps p.tables e below (T11.setTop (mkF m 47 #[.val (.long q1_0), .second, .val (.ref b1)] [])) _
    refine XS.aloadN X11.here hx rfl (hb hby d1_47) rfl rfl ?_
    show Steps p.tables e below (T11.setTop (mkF m 48 #[.val (.long q1_0), .second, .val (.ref b1)] [(.ref b1)])) _
    refine XS.iconst X11.here hx rfl (hb hby d1_48) ?_
    show Steps p.tables e below (T11.setTop (mkF m 49 #[.val (.long q1_0), .second, .val (.ref b1)] [(.int (5 : Int32)), (.ref b1)])) _
    refine XS.lloadN X11.here hx rfl (hb hby d1_49) rfl ?_
    show Steps p.tables e below (T11.setTop (mkF m 50 #[.val (.long q1_0), .second, .val (.ref b1)] [(.long q1_0), (.int (5 : Int32)), (.ref b1)])) _
    refine XS.bipush X11.here hx rfl (hb hby d1_50) ?_
    show Steps p.tables e below (T11.setTop (mkF m 52 #[.val (.long q1_0), .second, .val (.ref b1)] [(.int (40 : Int32)), (.long q1_0), (.int (5 : Int32)), (.ref b1)])) _
    refine XS.lushr X11.here hx rfl (hb hby d1_52) rfl ?_
    show Steps p.tables e below (T11.setTop (mkF m 53 #[.val (.long q1_0), .second, .val (.ref b1)] [(.long ((q1_0.toUInt64 >>> ((40 : Int32) &&& 0x3f).toInt64.toUInt64).toInt64)), (.int (5 : Int32)), (.ref b1)])) _
    refine XS.l2i X11.here hx rfl (hb hby d1_53) rfl ?_
    show Steps p.tables e below (T11.setTop (mkF m 54 #[.val (.long q1_0), .second, .val (.ref b1)] [(.int (((q1_0.toUInt64 >>> ((40 : Int32) &&& 0x3f).toInt64.toUInt64).toInt64).toInt32)), (.int (5 : Int32)), (.ref b1)])) _
    refine XS.i2b X11.here hx rfl (hb hby d1_54) rfl ?_
    show Steps p.tables e below (T11.setTop (mkF m 55 #[.val (.long q1_0), .second, .val (.ref b1)] [(.int ((((q1_0.toUInt64 >>> ((40 : Int32) &&& 0x3f).toInt64.toUInt64).toInt64).toInt32).toInt8.toInt32)), (.int (5 : Int32)), (.ref b1)])) _
    refine st13 _ ?_
    show Steps p.tables e below (T13.setTop (mkF m 56 #[.val (.long q1_0), .second, .val (.ref b1)] [])) _
    refine XS.aloadN X13.here hx rfl (hb hby d1_56) rfl rfl ?_
    show Steps p.tables e below (T13.setTop (mkF m 57 #[.val (.long q1_0), .second, .val (.ref b1)] [(.ref b1)])) _
    refine XS.bipush X13.here hx rfl (hb hby d1_57) ?_
    show Steps p.tables e below (T13.setTop (mkF m 59 #[.val (.long q1_0), .second, .val (.ref b1)] [(.int (6 : Int32)), (.ref b1)])) _
    refine XS.lloadN X13.here hx rfl (hb hby d1_59) rfl ?_
    show Steps p.tables e below (T13.setTop (mkF m 60 #[.val (.long q1_0), .second, .val (.ref b1)] [(.long q1_0), (.int (6 : Int32)), (.ref b1)])) _
    refine XS.bipush X13.here hx rfl (hb hby d1_60) ?_
    show Steps p.tables e below (T13.setTop (mkF m 62 #[.val (.long q1_0), .second, .val (.ref b1)] [(.int (48 : Int32)), (.long q1_0), (.int (6 : Int32)), (.ref b1)])) _
    refine XS.lushr X13.here hx rfl (hb hby d1_62) rfl ?_
    show Steps p.tables e below (T13.setTop (mkF m 63 #[.val (.long q1_0), .second, .val (.ref b1)] [(.long ((q1_0.toUInt64 >>> ((48 : Int32) &&& 0x3f).toInt64.toUInt64).toInt64)), (.int (6 : Int32)), (.ref b1)])) _
    refine XS.l2i X13.here hx rfl (hb hby d1_63) rfl ?_
    show Steps p.tables e below (T13.setTop (mkF m 64 #[.val (.long q1_0), .second, .val (.ref b1)] [(.int (((q1_0.toUInt64 >>> ((48 : Int32) &&& 0x3f).toInt64.toUInt64).toInt64).toInt32)), (.int (6 : Int32)), (.ref b1)])) _
    refine XS.i2b X13.here hx rfl (hb hby d1_64) rfl ?_
    show Steps p.tables e below (T13.setTop (mkF m 65 #[.val (.long q1_0), .second, .val (.ref b1)] [(.int ((((q1_0.toUInt64 >>> ((48 : Int32) &&& 0x3f).toInt64.toUInt64).toInt64).toInt32).toInt8.toInt32)), (.int (6 : Int32)), (.ref b1)])) _
    refine st15 _ ?_
    show Steps p.tables e below (T15.setTop (mkF m 66 #[.val (.long q1_0), .second, .val (.ref b1)] [])) _
    refine XS.aloadN X15.here hx rfl (hb hby d1_66) rfl rfl ?_
    show Steps p.tables e below (T15.setTop (mkF m 67 #[.val (.long q1_0), .second, .val (.ref b1)] [(.ref b1)])) _
    refine XS.bipush X15.here hx rfl (hb hby d1_67) ?_
    show Steps p.tables e below (T15.setTop (mkF m 69 #[.val (.long q1_0), .second, .val (.ref b1)] [(.int (7 : Int32)), (.ref b1)])) _
    refine XS.lloadN X15.here hx rfl (hb hby d1_69) rfl ?_
    show Steps p.tables e below (T15.setTop (mkF m 70 #[.val (.long q1_0), .second, .val (.ref b1)] [(.long q1_0), (.int (7 : Int32)), (.ref b1)])) _
    refine XS.bipush X15.here hx rfl (hb hby d1_70) ?_
    show Steps p.tables e below (T15.setTop (mkF m 72 #[.val (.long q1_0), .second, .val (.ref b1)] [(.int (56 : Int32)), (.long q1_0), (.int (7 : Int32)), (.ref b1)])) _
    refine XS.lushr X15.here hx rfl (hb hby d1_72) rfl ?_
    show Steps p.tables e below (T15.setTop (mkF m 73 #[.val (.long q1_0), .second, .val (.ref b1)] [(.long ((q1_0.toUInt64 >>> ((56 : Int32) &&& 0x3f).toInt64.toUInt64).toInt64)), (.int (7 : Int32)), (.ref b1)])) _
    refine XS.l2i X15.here hx rfl (hb hby d1_73) rfl ?_
    show Steps p.tables e below (T15.setTop (mkF m 74 #[.val (.long q1_0), .second, .val (.ref b1)] [(.int (((q1_0.toUInt64 >>> ((56 : Int32) &&& 0x3f).toInt64.toUInt64).toInt64).toInt32)), (.int (7 : Int32)), (.ref b1)])) _
    refine XS.i2b X15.here hx rfl (hb hby d1_74) rfl ?_
    show Steps p.tables e below (T15.setTop (mkF m 75 #[.val (.long q1_0), .second, .val (.ref b1)] [(.int ((((q1_0.toUInt64 >>> ((56 : Int32) &&& 0x3f).toInt64.toUInt64).toInt64).toInt32).toInt8.toInt32)), (.int (7 : Int32)), (.ref b1)])) _
    refine st17 _ ?_
    show Steps p.tables e below (T17.setTop (mkF m 76 #[.val (.long q1_0), .second, .val (.ref b1)] [])) _
    refine XS.aloadN X17.here hx rfl (hb hby d1_76) rfl rfl ?_
    show Steps p.tables e below (T17.setTop (mkF m 77 #[.val (.long q1_0), .second, .val (.ref b1)] [(.ref b1)])) _
    refine XS.bipush X17.here hx rfl (hb hby d1_77) ?_
    show Steps p.tables e below (T17.setTop (mkF m 79 #[.val (.long q1_0), .second, .val (.ref b1)] [(.int (8 : Int32)), (.ref b1)])) _
    refine XS.lloadN X17.here hx rfl (hb hby d1_79) rfl ?_
    show Steps p.tables e below (T17.setTop (mkF m 80 #[.val (.long q1_0), .second, .val (.ref b1)] [(.long q1_0), (.int (8 : Int32)), (.ref b1)])) _
    refine XS.iconst X17.here hx rfl (hb hby d1_80) ?_
    show Steps p.tables e below (T17.setTop (mkF m 81 #[.val (.long q1_0), .second, .val (.ref b1)] [(.int (4 : Int32)), (.long q1_0), (.int (8 : Int32)), (.ref b1)])) _
    refine XS.lushr X17.here hx rfl (hb hby d1_81) rfl ?_
    show Steps p.tables e below (T17.setTop (mkF m 82 #[.val (.long q1_0), .second, .val (.ref b1)] [(.long ((q1_0.toUInt64 >>> ((4 : Int32) &&& 0x3f).toInt64.toUInt64).toInt64)), (.int (8 : Int32)), (.ref b1)])) _
    refine XS.l2i X17.here hx rfl (hb hby d1_82) rfl ?_
    show Steps p.tables e below (T17.setTop (mkF m 83 #[.val (.long q1_0), .second, .val (.ref b1)] [(.int (((q1_0.toUInt64 >>> ((4 : Int32) &&& 0x3f).toInt64.toUInt64).toInt64).toInt32)), (.int (8 : Int32)), (.ref b1)])) _
    refine XS.i2b X17.here hx rfl (hb hby d1_83) rfl ?_
    show Steps p.tables e below (T17.setTop (mkF m 84 #[.val (.long q1_0), .second, .val (.ref b1)] [(.int ((((q1_0.toUInt64 >>> ((4 : Int32) &&& 0x3f).toInt64.toUInt64).toInt64).toInt32).toInt8.toInt32)), (.int (8 : Int32)), (.ref b1)])) _
    refine st19 _ ?_
    show Steps p.tables e below (T19.setTop (mkF m 85 #[.val (.long q1_0), .second, .val (.ref b1)] [])) _
    refine XS.aloadN X19.here hx rfl (hb hby d1_85) rfl rfl ?_
    show Steps p.tables e below (T19.setTop (mkF m 86 #[.val (.long q1_0), .second, .val (.ref b1)] [(.ref b1)])) _
    refine XS.bipush X19.here hx rfl (hb hby d1_86) ?_
    show Steps p.tables e below (T19.setTop (mkF m 88 #[.val (.long q1_0), .second, .val (.ref b1)] [(.int (9 : Int32)), (.ref b1)])) _
    refine XS.lloadN X19.here hx rfl (hb hby d1_88) rfl ?_
    show Steps p.tables e below (T19.setTop (mkF m 89 #[.val (.long q1_0), .second, .val (.ref b1)] [(.long q1_0), (.int (9 : Int32)), (.ref b1)])) _
    refine XS.bipush X19.here hx rfl (hb hby d1_89) ?_
    show Steps p.tables e below (T19.setTop (mkF m 91 #[.val (.long q1_0), .second, .val (.ref b1)] [(.int (12 : Int32)), (.long q1_0), (.int (9 : Int32)), (.ref b1)])) _
    refine XS.lushr X19.here hx rfl (hb hby d1_91) rfl ?_
    show Steps p.tables e below (T19.setTop (mkF m 92 #[.val (.long q1_0), .second, .val (.ref b1)] [(.long ((q1_0.toUInt64 >>> ((12 : Int32) &&& 0x3f).toInt64.toUInt64).toInt64)), (.int (9 : Int32)), (.ref b1)])) _
    refine XS.l2i X19.here hx rfl (hb hby d1_92) rfl ?_
    show Steps p.tables e below (T19.setTop (mkF m 93 #[.val (.long q1_0), .second, .val (.ref b1)] [(.int (((q1_0.toUInt64 >>> ((12 : Int32) &&& 0x3f).toInt64.toUInt64).toInt64).toInt32)), (.int (9 : Int32)), (.ref b1)])) _
    refine XS.i2b X19.here hx rfl (hb hby d1_93) rfl ?_
    show Steps p.tables e below (T19.setTop (mkF m 94 #[.val (.long q1_0), .second, .val (.ref b1)] [(.int ((((q1_0.toUInt64 >>> ((12 : Int32) &&& 0x3f).toInt64.toUInt64).toInt64).toInt32).toInt8.toInt32)), (.int (9 : Int32)), (.ref b1)])) _
    refine st21 _ ?_
    show Steps p.tables e below (T21.setTop (mkF m 95 #[.val (.long q1_0), .second, .val (.ref b1)] [])) _
    refine XS.aloadN X21.here hx rfl (hb hby d1_95) rfl rfl ?_
    show Steps p.tables e below (T21.setTop (mkF m 96 #[.val (.long q1_0), .second, .val (.ref b1)] [(.ref b1)])) _
    refine XS.bipush X21.here hx rfl (hb hby d1_96) ?_
    show Steps p.tables e below (T21.setTop (mkF m 98 #[.val (.long q1_0), .second, .val (.ref b1)] [(.int (10 : Int32)), (.ref b1)])) _
    refine XS.lloadN X21.here hx rfl (hb hby d1_98) rfl ?_
    show Steps p.tables e below (T21.setTop (mkF m 99 #[.val (.long q1_0), .second, .val (.ref b1)] [(.long q1_0), (.int (10 : Int32)), (.ref b1)])) _
    refine XS.bipush X21.here hx rfl (hb hby d1_99) ?_
    show Steps p.tables e below (T21.setTop (mkF m 101 #[.val (.long q1_0), .second, .val (.ref b1)] [(.int (20 : Int32)), (.long q1_0), (.int (10 : Int32)), (.ref b1)])) _
    refine XS.lushr X21.here hx rfl (hb hby d1_101) rfl ?_
    show Steps p.tables e below (T21.setTop (mkF m 102 #[.val (.long q1_0), .second, .val (.ref b1)] [(.long ((q1_0.toUInt64 >>> ((20 : Int32) &&& 0x3f).toInt64.toUInt64).toInt64)), (.int (10 : Int32)), (.ref b1)])) _
    refine XS.l2i X21.here hx rfl (hb hby d1_102) rfl ?_
    show Steps p.tables e below (T21.setTop (mkF m 103 #[.val (.long q1_0), .second, .val (.ref b1)] [(.int (((q1_0.toUInt64 >>> ((20 : Int32) &&& 0x3f).toInt64.toUInt64).toInt64).toInt32)), (.int (10 : Int32)), (.ref b1)])) _
    refine XS.i2b X21.here hx rfl (hb hby d1_103) rfl ?_
    show Steps p.tables e below (T21.setTop (mkF m 104 #[.val (.long q1_0), .second, .val (.ref b1)] [(.int ((((q1_0.toUInt64 >>> ((20 : Int32) &&& 0x3f).toInt64.toUInt64).toInt64).toInt32).toInt8.toInt32)), (.int (10 : Int32)), (.ref b1)])) _
    refine st23 _ ?_
    show Steps p.tables e below (T23.setTop (mkF m 105 #[.val (.long q1_0), .second, .val (.ref b1)] [])) _
    refine XS.aloadN X23.here hx rfl (hb hby d1_105) rfl rfl ?_
    show Steps p.tables e below (T23.setTop (mkF m 106 #[.val (.long q1_0), .second, .val (.ref b1)] [(.ref b1)])) _
    refine XS.bipush X23.here hx rfl (hb hby d1_106) ?_
    show Steps p.tables e below (T23.setTop (mkF m 108 #[.val (.long q1_0), .second, .val (.ref b1)] [(.int (11 : Int32)), (.ref b1)])) _
    refine XS.lloadN X23.here hx rfl (hb hby d1_108) rfl ?_
    show Steps p.tables e below (T23.setTop (mkF m 109 #[.val (.long q1_0), .second, .val (.ref b1)] [(.long q1_0), (.int (11 : Int32)), (.ref b1)])) _
    refine XS.bipush X23.here hx rfl (hb hby d1_109) ?_
    show Steps p.tables e below (T23.setTop (mkF m 111 #[.val (.long q1_0), .second, .val (.ref b1)] [(.int (28 : Int32)), (.long q1_0), (.int (11 : Int32)), (.ref b1)])) _
    refine XS.lushr X23.here hx rfl (hb hby d1_111) rfl ?_
    show Steps p.tables e below (T23.setTop (mkF m 112 #[.val (.long q1_0), .second, .val (.ref b1)] [(.long ((q1_0.toUInt64 >>> ((28 : Int32) &&& 0x3f).toInt64.toUInt64).toInt64)), (.int (11 : Int32)), (.ref b1)])) _
    refine XS.l2i X23.here hx rfl (hb hby d1_112) rfl ?_
    show Steps p.tables e below (T23.setTop (mkF m 113 #[.val (.long q1_0), .second, .val (.ref b1)] [(.int (((q1_0.toUInt64 >>> ((28 : Int32) &&& 0x3f).toInt64.toUInt64).toInt64).toInt32)), (.int (11 : Int32)), (.ref b1)])) _
    refine XS.i2b X23.here hx rfl (hb hby d1_113) rfl ?_
    show Steps p.tables e below (T23.setTop (mkF m 114 #[.val (.long q1_0), .second, .val (.ref b1)] [(.int ((((q1_0.toUInt64 >>> ((28 : Int32) &&& 0x3f).toInt64.toUInt64).toInt64).toInt32).toInt8.toInt32)), (.int (11 : Int32)), (.ref b1)])) _
    refine st25 _ ?_
    show Steps p.tables e below (T25.setTop (mkF m 115 #[.val (.long q1_0), .second, .val (.ref b1)] [])) _
    refine XS.aloadN X25.here hx rfl (hb hby d1_115) rfl rfl ?_
    show Steps p.tables e below (T25.setTop (mkF m 116 #[.val (.long q1_0), .second, .val (.ref b1)] [(.ref b1)])) _
    jvm_step X25.here [X25.here.top, hx, (hb hby d1_116), X25.method', Bd.returns, Value.isRef, FieldType.isReference]
    first | (intro acts; rw [hr _ acts rfl rfl rfl]) | rw [hr _ _ rfl rfl rfl]
    exact Steps.refl _
  · show Q_rm1 Z q1_0 h0 n0 _ T25.heap _
    rw [e25]
    exact ⟨b1, k1, rfl, N25, K25, sz_b1, V25⟩
theorem d2_0 : decode method_3_code 0 = .ok (.iload 4, 2) := by decide +kernel
theorem d2_2 : decode method_3_code 2 = .ok (.ifCond .le 9, 3) := by decide +kernel
theorem d2_11 : decode method_3_code 11 = .ok (.iload 4, 2) := by decide +kernel
theorem d2_13 : decode method_3_code 13 = .ok (.iconst 1, 1) := by decide +kernel
theorem d2_14 : decode method_3_code 14 = .ok (.if_icmp .le 14, 3) := by decide +kernel
theorem d2_28 : decode method_3_code 28 = .ok (.iload 4, 2) := by decide +kernel
theorem d2_30 : decode method_3_code 30 = .ok (.iconst 2, 1) := by decide +kernel
theorem d2_31 : decode method_3_code 31 = .ok (.if_icmp .le 14, 3) := by decide +kernel
theorem d2_45 : decode method_3_code 45 = .ok (.iload 4, 2) := by decide +kernel
theorem d2_47 : decode method_3_code 47 = .ok (.iconst 3, 1) := by decide +kernel
theorem d2_48 : decode method_3_code 48 = .ok (.if_icmp .le 14, 3) := by decide +kernel
theorem d2_62 : decode method_3_code 62 = .ok (.return_, 1) := by decide +kernel
theorem pn_2 : plainName "com/example/mortise/mortise/join/RecordKeyHashPinLaw" = true := by first | (simp [plainName, overriddenIn]; done) | decide +kernel
theorem ef_rm2_l0 (m : MethodId) (y0 : Addr) (y1 : Int32) (y2 : Int64) : entryFrame m #[(.ref y0), (.int y1), (.long y2), (.int (0 : Int32))] 5 = mkF m 0 #[.val (.ref y0), .val (.int y1), .val (.long y2), .second, .val (.int (0 : Int32))] [] := by first | (simp [entryFrame, mkF, argsToLocals, Value.category]; done) | rfl
def Q_rm2_l0 (Z : State) (a2_0 : Addr) (p2_1 : Int32) (q2_2 : Int64) (h0 : Heap) (n0 : Nat) (v : Option Value) (h : Heap) (L : List Loc) : Prop := v = none ∧ Fr n0 L ∧ h = h0
set_option maxRecDepth 65536 in
set_option maxHeartbeats 40000000 in
theorem rm2_l0 (l : Launch) (Z : State) (a0 : Array Value) (hw : ∀ d ∈ tables_1, d.before a0 Z = true) (ws : List Jvm.Cond) (a2_0 : Addr) (p2_1 : Int32) (q2_2 : Int64) (h0 : Heap) (n0 : Nat) (Z0 : n0 ≤ h0.size) (hoff : ¬ p2_1 < 0 ∧ p2_1 < 8) :
    MetFree l (⟨"com/example/mortise/mortise/join/RecordKeyHashPinLaw", "place", "([BIJI)V"⟩ : MethodName) (head1 (Jvm.Cond.code (⟨"com/example/mortise/mortise/join/RecordKeyHashPinLaw", "place", "([BIJI)V"⟩ : MethodName) method_3_code 5 none :: ws) ({ frames := 0, cells := 0, slots := 0, locals := 0 } : Room)) (fun a U => a = #[(.ref a2_0), (.int p2_1), (.long q2_2), (.int (0 : Int32))] ∧ Z.Warmed39 U.vm ∧ U.heap = h0) (fun _ _ _ _ _ => True) (fun _ U o U' => ∃ v L, o = .returned v ∧ Q_rm2_l0 Z a2_0 p2_1 q2_2 h0 n0 v U'.heap L ∧ FrameEnd U o U' L ({ frames := 0, cells := 0, slots := 0, locals := 0 } : Room).cells ({ frames := 0, cells := 0, slots := 0, locals := 0 } : Room).slots) := by
  refine MetFree.of_bodySF (plainFor_of_name pn_2) hisR ?_
  intro p e s m args below meth c s₁ Bd hml0 hP hK
  obtain ⟨rfl, hZ, hh⟩ := hP
  have hx := Bd.exec
  have hby := Bd.bytes
  have hml : c.maxLocals = 5 := hml0
  have hown : s.vm.findClass "com/example/mortise/mortise/join/RecordKeyHashPinLaw" = some m.cls := findClass_of_methodNamed Bd.named
  have hnm := (name_of_methodNamed Bd.named Bd.method).1
  have X0 : Stand p l e ({ frames := 0, cells := 0, slots := 0, locals := 0 } : Room) s m #[(.ref a2_0), (.int p2_1), (.long q2_2), (.int (0 : Int32))] below meth c s₁ [] 0 0 := Stand.of_body Bd
  have e0 : s₁.heap = h0 := by rw [← hh, Bd.state]; rfl
  have N0 := Fr.nil n0
  have pre0 : ∀ t, Steps p.tables e below (s₁.setTop (mkF m 0 #[.val (.ref a2_0), .val (.int p2_1), .val (.long q2_2), .second, .val (.int (0 : Int32))] [])) t → Steps p.tables e below (s₁.setTop (entryFrame m #[(.ref a2_0), (.int p2_1), (.long q2_2), (.int (0 : Int32))] 5)) t := fun t k => castTop (ef_rm2_l0 m a2_0 p2_1 q2_2) k
  obtain ⟨fs, hr, hrun, hended, hW, hsame⟩ := X0.leave (v := none) (fun _ => rfl)
  refine ⟨_, _, pre0 _ ?_, hrun, hended, _, _, rfl, ?_, ⟨_, rfl⟩, hW, hsame.mono (by decide) (by decide)⟩
  · show Steps p.tables e below (s₁.setTop (mkF m 0 #[.val (.ref a2_0), .val (.int p2_1), .val (.long q2_2), .second, .val (.int (0 : Int32))] [])) _
    refine XS.iload X0.here hx rfl (hb hby d2_0) rfl ?_
    show Steps p.tables e below (s₁.setTop (mkF m 2 #[.val (.ref a2_0), .val (.int p2_1), .val (.long q2_2), .second, .val (.int (0 : Int32))] [(.int (0 : Int32))])) _
    refine XS.ifYes X0.here hx rfl (pc0 := 2) (pc' := 11) rfl (hb hby d2_2) rfl ((if0 _ _).trans (flt (by decide : ¬ ((0 : Int32) < (0 : Int32)))).2.2.2) (by decide) (by decide) ?_
    show Steps p.tables e below (s₁.setTop (mkF m 11 #[.val (.ref a2_0), .val (.int p2_1), .val (.long q2_2), .second, .val (.int (0 : Int32))] [])) _
    refine XS.iload X0.here hx rfl (hb hby d2_11) rfl ?_
    show Steps p.tables e below (s₁.setTop (mkF m 13 #[.val (.ref a2_0), .val (.int p2_1), .val (.long q2_2), .second, .val (.int (0 : Int32))] [(.int (0 : Int32))])) _
    refine XS.iconst X0.here hx rfl (hb hby d2_13) ?_
    show Steps p.tables e below (s₁.setTop (mkF m 14 #[.val (.ref a2_0), .val (.int p2_1), .val (.long q2_2), .second, .val (.int (0 : Int32))] [(.int (1 : Int32)), (.int (0 : Int32))])) _
    refine XS.icmpYes X0.here hx rfl (pc0 := 14) (pc' := 28) rfl (hb hby d2_14) rfl (flt (by decide : ¬ ((1 : Int32) < (0 : Int32)))).2.2.2 (by decide) (by decide) ?_
    show Steps p.tables e below (s₁.setTop (mkF m 28 #[.val (.ref a2_0), .val (.int p2_1), .val (.long q2_2), .second, .val (.int (0 : Int32))] [])) _
    refine XS.iload X0.here hx rfl (hb hby d2_28) rfl ?_
    show Steps p.tables e below (s₁.setTop (mkF m 30 #[.val (.ref a2_0), .val (.int p2_1), .val (.long q2_2), .second, .val (.int (0 : Int32))] [(.int (0 : Int32))])) _
    refine XS.iconst X0.here hx rfl (hb hby d2_30) ?_
    show Steps p.tables e below (s₁.setTop (mkF m 31 #[.val (.ref a2_0), .val (.int p2_1), .val (.long q2_2), .second, .val (.int (0 : Int32))] [(.int (2 : Int32)), (.int (0 : Int32))])) _
    refine XS.icmpYes X0.here hx rfl (pc0 := 31) (pc' := 45) rfl (hb hby d2_31) rfl (flt (by decide : ¬ ((2 : Int32) < (0 : Int32)))).2.2.2 (by decide) (by decide) ?_
    show Steps p.tables e below (s₁.setTop (mkF m 45 #[.val (.ref a2_0), .val (.int p2_1), .val (.long q2_2), .second, .val (.int (0 : Int32))] [])) _
    refine XS.iload X0.here hx rfl (hb hby d2_45) rfl ?_
    show Steps p.tables e below (s₁.setTop (mkF m 47 #[.val (.ref a2_0), .val (.int p2_1), .val (.long q2_2), .second, .val (.int (0 : Int32))] [(.int (0 : Int32))])) _
    refine XS.iconst X0.here hx rfl (hb hby d2_47) ?_
    show Steps p.tables e below (s₁.setTop (mkF m 48 #[.val (.ref a2_0), .val (.int p2_1), .val (.long q2_2), .second, .val (.int (0 : Int32))] [(.int (3 : Int32)), (.int (0 : Int32))])) _
    refine XS.icmpYes X0.here hx rfl (pc0 := 48) (pc' := 62) rfl (hb hby d2_48) rfl (flt (by decide : ¬ ((3 : Int32) < (0 : Int32)))).2.2.2 (by decide) (by decide) ?_
    show Steps p.tables e below (s₁.setTop (mkF m 62 #[.val (.ref a2_0), .val (.int p2_1), .val (.long q2_2), .second, .val (.int (0 : Int32))] [])) _
    exact X0.returnOut hx Bd.returns (hb hby d2_62) hr
  · show Q_rm2_l0 Z a2_0 p2_1 q2_2 h0 n0 _ s₁.heap _
    rw [e0]
    exact ⟨rfl, N0, rfl⟩
theorem d2_5 : decode method_3_code 5 = .ok (.aload_n 0, 1) := by decide +kernel
theorem d2_6 : decode method_3_code 6 = .ok (.iload_n 1, 1) := by decide +kernel
theorem d2_7 : decode method_3_code 7 = .ok (.lload_n 2, 1) := by decide +kernel
theorem d2_8 : decode method_3_code 8 = .ok (.l2i, 1) := by decide +kernel
theorem d2_9 : decode method_3_code 9 = .ok (.i2b, 1) := by decide +kernel
theorem d2_10 : decode method_3_code 10 = .ok (.bastore, 1) := by decide +kernel
theorem ef_rm2_l1 (m : MethodId) (y0 : Addr) (y1 : Int32) (y2 : Int64) : entryFrame m #[(.ref y0), (.int y1), (.long y2), (.int (1 : Int32))] 5 = mkF m 0 #[.val (.ref y0), .val (.int y1), .val (.long y2), .second, .val (.int (1 : Int32))] [] := by first | (simp [entryFrame, mkF, argsToLocals, Value.category]; done) | rfl
def Q_rm2_l1 (Z : State) (a2_0 : Addr) (p2_1 : Int32) (q2_2 : Int64) (f_a2_0 : Int32 → Int32) (h0 : Heap) (n0 : Nat) (v : Option Value) (h : Heap) (L : List Loc) : Prop := v = none ∧ Fr n0 L ∧ Keep h0 h [a2_0] ∧ Bya Z h a2_0 (12 : Int32) (fun i => if i = p2_1 then (nar .byte ((q2_2.toInt32).toInt8.toInt32)) else f_a2_0 i)
set_option maxRecDepth 65536 in
set_option maxHeartbeats 40000000 in
theorem rm2_l1 (l : Launch) (Z : State) (a0 : Array Value) (hw : ∀ d ∈ tables_1, d.before a0 Z = true) (ws : List Jvm.Cond) (a2_0 : Addr) (p2_1 : Int32) (q2_2 : Int64) (f_a2_0 : Int32 → Int32) (h0 : Heap) (n0 : Nat) (Z0 : n0 ≤ h0.size) (hoff : ¬ p2_1 < 0 ∧ p2_1 < 8) (B_a2_0 : Bya Z h0 a2_0 (12 : Int32) f_a2_0) (g_a2_0 : n0 ≤ a2_0) :
    MetFree l (⟨"com/example/mortise/mortise/join/RecordKeyHashPinLaw", "place", "([BIJI)V"⟩ : MethodName) (head1 (Jvm.Cond.code (⟨"com/example/mortise/mortise/join/RecordKeyHashPinLaw", "place", "([BIJI)V"⟩ : MethodName) method_3_code 5 none :: ws) ({ frames := 0, cells := 0, slots := 0, locals := 0 } : Room)) (fun a U => a = #[(.ref a2_0), (.int p2_1), (.long q2_2), (.int (1 : Int32))] ∧ Z.Warmed39 U.vm ∧ U.heap = h0) (fun _ _ _ _ _ => True) (fun _ U o U' => ∃ v L, o = .returned v ∧ Q_rm2_l1 Z a2_0 p2_1 q2_2 f_a2_0 h0 n0 v U'.heap L ∧ FrameEnd U o U' L ({ frames := 0, cells := 0, slots := 0, locals := 0 } : Room).cells ({ frames := 0, cells := 0, slots := 0, locals := 0 } : Room).slots) := by
  refine MetFree.of_bodySF (plainFor_of_name pn_2) hisR ?_
  intro p e s m args below meth c s₁ Bd hml0 hP hK
  obtain ⟨rfl, hZ, hh⟩ := hP
  have hx := Bd.exec
  have hby := Bd.bytes
  have hml : c.maxLocals = 5 := hml0
  have hown : s.vm.findClass "com/example/mortise/mortise/join/RecordKeyHashPinLaw" = some m.cls := findClass_of_methodNamed Bd.named
  have hnm := (name_of_methodNamed Bd.named Bd.method).1
  have X0 : Stand p l e ({ frames := 0, cells := 0, slots := 0, locals := 0 } : Room) s m #[(.ref a2_0), (.int p2_1), (.long q2_2), (.int (1 : Int32))] below meth c s₁ [] 0 0 := Stand.of_body Bd
  have e0 : s₁.heap = h0 := by rw [← hh, Bd.state]; rfl
  have N0 := Fr.nil n0
  have pre0 : ∀ t, Steps p.tables e below (s₁.setTop (mkF m 0 #[.val (.ref a2_0), .val (.int p2_1), .val (.long q2_2), .second, .val (.int (1 : Int32))] [])) t → Steps p.tables e below (s₁.setTop (entryFrame m #[(.ref a2_0), (.int p2_1), (.long q2_2), (.int (1 : Int32))] 5)) t := fun t k => castTop (ef_rm2_l1 m a2_0 p2_1 q2_2) k
  obtain ⟨cl1, Ar1, Sz1, Hh1⟩ := id B_a2_0
  obtain ⟨T2, h2, X2, e2, W2, st2⟩ := stB X0 hx hZ e0 Ar1 (j := p2_1) (inb_of Sz1 (own_ix0 hoff)) (g := (mkF m 10 #[.val (.ref a2_0), .val (.int p2_1), .val (.long q2_2), .second, .val (.int (1 : Int32))] [(.int ((q2_2.toInt32).toInt8.toInt32)), (.int p2_1), (.ref a2_0)])) rfl rfl (hb hby d2_10)
  have B2 := Bya.set Ar1 Sz1 Hh1 (own_ix0 hoff) W2
  obtain ⟨f3, hf3⟩ : ∃ g : Int32 → Int32, g = (fun i => if i = p2_1 then (nar .byte ((q2_2.toInt32).toInt8.toInt32)) else f_a2_0 i) := ⟨_, rfl⟩
  rw [← hf3] at B2
  have K2 : Keep h0 h2 [a2_0] := (Keep.refl h0 [a2_0]).wr W2 (Or.inl (List.mem_of_getElem? (i := 0) rfl))
  have Z2 : n0 ≤ h2.size := Nat.le_trans Z0 K2.1
  have N2 := Fr.snoc X2 N0 g_a2_0
  obtain ⟨fs, hr, hrun, hended, hW, hsame⟩ := X2.leave (v := none) (fun _ => rfl)
  refine ⟨_, _, pre0 _ ?_, hrun, hended, _, _, rfl, ?_, ⟨_, rfl⟩, hW, hsame.mono (by decide) (by decide)⟩
  · show Steps p.tables e below (s₁.setTop (mkF m 0 #[.val (.ref a2_0), .val (.int p2_1), .val (.long q2_2), .second, .val (.int (1 : Int32))] [])) _
    refine XS.iload X0.here hx rfl (hb hby d2_0) rfl ?_
    show Steps p.tables e below (s₁.setTop (mkF m 2 #[.val (.ref a2_0), .val (.int p2_1), .val (.long q2_2), .second, .val (.int (1 : Int32))] [(.int (1 : Int32))])) _
    refine XS.ifNo X0.here hx rfl (hb hby d2_2) rfl ((if0 _ _).trans (tlt (by decide : (0 : Int32) < (1 : Int32))).2.2.2) ?_
    show Steps p.tables e below (s₁.setTop (mkF m 5 #[.val (.ref a2_0), .val (.int p2_1), .val (.long q2_2), .second, .val (.int (1 : Int32))] [])) _
    refine XS.aloadN X0.here hx rfl (hb hby d2_5) rfl rfl ?_
    show Steps p.tables e below (s₁.setTop (mkF m 6 #[.val (.ref a2_0), .val (.int p2_1), .val (.long q2_2), .second, .val (.int (1 : Int32))] [(.ref a2_0)])) _
    refine XS.iloadN X0.here hx rfl (hb hby d2_6) rfl ?_
    show Steps p.tables e below (s₁.setTop (mkF m 7 #[.val (.ref a2_0), .val (.int p2_1), .val (.long q2_2), .second, .val (.int (1 : Int32))] [(.int p2_1), (.ref a2_0)])) _
    refine XS.lloadN X0.here hx rfl (hb hby d2_7) rfl ?_
    show Steps p.tables e below (s₁.setTop (mkF m 8 #[.val (.ref a2_0), .val (.int p2_1), .val (.long q2_2), .second, .val (.int (1 : Int32))] [(.long q2_2), (.int p2_1), (.ref a2_0)])) _
    refine XS.l2i X0.here hx rfl (hb hby d2_8) rfl ?_
    show Steps p.tables e below (s₁.setTop (mkF m 9 #[.val (.ref a2_0), .val (.int p2_1), .val (.long q2_2), .second, .val (.int (1 : Int32))] [(.int (q2_2.toInt32)), (.int p2_1), (.ref a2_0)])) _
    refine XS.i2b X0.here hx rfl (hb hby d2_9) rfl ?_
    show Steps p.tables e below (s₁.setTop (mkF m 10 #[.val (.ref a2_0), .val (.int p2_1), .val (.long q2_2), .second, .val (.int (1 : Int32))] [(.int ((q2_2.toInt32).toInt8.toInt32)), (.int p2_1), (.ref a2_0)])) _
    refine st2 _ ?_
    show Steps p.tables e below (T2.setTop (mkF m 11 #[.val (.ref a2_0), .val (.int p2_1), .val (.long q2_2), .second, .val (.int (1 : Int32))] [])) _
    refine XS.iload X2.here hx rfl (hb hby d2_11) rfl ?_
    show Steps p.tables e below (T2.setTop (mkF m 13 #[.val (.ref a2_0), .val (.int p2_1), .val (.long q2_2), .second, .val (.int (1 : Int32))] [(.int (1 : Int32))])) _
    refine XS.iconst X2.here hx rfl (hb hby d2_13) ?_
    show Steps p.tables e below (T2.setTop (mkF m 14 #[.val (.ref a2_0), .val (.int p2_1), .val (.long q2_2), .second, .val (.int (1 : Int32))] [(.int (1 : Int32)), (.int (1 : Int32))])) _
    refine XS.icmpYes X2.here hx rfl (pc0 := 14) (pc' := 28) rfl (hb hby d2_14) rfl (flt (by decide : ¬ ((1 : Int32) < (1 : Int32)))).2.2.2 (by decide) (by decide) ?_
    show Steps p.tables e below (T2.setTop (mkF m 28 #[.val (.ref a2_0), .val (.int p2_1), .val (.long q2_2), .second, .val (.int (1 : Int32))] [])) _
    refine XS.iload X2.here hx rfl (hb hby d2_28) rfl ?_
    show Steps p.tables e below (T2.setTop (mkF m 30 #[.val (.ref a2_0), .val (.int p2_1), .val (.long q2_2), .second, .val (.int (1 : Int32))] [(.int (1 : Int32))])) _
    refine XS.iconst X2.here hx rfl (hb hby d2_30) ?_
    show Steps p.tables e below (T2.setTop (mkF m 31 #[.val (.ref a2_0), .val (.int p2_1), .val (.long q2_2), .second, .val (.int (1 : Int32))] [(.int (2 : Int32)), (.int (1 : Int32))])) _
    refine XS.icmpYes X2.here hx rfl (pc0 := 31) (pc' := 45) rfl (hb hby d2_31) rfl (flt (by decide : ¬ ((2 : Int32) < (1 : Int32)))).2.2.2 (by decide) (by decide) ?_
    show Steps p.tables e below (T2.setTop (mkF m 45 #[.val (.ref a2_0), .val (.int p2_1), .val (.long q2_2), .second, .val (.int (1 : Int32))] [])) _
    refine XS.iload X2.here hx rfl (hb hby d2_45) rfl ?_
    show Steps p.tables e below (T2.setTop (mkF m 47 #[.val (.ref a2_0), .val (.int p2_1), .val (.long q2_2), .second, .val (.int (1 : Int32))] [(.int (1 : Int32))])) _
    refine XS.iconst X2.here hx rfl (hb hby d2_47) ?_
    show Steps p.tables e below (T2.setTop (mkF m 48 #[.val (.ref a2_0), .val (.int p2_1), .val (.long q2_2), .second, .val (.int (1 : Int32))] [(.int (3 : Int32)), (.int (1 : Int32))])) _
    refine XS.icmpYes X2.here hx rfl (pc0 := 48) (pc' := 62) rfl (hb hby d2_48) rfl (flt (by decide : ¬ ((3 : Int32) < (1 : Int32)))).2.2.2 (by decide) (by decide) ?_
    show Steps p.tables e below (T2.setTop (mkF m 62 #[.val (.ref a2_0), .val (.int p2_1), .val (.long q2_2), .second, .val (.int (1 : Int32))] [])) _
    exact X2.returnOut hx Bd.returns (hb hby d2_62) hr
  · show Q_rm2_l1 Z a2_0 p2_1 q2_2 f_a2_0 h0 n0 _ T2.heap _
    rw [e2]
    subst hf3
    exact ⟨rfl, N2, K2, B2⟩
theorem d2_17 : decode method_3_code 17 = .ok (.aload_n 0, 1) := by decide +kernel
theorem d2_18 : decode method_3_code 18 = .ok (.iload_n 1, 1) := by decide +kernel
theorem d2_19 : decode method_3_code 19 = .ok (.iconst 1, 1) := by decide +kernel
theorem d2_20 : decode method_3_code 20 = .ok (.iadd, 1) := by decide +kernel
theorem d2_21 : decode method_3_code 21 = .ok (.lload_n 2, 1) := by decide +kernel
theorem d2_22 : decode method_3_code 22 = .ok (.bipush 8, 2) := by decide +kernel
theorem d2_24 : decode method_3_code 24 = .ok (.lushr, 1) := by decide +kernel
theorem d2_25 : decode method_3_code 25 = .ok (.l2i, 1) := by decide +kernel
theorem d2_26 : decode method_3_code 26 = .ok (.i2b, 1) := by decide +kernel
theorem d2_27 : decode method_3_code 27 = .ok (.bastore, 1) := by decide +kernel
theorem ef_rm2_l2 (m : MethodId) (y0 : Addr) (y1 : Int32) (y2 : Int64) : entryFrame m #[(.ref y0), (.int y1), (.long y2), (.int (2 : Int32))] 5 = mkF m 0 #[.val (.ref y0), .val (.int y1), .val (.long y2), .second, .val (.int (2 : Int32))] [] := by first | (simp [entryFrame, mkF, argsToLocals, Value.category]; done) | rfl
def Q_rm2_l2 (Z : State) (a2_0 : Addr) (p2_1 : Int32) (q2_2 : Int64) (f_a2_0 : Int32 → Int32) (h0 : Heap) (n0 : Nat) (v : Option Value) (h : Heap) (L : List Loc) : Prop := v = none ∧ Fr n0 L ∧ Keep h0 h [a2_0] ∧ Bya Z h a2_0 (12 : Int32) (fun i => if i = (p2_1 + (1 : Int32)) then (nar .byte ((((q2_2.toUInt64 >>> ((8 : Int32) &&& 0x3f).toInt64.toUInt64).toInt64).toInt32).toInt8.toInt32)) else (fun i => if i = p2_1 then (nar .byte ((q2_2.toInt32).toInt8.toInt32)) else f_a2_0 i) i)
set_option maxRecDepth 65536 in
set_option maxHeartbeats 40000000 in
theorem rm2_l2 (l : Launch) (Z : State) (a0 : Array Value) (hw : ∀ d ∈ tables_1, d.before a0 Z = true) (ws : List Jvm.Cond) (a2_0 : Addr) (p2_1 : Int32) (q2_2 : Int64) (f_a2_0 : Int32 → Int32) (h0 : Heap) (n0 : Nat) (Z0 : n0 ≤ h0.size) (hoff : ¬ p2_1 < 0 ∧ p2_1 < 8) (B_a2_0 : Bya Z h0 a2_0 (12 : Int32) f_a2_0) (g_a2_0 : n0 ≤ a2_0) :
    MetFree l (⟨"com/example/mortise/mortise/join/RecordKeyHashPinLaw", "place", "([BIJI)V"⟩ : MethodName) (head1 (Jvm.Cond.code (⟨"com/example/mortise/mortise/join/RecordKeyHashPinLaw", "place", "([BIJI)V"⟩ : MethodName) method_3_code 5 none :: ws) ({ frames := 0, cells := 0, slots := 0, locals := 0 } : Room)) (fun a U => a = #[(.ref a2_0), (.int p2_1), (.long q2_2), (.int (2 : Int32))] ∧ Z.Warmed39 U.vm ∧ U.heap = h0) (fun _ _ _ _ _ => True) (fun _ U o U' => ∃ v L, o = .returned v ∧ Q_rm2_l2 Z a2_0 p2_1 q2_2 f_a2_0 h0 n0 v U'.heap L ∧ FrameEnd U o U' L ({ frames := 0, cells := 0, slots := 0, locals := 0 } : Room).cells ({ frames := 0, cells := 0, slots := 0, locals := 0 } : Room).slots) := by
  refine MetFree.of_bodySF (plainFor_of_name pn_2) hisR ?_
  intro p e s m args below meth c s₁ Bd hml0 hP hK
  obtain ⟨rfl, hZ, hh⟩ := hP
  have hx := Bd.exec
  have hby := Bd.bytes
  have hml : c.maxLocals = 5 := hml0
  have hown : s.vm.findClass "com/example/mortise/mortise/join/RecordKeyHashPinLaw" = some m.cls := findClass_of_methodNamed Bd.named
  have hnm := (name_of_methodNamed Bd.named Bd.method).1
  have X0 : Stand p l e ({ frames := 0, cells := 0, slots := 0, locals := 0 } : Room) s m #[(.ref a2_0), (.int p2_1), (.long q2_2), (.int (2 : Int32))] below meth c s₁ [] 0 0 := Stand.of_body Bd
  have e0 : s₁.heap = h0 := by rw [← hh, Bd.state]; rfl
  have N0 := Fr.nil n0
  have pre0 : ∀ t, Steps p.tables e below (s₁.setTop (mkF m 0 #[.val (.ref a2_0), .val (.int p2_1), .val (.long q2_2), .second, .val (.int (2 : Int32))] [])) t → Steps p.tables e below (s₁.setTop (entryFrame m #[(.ref a2_0), (.int p2_1), (.long q2_2), (.int (2 : Int32))] 5)) t := fun t k => castTop (ef_rm2_l2 m a2_0 p2_1 q2_2) k
  obtain ⟨cl1, Ar1, Sz1, Hh1⟩ := id B_a2_0
  obtain ⟨T2, h2, X2, e2, W2, st2⟩ := stB X0 hx hZ e0 Ar1 (j := p2_1) (inb_of Sz1 (own_ix0 hoff)) (g := (mkF m 10 #[.val (.ref a2_0), .val (.int p2_1), .val (.long q2_2), .second, .val (.int (2 : Int32))] [(.int ((q2_2.toInt32).toInt8.toInt32)), (.int p2_1), (.ref a2_0)])) rfl rfl (hb hby d2_10)
  have B2 := Bya.set Ar1 Sz1 Hh1 (own_ix0 hoff) W2
  obtain ⟨f3, hf3⟩ : ∃ g : Int32 → Int32, g = (fun i => if i = p2_1 then (nar .byte ((q2_2.toInt32).toInt8.toInt32)) else f_a2_0 i) := ⟨_, rfl⟩
  rw [← hf3] at B2
  have K2 : Keep h0 h2 [a2_0] := (Keep.refl h0 [a2_0]).wr W2 (Or.inl (List.mem_of_getElem? (i := 0) rfl))
  have Z2 : n0 ≤ h2.size := Nat.le_trans Z0 K2.1
  have N2 := Fr.snoc X2 N0 g_a2_0
  obtain ⟨cl4, Ar4, Sz4, Hh4⟩ := id B2
  obtain ⟨T5, h5, X5, e5, W5, st5⟩ := stB X2 hx hZ e2 Ar4 (j := (p2_1 + (1 : Int32))) (inb_of Sz4 (own_ix hoff (c := (1 : Int32)) (by decide))) (g := (mkF m 27 #[.val (.ref a2_0), .val (.int p2_1), .val (.long q2_2), .second, .val (.int (2 : Int32))] [(.int ((((q2_2.toUInt64 >>> ((8 : Int32) &&& 0x3f).toInt64.toUInt64).toInt64).toInt32).toInt8.toInt32)), (.int (p2_1 + (1 : Int32))), (.ref a2_0)])) rfl rfl (hb hby d2_27)
  have B5 := Bya.set Ar4 Sz4 Hh4 (own_ix hoff (c := (1 : Int32)) (by decide)) W5
  obtain ⟨f6, hf6⟩ : ∃ g : Int32 → Int32, g = (fun i => if i = (p2_1 + (1 : Int32)) then (nar .byte ((((q2_2.toUInt64 >>> ((8 : Int32) &&& 0x3f).toInt64.toUInt64).toInt64).toInt32).toInt8.toInt32)) else f3 i) := ⟨_, rfl⟩
  rw [← hf6] at B5
  have K5 : Keep h0 h5 [a2_0] := K2.wr W5 (Or.inl (List.mem_of_getElem? (i := 0) rfl))
  have Z5 : n0 ≤ h5.size := Nat.le_trans Z0 K5.1
  have N5 := Fr.snoc X5 N2 g_a2_0
  obtain ⟨fs, hr, hrun, hended, hW, hsame⟩ := X5.leave (v := none) (fun _ => rfl)
  refine ⟨_, _, pre0 _ ?_, hrun, hended, _, _, rfl, ?_, ⟨_, rfl⟩, hW, hsame.mono (by decide) (by decide)⟩
  · show Steps p.tables e below (s₁.setTop (mkF m 0 #[.val (.ref a2_0), .val (.int p2_1), .val (.long q2_2), .second, .val (.int (2 : Int32))] [])) _
    refine XS.iload X0.here hx rfl (hb hby d2_0) rfl ?_
    show Steps p.tables e below (s₁.setTop (mkF m 2 #[.val (.ref a2_0), .val (.int p2_1), .val (.long q2_2), .second, .val (.int (2 : Int32))] [(.int (2 : Int32))])) _
    refine XS.ifNo X0.here hx rfl (hb hby d2_2) rfl ((if0 _ _).trans (tlt (by decide : (0 : Int32) < (2 : Int32))).2.2.2) ?_
    show Steps p.tables e below (s₁.setTop (mkF m 5 #[.val (.ref a2_0), .val (.int p2_1), .val (.long q2_2), .second, .val (.int (2 : Int32))] [])) _
    refine XS.aloadN X0.here hx rfl (hb hby d2_5) rfl rfl ?_
    show Steps p.tables e below (s₁.setTop (mkF m 6 #[.val (.ref a2_0), .val (.int p2_1), .val (.long q2_2), .second, .val (.int (2 : Int32))] [(.ref a2_0)])) _
    refine XS.iloadN X0.here hx rfl (hb hby d2_6) rfl ?_
    show Steps p.tables e below (s₁.setTop (mkF m 7 #[.val (.ref a2_0), .val (.int p2_1), .val (.long q2_2), .second, .val (.int (2 : Int32))] [(.int p2_1), (.ref a2_0)])) _
    refine XS.lloadN X0.here hx rfl (hb hby d2_7) rfl ?_
    show Steps p.tables e below (s₁.setTop (mkF m 8 #[.val (.ref a2_0), .val (.int p2_1), .val (.long q2_2), .second, .val (.int (2 : Int32))] [(.long q2_2), (.int p2_1), (.ref a2_0)])) _
    refine XS.l2i X0.here hx rfl (hb hby d2_8) rfl ?_
    show Steps p.tables e below (s₁.setTop (mkF m 9 #[.val (.ref a2_0), .val (.int p2_1), .val (.long q2_2), .second, .val (.int (2 : Int32))] [(.int (q2_2.toInt32)), (.int p2_1), (.ref a2_0)])) _
    refine XS.i2b X0.here hx rfl (hb hby d2_9) rfl ?_
    show Steps p.tables e below (s₁.setTop (mkF m 10 #[.val (.ref a2_0), .val (.int p2_1), .val (.long q2_2), .second, .val (.int (2 : Int32))] [(.int ((q2_2.toInt32).toInt8.toInt32)), (.int p2_1), (.ref a2_0)])) _
    refine st2 _ ?_
    show Steps p.tables e below (T2.setTop (mkF m 11 #[.val (.ref a2_0), .val (.int p2_1), .val (.long q2_2), .second, .val (.int (2 : Int32))] [])) _
    refine XS.iload X2.here hx rfl (hb hby d2_11) rfl ?_
    show Steps p.tables e below (T2.setTop (mkF m 13 #[.val (.ref a2_0), .val (.int p2_1), .val (.long q2_2), .second, .val (.int (2 : Int32))] [(.int (2 : Int32))])) _
    refine XS.iconst X2.here hx rfl (hb hby d2_13) ?_
    show Steps p.tables e below (T2.setTop (mkF m 14 #[.val (.ref a2_0), .val (.int p2_1), .val (.long q2_2), .second, .val (.int (2 : Int32))] [(.int (1 : Int32)), (.int (2 : Int32))])) _
    refine XS.icmpNo X2.here hx rfl (hb hby d2_14) rfl (tlt (by decide : (1 : Int32) < (2 : Int32))).2.2.2 ?_
    show Steps p.tables e below (T2.setTop (mkF m 17 #[.val (.ref a2_0), .val (.int p2_1), .val (.long q2_2), .second, .val (.int (2 : Int32))] [])) _
    refine XS.aloadN X2.here hx rfl (hb hby d2_17) rfl rfl ?_
    show Steps p.tables e below (T2.setTop (mkF m 18 #[.val (.ref a2_0), .val (.int p2_1), .val (.long q2_2), .second, .val (.int (2 : Int32))] [(.ref a2_0)])) _
    refine XS.iloadN X2.here hx rfl (hb hby d2_18) rfl ?_
    show Steps p.tables e below (T2.setTop (mkF m 19 #[.val (.ref a2_0), .val (.int p2_1), .val (.long q2_2), .second, .val (.int (2 : Int32))] [(.int p2_1), (.ref a2_0)])) _
    refine XS.iconst X2.here hx rfl (hb hby d2_19) ?_
    show Steps p.tables e below (T2.setTop (mkF m 20 #[.val (.ref a2_0), .val (.int p2_1), .val (.long q2_2), .second, .val (.int (2 : Int32))] [(.int (1 : Int32)), (.int p2_1), (.ref a2_0)])) _
    refine XS.iadd X2.here hx rfl (hb hby d2_20) rfl ?_
    show Steps p.tables e below (T2.setTop (mkF m 21 #[.val (.ref a2_0), .val (.int p2_1), .val (.long q2_2), .second, .val (.int (2 : Int32))] [(.int (p2_1 + (1 : Int32))), (.ref a2_0)])) _
    refine XS.lloadN X2.here hx rfl (hb hby d2_21) rfl ?_
    show Steps p.tables e below (T2.setTop (mkF m 22 #[.val (.ref a2_0), .val (.int p2_1), .val (.long q2_2), .second, .val (.int (2 : Int32))] [(.long q2_2), (.int (p2_1 + (1 : Int32))), (.ref a2_0)])) _
    refine XS.bipush X2.here hx rfl (hb hby d2_22) ?_
    show Steps p.tables e below (T2.setTop (mkF m 24 #[.val (.ref a2_0), .val (.int p2_1), .val (.long q2_2), .second, .val (.int (2 : Int32))] [(.int (8 : Int32)), (.long q2_2), (.int (p2_1 + (1 : Int32))), (.ref a2_0)])) _
    refine XS.lushr X2.here hx rfl (hb hby d2_24) rfl ?_
    show Steps p.tables e below (T2.setTop (mkF m 25 #[.val (.ref a2_0), .val (.int p2_1), .val (.long q2_2), .second, .val (.int (2 : Int32))] [(.long ((q2_2.toUInt64 >>> ((8 : Int32) &&& 0x3f).toInt64.toUInt64).toInt64)), (.int (p2_1 + (1 : Int32))), (.ref a2_0)])) _
    refine XS.l2i X2.here hx rfl (hb hby d2_25) rfl ?_
    show Steps p.tables e below (T2.setTop (mkF m 26 #[.val (.ref a2_0), .val (.int p2_1), .val (.long q2_2), .second, .val (.int (2 : Int32))] [(.int (((q2_2.toUInt64 >>> ((8 : Int32) &&& 0x3f).toInt64.toUInt64).toInt64).toInt32)), (.int (p2_1 + (1 : Int32))), (.ref a2_0)])) _
    refine XS.i2b X2.here hx rfl (hb hby d2_26) rfl ?_
    show Steps p.tables e below (T2.setTop (mkF m 27 #[.val (.ref a2_0), .val (.int p2_1), .val (.long q2_2), .second, .val (.int (2 : Int32))] [(.int ((((q2_2.toUInt64 >>> ((8 : Int32) &&& 0x3f).toInt64.toUInt64).toInt64).toInt32).toInt8.toInt32)), (.int (p2_1 + (1 : Int32))), (.ref a2_0)])) _
    refine st5 _ ?_
    show Steps p.tables e below (T5.setTop (mkF m 28 #[.val (.ref a2_0), .val (.int p2_1), .val (.long q2_2), .second, .val (.int (2 : Int32))] [])) _
    refine XS.iload X5.here hx rfl (hb hby d2_28) rfl ?_
    show Steps p.tables e below (T5.setTop (mkF m 30 #[.val (.ref a2_0), .val (.int p2_1), .val (.long q2_2), .second, .val (.int (2 : Int32))] [(.int (2 : Int32))])) _
    refine XS.iconst X5.here hx rfl (hb hby d2_30) ?_
    show Steps p.tables e below (T5.setTop (mkF m 31 #[.val (.ref a2_0), .val (.int p2_1), .val (.long q2_2), .second, .val (.int (2 : Int32))] [(.int (2 : Int32)), (.int (2 : Int32))])) _
    refine XS.icmpYes X5.here hx rfl (pc0 := 31) (pc' := 45) rfl (hb hby d2_31) rfl (flt (by decide : ¬ ((2 : Int32) < (2 : Int32)))).2.2.2 (by decide) (by decide) ?_
    show Steps p.tables e below (T5.setTop (mkF m 45 #[.val (.ref a2_0), .val (.int p2_1), .val (.long q2_2), .second, .val (.int (2 : Int32))] [])) _
    refine XS.iload X5.here hx rfl (hb hby d2_45) rfl ?_
    show Steps p.tables e below (T5.setTop (mkF m 47 #[.val (.ref a2_0), .val (.int p2_1), .val (.long q2_2), .second, .val (.int (2 : Int32))] [(.int (2 : Int32))])) _
    refine XS.iconst X5.here hx rfl (hb hby d2_47) ?_
    show Steps p.tables e below (T5.setTop (mkF m 48 #[.val (.ref a2_0), .val (.int p2_1), .val (.long q2_2), .second, .val (.int (2 : Int32))] [(.int (3 : Int32)), (.int (2 : Int32))])) _
    refine XS.icmpYes X5.here hx rfl (pc0 := 48) (pc' := 62) rfl (hb hby d2_48) rfl (flt (by decide : ¬ ((3 : Int32) < (2 : Int32)))).2.2.2 (by decide) (by decide) ?_
    show Steps p.tables e below (T5.setTop (mkF m 62 #[.val (.ref a2_0), .val (.int p2_1), .val (.long q2_2), .second, .val (.int (2 : Int32))] [])) _
    exact X5.returnOut hx Bd.returns (hb hby d2_62) hr
  · show Q_rm2_l2 Z a2_0 p2_1 q2_2 f_a2_0 h0 n0 _ T5.heap _
    rw [e5]
    subst hf6
    subst hf3
    exact ⟨rfl, N5, K5, B5⟩
theorem d2_34 : decode method_3_code 34 = .ok (.aload_n 0, 1) := by decide +kernel
theorem d2_35 : decode method_3_code 35 = .ok (.iload_n 1, 1) := by decide +kernel
theorem d2_36 : decode method_3_code 36 = .ok (.iconst 2, 1) := by decide +kernel
theorem d2_37 : decode method_3_code 37 = .ok (.iadd, 1) := by decide +kernel
theorem d2_38 : decode method_3_code 38 = .ok (.lload_n 2, 1) := by decide +kernel
theorem d2_39 : decode method_3_code 39 = .ok (.bipush 16, 2) := by decide +kernel
theorem d2_41 : decode method_3_code 41 = .ok (.lushr, 1) := by decide +kernel
theorem d2_42 : decode method_3_code 42 = .ok (.l2i, 1) := by decide +kernel
theorem d2_43 : decode method_3_code 43 = .ok (.i2b, 1) := by decide +kernel
theorem d2_44 : decode method_3_code 44 = .ok (.bastore, 1) := by decide +kernel
theorem ef_rm2_l3 (m : MethodId) (y0 : Addr) (y1 : Int32) (y2 : Int64) : entryFrame m #[(.ref y0), (.int y1), (.long y2), (.int (3 : Int32))] 5 = mkF m 0 #[.val (.ref y0), .val (.int y1), .val (.long y2), .second, .val (.int (3 : Int32))] [] := by first | (simp [entryFrame, mkF, argsToLocals, Value.category]; done) | rfl
def Q_rm2_l3 (Z : State) (a2_0 : Addr) (p2_1 : Int32) (q2_2 : Int64) (f_a2_0 : Int32 → Int32) (h0 : Heap) (n0 : Nat) (v : Option Value) (h : Heap) (L : List Loc) : Prop := v = none ∧ Fr n0 L ∧ Keep h0 h [a2_0] ∧ Bya Z h a2_0 (12 : Int32) (fun i => if i = (p2_1 + (2 : Int32)) then (nar .byte ((((q2_2.toUInt64 >>> ((16 : Int32) &&& 0x3f).toInt64.toUInt64).toInt64).toInt32).toInt8.toInt32)) else (fun i => if i = (p2_1 + (1 : Int32)) then (nar .byte ((((q2_2.toUInt64 >>> ((8 : Int32) &&& 0x3f).toInt64.toUInt64).toInt64).toInt32).toInt8.toInt32)) else (fun i => if i = p2_1 then (nar .byte ((q2_2.toInt32).toInt8.toInt32)) else f_a2_0 i) i) i)
set_option maxRecDepth 65536 in
set_option maxHeartbeats 40000000 in
theorem rm2_l3 (l : Launch) (Z : State) (a0 : Array Value) (hw : ∀ d ∈ tables_1, d.before a0 Z = true) (ws : List Jvm.Cond) (a2_0 : Addr) (p2_1 : Int32) (q2_2 : Int64) (f_a2_0 : Int32 → Int32) (h0 : Heap) (n0 : Nat) (Z0 : n0 ≤ h0.size) (hoff : ¬ p2_1 < 0 ∧ p2_1 < 8) (B_a2_0 : Bya Z h0 a2_0 (12 : Int32) f_a2_0) (g_a2_0 : n0 ≤ a2_0) :
    MetFree l (⟨"com/example/mortise/mortise/join/RecordKeyHashPinLaw", "place", "([BIJI)V"⟩ : MethodName) (head1 (Jvm.Cond.code (⟨"com/example/mortise/mortise/join/RecordKeyHashPinLaw", "place", "([BIJI)V"⟩ : MethodName) method_3_code 5 none :: ws) ({ frames := 0, cells := 0, slots := 0, locals := 0 } : Room)) (fun a U => a = #[(.ref a2_0), (.int p2_1), (.long q2_2), (.int (3 : Int32))] ∧ Z.Warmed39 U.vm ∧ U.heap = h0) (fun _ _ _ _ _ => True) (fun _ U o U' => ∃ v L, o = .returned v ∧ Q_rm2_l3 Z a2_0 p2_1 q2_2 f_a2_0 h0 n0 v U'.heap L ∧ FrameEnd U o U' L ({ frames := 0, cells := 0, slots := 0, locals := 0 } : Room).cells ({ frames := 0, cells := 0, slots := 0, locals := 0 } : Room).slots) := by
  refine MetFree.of_bodySF (plainFor_of_name pn_2) hisR ?_
  intro p e s m args below meth c s₁ Bd hml0 hP hK
  obtain ⟨rfl, hZ, hh⟩ := hP
  have hx := Bd.exec
  have hby := Bd.bytes
  have hml : c.maxLocals = 5 := hml0
  have hown : s.vm.findClass "com/example/mortise/mortise/join/RecordKeyHashPinLaw" = some m.cls := findClass_of_methodNamed Bd.named
  have hnm := (name_of_methodNamed Bd.named Bd.method).1
  have X0 : Stand p l e ({ frames := 0, cells := 0, slots := 0, locals := 0 } : Room) s m #[(.ref a2_0), (.int p2_1), (.long q2_2), (.int (3 : Int32))] below meth c s₁ [] 0 0 := Stand.of_body Bd
  have e0 : s₁.heap = h0 := by rw [← hh, Bd.state]; rfl
  have N0 := Fr.nil n0
  have pre0 : ∀ t, Steps p.tables e below (s₁.setTop (mkF m 0 #[.val (.ref a2_0), .val (.int p2_1), .val (.long q2_2), .second, .val (.int (3 : Int32))] [])) t → Steps p.tables e below (s₁.setTop (entryFrame m #[(.ref a2_0), (.int p2_1), (.long q2_2), (.int (3 : Int32))] 5)) t := fun t k => castTop (ef_rm2_l3 m a2_0 p2_1 q2_2) k
  obtain ⟨cl1, Ar1, Sz1, Hh1⟩ := id B_a2_0
  obtain ⟨T2, h2, X2, e2, W2, st2⟩ := stB X0 hx hZ e0 Ar1 (j := p2_1) (inb_of Sz1 (own_ix0 hoff)) (g := (mkF m 10 #[.val (.ref a2_0), .val (.int p2_1), .val (.long q2_2), .second, .val (.int (3 : Int32))] [(.int ((q2_2.toInt32).toInt8.toInt32)), (.int p2_1), (.ref a2_0)])) rfl rfl (hb hby d2_10)
  have B2 := Bya.set Ar1 Sz1 Hh1 (own_ix0 hoff) W2
  obtain ⟨f3, hf3⟩ : ∃ g : Int32 → Int32, g = (fun i => if i = p2_1 then (nar .byte ((q2_2.toInt32).toInt8.toInt32)) else f_a2_0 i) := ⟨_, rfl⟩
  rw [← hf3] at B2
  have K2 : Keep h0 h2 [a2_0] := (Keep.refl h0 [a2_0]).wr W2 (Or.inl (List.mem_of_getElem? (i := 0) rfl))
  have Z2 : n0 ≤ h2.size := Nat.le_trans Z0 K2.1
  have N2 := Fr.snoc X2 N0 g_a2_0
  obtain ⟨cl4, Ar4, Sz4, Hh4⟩ := id B2
  obtain ⟨T5, h5, X5, e5, W5, st5⟩ := stB X2 hx hZ e2 Ar4 (j := (p2_1 + (1 : Int32))) (inb_of Sz4 (own_ix hoff (c := (1 : Int32)) (by decide))) (g := (mkF m 27 #[.val (.ref a2_0), .val (.int p2_1), .val (.long q2_2), .second, .val (.int (3 : Int32))] [(.int ((((q2_2.toUInt64 >>> ((8 : Int32) &&& 0x3f).toInt64.toUInt64).toInt64).toInt32).toInt8.toInt32)), (.int (p2_1 + (1 : Int32))), (.ref a2_0)])) rfl rfl (hb hby d2_27)
  have B5 := Bya.set Ar4 Sz4 Hh4 (own_ix hoff (c := (1 : Int32)) (by decide)) W5
  obtain ⟨f6, hf6⟩ : ∃ g : Int32 → Int32, g = (fun i => if i = (p2_1 + (1 : Int32)) then (nar .byte ((((q2_2.toUInt64 >>> ((8 : Int32) &&& 0x3f).toInt64.toUInt64).toInt64).toInt32).toInt8.toInt32)) else f3 i) := ⟨_, rfl⟩
  rw [← hf6] at B5
  have K5 : Keep h0 h5 [a2_0] := K2.wr W5 (Or.inl (List.mem_of_getElem? (i := 0) rfl))
  have Z5 : n0 ≤ h5.size := Nat.le_trans Z0 K5.1
  have N5 := Fr.snoc X5 N2 g_a2_0
  obtain ⟨cl7, Ar7, Sz7, Hh7⟩ := id B5
  obtain ⟨T8, h8, X8, e8, W8, st8⟩ := stB X5 hx hZ e5 Ar7 (j := (p2_1 + (2 : Int32))) (inb_of Sz7 (own_ix hoff (c := (2 : Int32)) (by decide))) (g := (mkF m 44 #[.val (.ref a2_0), .val (.int p2_1), .val (.long q2_2), .second, .val (.int (3 : Int32))] [(.int ((((q2_2.toUInt64 >>> ((16 : Int32) &&& 0x3f).toInt64.toUInt64).toInt64).toInt32).toInt8.toInt32)), (.int (p2_1 + (2 : Int32))), (.ref a2_0)])) rfl rfl (hb hby d2_44)
  have B8 := Bya.set Ar7 Sz7 Hh7 (own_ix hoff (c := (2 : Int32)) (by decide)) W8
  obtain ⟨f9, hf9⟩ : ∃ g : Int32 → Int32, g = (fun i => if i = (p2_1 + (2 : Int32)) then (nar .byte ((((q2_2.toUInt64 >>> ((16 : Int32) &&& 0x3f).toInt64.toUInt64).toInt64).toInt32).toInt8.toInt32)) else f6 i) := ⟨_, rfl⟩
  rw [← hf9] at B8
  have K8 : Keep h0 h8 [a2_0] := K5.wr W8 (Or.inl (List.mem_of_getElem? (i := 0) rfl))
  have Z8 : n0 ≤ h8.size := Nat.le_trans Z0 K8.1
  have N8 := Fr.snoc X8 N5 g_a2_0
  obtain ⟨fs, hr, hrun, hended, hW, hsame⟩ := X8.leave (v := none) (fun _ => rfl)
  refine ⟨_, _, pre0 _ ?_, hrun, hended, _, _, rfl, ?_, ⟨_, rfl⟩, hW, hsame.mono (by decide) (by decide)⟩
  · show Steps p.tables e below (s₁.setTop (mkF m 0 #[.val (.ref a2_0), .val (.int p2_1), .val (.long q2_2), .second, .val (.int (3 : Int32))] [])) _
    refine XS.iload X0.here hx rfl (hb hby d2_0) rfl ?_
    show Steps p.tables e below (s₁.setTop (mkF m 2 #[.val (.ref a2_0), .val (.int p2_1), .val (.long q2_2), .second, .val (.int (3 : Int32))] [(.int (3 : Int32))])) _
    refine XS.ifNo X0.here hx rfl (hb hby d2_2) rfl ((if0 _ _).trans (tlt (by decide : (0 : Int32) < (3 : Int32))).2.2.2) ?_
    show Steps p.tables e below (s₁.setTop (mkF m 5 #[.val (.ref a2_0), .val (.int p2_1), .val (.long q2_2), .second, .val (.int (3 : Int32))] [])) _
    refine XS.aloadN X0.here hx rfl (hb hby d2_5) rfl rfl ?_
    show Steps p.tables e below (s₁.setTop (mkF m 6 #[.val (.ref a2_0), .val (.int p2_1), .val (.long q2_2), .second, .val (.int (3 : Int32))] [(.ref a2_0)])) _
    refine XS.iloadN X0.here hx rfl (hb hby d2_6) rfl ?_
    show Steps p.tables e below (s₁.setTop (mkF m 7 #[.val (.ref a2_0), .val (.int p2_1), .val (.long q2_2), .second, .val (.int (3 : Int32))] [(.int p2_1), (.ref a2_0)])) _
    refine XS.lloadN X0.here hx rfl (hb hby d2_7) rfl ?_
    show Steps p.tables e below (s₁.setTop (mkF m 8 #[.val (.ref a2_0), .val (.int p2_1), .val (.long q2_2), .second, .val (.int (3 : Int32))] [(.long q2_2), (.int p2_1), (.ref a2_0)])) _
    refine XS.l2i X0.here hx rfl (hb hby d2_8) rfl ?_
    show Steps p.tables e below (s₁.setTop (mkF m 9 #[.val (.ref a2_0), .val (.int p2_1), .val (.long q2_2), .second, .val (.int (3 : Int32))] [(.int (q2_2.toInt32)), (.int p2_1), (.ref a2_0)])) _
    refine XS.i2b X0.here hx rfl (hb hby d2_9) rfl ?_
    show Steps p.tables e below (s₁.setTop (mkF m 10 #[.val (.ref a2_0), .val (.int p2_1), .val (.long q2_2), .second, .val (.int (3 : Int32))] [(.int ((q2_2.toInt32).toInt8.toInt32)), (.int p2_1), (.ref a2_0)])) _
    refine st2 _ ?_
    show Steps p.tables e below (T2.setTop (mkF m 11 #[.val (.ref a2_0), .val (.int p2_1), .val (.long q2_2), .second, .val (.int (3 : Int32))] [])) _
    refine XS.iload X2.here hx rfl (hb hby d2_11) rfl ?_
    show Steps p.tables e below (T2.setTop (mkF m 13 #[.val (.ref a2_0), .val (.int p2_1), .val (.long q2_2), .second, .val (.int (3 : Int32))] [(.int (3 : Int32))])) _
    refine XS.iconst X2.here hx rfl (hb hby d2_13) ?_
    show Steps p.tables e below (T2.setTop (mkF m 14 #[.val (.ref a2_0), .val (.int p2_1), .val (.long q2_2), .second, .val (.int (3 : Int32))] [(.int (1 : Int32)), (.int (3 : Int32))])) _
    refine XS.icmpNo X2.here hx rfl (hb hby d2_14) rfl (tlt (by decide : (1 : Int32) < (3 : Int32))).2.2.2 ?_
    show Steps p.tables e below (T2.setTop (mkF m 17 #[.val (.ref a2_0), .val (.int p2_1), .val (.long q2_2), .second, .val (.int (3 : Int32))] [])) _
    refine XS.aloadN X2.here hx rfl (hb hby d2_17) rfl rfl ?_
    show Steps p.tables e below (T2.setTop (mkF m 18 #[.val (.ref a2_0), .val (.int p2_1), .val (.long q2_2), .second, .val (.int (3 : Int32))] [(.ref a2_0)])) _
    refine XS.iloadN X2.here hx rfl (hb hby d2_18) rfl ?_
    show Steps p.tables e below (T2.setTop (mkF m 19 #[.val (.ref a2_0), .val (.int p2_1), .val (.long q2_2), .second, .val (.int (3 : Int32))] [(.int p2_1), (.ref a2_0)])) _
    refine XS.iconst X2.here hx rfl (hb hby d2_19) ?_
    show Steps p.tables e below (T2.setTop (mkF m 20 #[.val (.ref a2_0), .val (.int p2_1), .val (.long q2_2), .second, .val (.int (3 : Int32))] [(.int (1 : Int32)), (.int p2_1), (.ref a2_0)])) _
    refine XS.iadd X2.here hx rfl (hb hby d2_20) rfl ?_
    show Steps p.tables e below (T2.setTop (mkF m 21 #[.val (.ref a2_0), .val (.int p2_1), .val (.long q2_2), .second, .val (.int (3 : Int32))] [(.int (p2_1 + (1 : Int32))), (.ref a2_0)])) _
    refine XS.lloadN X2.here hx rfl (hb hby d2_21) rfl ?_
    show Steps p.tables e below (T2.setTop (mkF m 22 #[.val (.ref a2_0), .val (.int p2_1), .val (.long q2_2), .second, .val (.int (3 : Int32))] [(.long q2_2), (.int (p2_1 + (1 : Int32))), (.ref a2_0)])) _
    refine XS.bipush X2.here hx rfl (hb hby d2_22) ?_
    show Steps p.tables e below (T2.setTop (mkF m 24 #[.val (.ref a2_0), .val (.int p2_1), .val (.long q2_2), .second, .val (.int (3 : Int32))] [(.int (8 : Int32)), (.long q2_2), (.int (p2_1 + (1 : Int32))), (.ref a2_0)])) _
    refine XS.lushr X2.here hx rfl (hb hby d2_24) rfl ?_
    show Steps p.tables e below (T2.setTop (mkF m 25 #[.val (.ref a2_0), .val (.int p2_1), .val (.long q2_2), .second, .val (.int (3 : Int32))] [(.long ((q2_2.toUInt64 >>> ((8 : Int32) &&& 0x3f).toInt64.toUInt64).toInt64)), (.int (p2_1 + (1 : Int32))), (.ref a2_0)])) _
    refine XS.l2i X2.here hx rfl (hb hby d2_25) rfl ?_
    show Steps p.tables e below (T2.setTop (mkF m 26 #[.val (.ref a2_0), .val (.int p2_1), .val (.long q2_2), .second, .val (.int (3 : Int32))] [(.int (((q2_2.toUInt64 >>> ((8 : Int32) &&& 0x3f).toInt64.toUInt64).toInt64).toInt32)), (.int (p2_1 + (1 : Int32))), (.ref a2_0)])) _
    refine XS.i2b X2.here hx rfl (hb hby d2_26) rfl ?_
    show Steps p.tables e below (T2.setTop (mkF m 27 #[.val (.ref a2_0), .val (.int p2_1), .val (.long q2_2), .second, .val (.int (3 : Int32))] [(.int ((((q2_2.toUInt64 >>> ((8 : Int32) &&& 0x3f).toInt64.toUInt64).toInt64).toInt32).toInt8.toInt32)), (.int (p2_1 + (1 : Int32))), (.ref a2_0)])) _
    refine st5 _ ?_
    show Steps p.tables e below (T5.setTop (mkF m 28 #[.val (.ref a2_0), .val (.int p2_1), .val (.long q2_2), .second, .val (.int (3 : Int32))] [])) _
    refine XS.iload X5.here hx rfl (hb hby d2_28) rfl ?_
    show Steps p.tables e below (T5.setTop (mkF m 30 #[.val (.ref a2_0), .val (.int p2_1), .val (.long q2_2), .second, .val (.int (3 : Int32))] [(.int (3 : Int32))])) _
    refine XS.iconst X5.here hx rfl (hb hby d2_30) ?_
    show Steps p.tables e below (T5.setTop (mkF m 31 #[.val (.ref a2_0), .val (.int p2_1), .val (.long q2_2), .second, .val (.int (3 : Int32))] [(.int (2 : Int32)), (.int (3 : Int32))])) _
    refine XS.icmpNo X5.here hx rfl (hb hby d2_31) rfl (tlt (by decide : (2 : Int32) < (3 : Int32))).2.2.2 ?_
    show Steps p.tables e below (T5.setTop (mkF m 34 #[.val (.ref a2_0), .val (.int p2_1), .val (.long q2_2), .second, .val (.int (3 : Int32))] [])) _
    refine XS.aloadN X5.here hx rfl (hb hby d2_34) rfl rfl ?_
    show Steps p.tables e below (T5.setTop (mkF m 35 #[.val (.ref a2_0), .val (.int p2_1), .val (.long q2_2), .second, .val (.int (3 : Int32))] [(.ref a2_0)])) _
    refine XS.iloadN X5.here hx rfl (hb hby d2_35) rfl ?_
    show Steps p.tables e below (T5.setTop (mkF m 36 #[.val (.ref a2_0), .val (.int p2_1), .val (.long q2_2), .second, .val (.int (3 : Int32))] [(.int p2_1), (.ref a2_0)])) _
    refine XS.iconst X5.here hx rfl (hb hby d2_36) ?_
    show Steps p.tables e below (T5.setTop (mkF m 37 #[.val (.ref a2_0), .val (.int p2_1), .val (.long q2_2), .second, .val (.int (3 : Int32))] [(.int (2 : Int32)), (.int p2_1), (.ref a2_0)])) _
    refine XS.iadd X5.here hx rfl (hb hby d2_37) rfl ?_
    show Steps p.tables e below (T5.setTop (mkF m 38 #[.val (.ref a2_0), .val (.int p2_1), .val (.long q2_2), .second, .val (.int (3 : Int32))] [(.int (p2_1 + (2 : Int32))), (.ref a2_0)])) _
    refine XS.lloadN X5.here hx rfl (hb hby d2_38) rfl ?_
    show Steps p.tables e below (T5.setTop (mkF m 39 #[.val (.ref a2_0), .val (.int p2_1), .val (.long q2_2), .second, .val (.int (3 : Int32))] [(.long q2_2), (.int (p2_1 + (2 : Int32))), (.ref a2_0)])) _
    refine XS.bipush X5.here hx rfl (hb hby d2_39) ?_
    show Steps p.tables e below (T5.setTop (mkF m 41 #[.val (.ref a2_0), .val (.int p2_1), .val (.long q2_2), .second, .val (.int (3 : Int32))] [(.int (16 : Int32)), (.long q2_2), (.int (p2_1 + (2 : Int32))), (.ref a2_0)])) _
    refine XS.lushr X5.here hx rfl (hb hby d2_41) rfl ?_
    show Steps p.tables e below (T5.setTop (mkF m 42 #[.val (.ref a2_0), .val (.int p2_1), .val (.long q2_2), .second, .val (.int (3 : Int32))] [(.long ((q2_2.toUInt64 >>> ((16 : Int32) &&& 0x3f).toInt64.toUInt64).toInt64)), (.int (p2_1 + (2 : Int32))), (.ref a2_0)])) _
    refine XS.l2i X5.here hx rfl (hb hby d2_42) rfl ?_
    show Steps p.tables e below (T5.setTop (mkF m 43 #[.val (.ref a2_0), .val (.int p2_1), .val (.long q2_2), .second, .val (.int (3 : Int32))] [(.int (((q2_2.toUInt64 >>> ((16 : Int32) &&& 0x3f).toInt64.toUInt64).toInt64).toInt32)), (.int (p2_1 + (2 : Int32))), (.ref a2_0)])) _
    refine XS.i2b X5.here hx rfl (hb hby d2_43) rfl ?_
    show Steps p.tables e below (T5.setTop (mkF m 44 #[.val (.ref a2_0), .val (.int p2_1), .val (.long q2_2), .second, .val (.int (3 : Int32))] [(.int ((((q2_2.toUInt64 >>> ((16 : Int32) &&& 0x3f).toInt64.toUInt64).toInt64).toInt32).toInt8.toInt32)), (.int (p2_1 + (2 : Int32))), (.ref a2_0)])) _
    refine st8 _ ?_
    show Steps p.tables e below (T8.setTop (mkF m 45 #[.val (.ref a2_0), .val (.int p2_1), .val (.long q2_2), .second, .val (.int (3 : Int32))] [])) _
    refine XS.iload X8.here hx rfl (hb hby d2_45) rfl ?_
    show Steps p.tables e below (T8.setTop (mkF m 47 #[.val (.ref a2_0), .val (.int p2_1), .val (.long q2_2), .second, .val (.int (3 : Int32))] [(.int (3 : Int32))])) _
    refine XS.iconst X8.here hx rfl (hb hby d2_47) ?_
    show Steps p.tables e below (T8.setTop (mkF m 48 #[.val (.ref a2_0), .val (.int p2_1), .val (.long q2_2), .second, .val (.int (3 : Int32))] [(.int (3 : Int32)), (.int (3 : Int32))])) _
    refine XS.icmpYes X8.here hx rfl (pc0 := 48) (pc' := 62) rfl (hb hby d2_48) rfl (flt (by decide : ¬ ((3 : Int32) < (3 : Int32)))).2.2.2 (by decide) (by decide) ?_
    show Steps p.tables e below (T8.setTop (mkF m 62 #[.val (.ref a2_0), .val (.int p2_1), .val (.long q2_2), .second, .val (.int (3 : Int32))] [])) _
    exact X8.returnOut hx Bd.returns (hb hby d2_62) hr
  · show Q_rm2_l3 Z a2_0 p2_1 q2_2 f_a2_0 h0 n0 _ T8.heap _
    rw [e8]
    subst hf9
    subst hf6
    subst hf3
    exact ⟨rfl, N8, K8, B8⟩
theorem d2_51 : decode method_3_code 51 = .ok (.aload_n 0, 1) := by decide +kernel
theorem d2_52 : decode method_3_code 52 = .ok (.iload_n 1, 1) := by decide +kernel
theorem d2_53 : decode method_3_code 53 = .ok (.iconst 3, 1) := by decide +kernel
theorem d2_54 : decode method_3_code 54 = .ok (.iadd, 1) := by decide +kernel
theorem d2_55 : decode method_3_code 55 = .ok (.lload_n 2, 1) := by decide +kernel
theorem d2_56 : decode method_3_code 56 = .ok (.bipush 24, 2) := by decide +kernel
theorem d2_58 : decode method_3_code 58 = .ok (.lushr, 1) := by decide +kernel
theorem d2_59 : decode method_3_code 59 = .ok (.l2i, 1) := by decide +kernel
theorem d2_60 : decode method_3_code 60 = .ok (.i2b, 1) := by decide +kernel
theorem d2_61 : decode method_3_code 61 = .ok (.bastore, 1) := by decide +kernel
theorem ef_rm2_l4 (m : MethodId) (y0 : Addr) (y1 : Int32) (y2 : Int64) : entryFrame m #[(.ref y0), (.int y1), (.long y2), (.int (4 : Int32))] 5 = mkF m 0 #[.val (.ref y0), .val (.int y1), .val (.long y2), .second, .val (.int (4 : Int32))] [] := by first | (simp [entryFrame, mkF, argsToLocals, Value.category]; done) | rfl
def Q_rm2_l4 (Z : State) (a2_0 : Addr) (p2_1 : Int32) (q2_2 : Int64) (f_a2_0 : Int32 → Int32) (h0 : Heap) (n0 : Nat) (v : Option Value) (h : Heap) (L : List Loc) : Prop := v = none ∧ Fr n0 L ∧ Keep h0 h [a2_0] ∧ Bya Z h a2_0 (12 : Int32) (fun i => if i = (p2_1 + (3 : Int32)) then (nar .byte ((((q2_2.toUInt64 >>> ((24 : Int32) &&& 0x3f).toInt64.toUInt64).toInt64).toInt32).toInt8.toInt32)) else (fun i => if i = (p2_1 + (2 : Int32)) then (nar .byte ((((q2_2.toUInt64 >>> ((16 : Int32) &&& 0x3f).toInt64.toUInt64).toInt64).toInt32).toInt8.toInt32)) else (fun i => if i = (p2_1 + (1 : Int32)) then (nar .byte ((((q2_2.toUInt64 >>> ((8 : Int32) &&& 0x3f).toInt64.toUInt64).toInt64).toInt32).toInt8.toInt32)) else (fun i => if i = p2_1 then (nar .byte ((q2_2.toInt32).toInt8.toInt32)) else f_a2_0 i) i) i) i)
set_option maxRecDepth 65536 in
set_option maxHeartbeats 40000000 in
theorem rm2_l4 (l : Launch) (Z : State) (a0 : Array Value) (hw : ∀ d ∈ tables_1, d.before a0 Z = true) (ws : List Jvm.Cond) (a2_0 : Addr) (p2_1 : Int32) (q2_2 : Int64) (f_a2_0 : Int32 → Int32) (h0 : Heap) (n0 : Nat) (Z0 : n0 ≤ h0.size) (hoff : ¬ p2_1 < 0 ∧ p2_1 < 8) (B_a2_0 : Bya Z h0 a2_0 (12 : Int32) f_a2_0) (g_a2_0 : n0 ≤ a2_0) :
    MetFree l (⟨"com/example/mortise/mortise/join/RecordKeyHashPinLaw", "place", "([BIJI)V"⟩ : MethodName) (head1 (Jvm.Cond.code (⟨"com/example/mortise/mortise/join/RecordKeyHashPinLaw", "place", "([BIJI)V"⟩ : MethodName) method_3_code 5 none :: ws) ({ frames := 0, cells := 0, slots := 0, locals := 0 } : Room)) (fun a U => a = #[(.ref a2_0), (.int p2_1), (.long q2_2), (.int (4 : Int32))] ∧ Z.Warmed39 U.vm ∧ U.heap = h0) (fun _ _ _ _ _ => True) (fun _ U o U' => ∃ v L, o = .returned v ∧ Q_rm2_l4 Z a2_0 p2_1 q2_2 f_a2_0 h0 n0 v U'.heap L ∧ FrameEnd U o U' L ({ frames := 0, cells := 0, slots := 0, locals := 0 } : Room).cells ({ frames := 0, cells := 0, slots := 0, locals := 0 } : Room).slots) := by
  refine MetFree.of_bodySF (plainFor_of_name pn_2) hisR ?_
  intro p e s m args below meth c s₁ Bd hml0 hP hK
  obtain ⟨rfl, hZ, hh⟩ := hP
  have hx := Bd.exec
  have hby := Bd.bytes
  have hml : c.maxLocals = 5 := hml0
  have hown : s.vm.findClass "com/example/mortise/mortise/join/RecordKeyHashPinLaw" = some m.cls := findClass_of_methodNamed Bd.named
  have hnm := (name_of_methodNamed Bd.named Bd.method).1
  have X0 : Stand p l e ({ frames := 0, cells := 0, slots := 0, locals := 0 } : Room) s m #[(.ref a2_0), (.int p2_1), (.long q2_2), (.int (4 : Int32))] below meth c s₁ [] 0 0 := Stand.of_body Bd
  have e0 : s₁.heap = h0 := by rw [← hh, Bd.state]; rfl
  have N0 := Fr.nil n0
  have pre0 : ∀ t, Steps p.tables e below (s₁.setTop (mkF m 0 #[.val (.ref a2_0), .val (.int p2_1), .val (.long q2_2), .second, .val (.int (4 : Int32))] [])) t → Steps p.tables e below (s₁.setTop (entryFrame m #[(.ref a2_0), (.int p2_1), (.long q2_2), (.int (4 : Int32))] 5)) t := fun t k => castTop (ef_rm2_l4 m a2_0 p2_1 q2_2) k
  obtain ⟨cl1, Ar1, Sz1, Hh1⟩ := id B_a2_0
  obtain ⟨T2, h2, X2, e2, W2, st2⟩ := stB X0 hx hZ e0 Ar1 (j := p2_1) (inb_of Sz1 (own_ix0 hoff)) (g := (mkF m 10 #[.val (.ref a2_0), .val (.int p2_1), .val (.long q2_2), .second, .val (.int (4 : Int32))] [(.int ((q2_2.toInt32).toInt8.toInt32)), (.int p2_1), (.ref a2_0)])) rfl rfl (hb hby d2_10)
  have B2 := Bya.set Ar1 Sz1 Hh1 (own_ix0 hoff) W2
  obtain ⟨f3, hf3⟩ : ∃ g : Int32 → Int32, g = (fun i => if i = p2_1 then (nar .byte ((q2_2.toInt32).toInt8.toInt32)) else f_a2_0 i) := ⟨_, rfl⟩
  rw [← hf3] at B2
  have K2 : Keep h0 h2 [a2_0] := (Keep.refl h0 [a2_0]).wr W2 (Or.inl (List.mem_of_getElem? (i := 0) rfl))
  have Z2 : n0 ≤ h2.size := Nat.le_trans Z0 K2.1
  have N2 := Fr.snoc X2 N0 g_a2_0
  obtain ⟨cl4, Ar4, Sz4, Hh4⟩ := id B2
  obtain ⟨T5, h5, X5, e5, W5, st5⟩ := stB X2 hx hZ e2 Ar4 (j := (p2_1 + (1 : Int32))) (inb_of Sz4 (own_ix hoff (c := (1 : Int32)) (by decide))) (g := (mkF m 27 #[.val (.ref a2_0), .val (.int p2_1), .val (.long q2_2), .second, .val (.int (4 : Int32))] [(.int ((((q2_2.toUInt64 >>> ((8 : Int32) &&& 0x3f).toInt64.toUInt64).toInt64).toInt32).toInt8.toInt32)), (.int (p2_1 + (1 : Int32))), (.ref a2_0)])) rfl rfl (hb hby d2_27)
  have B5 := Bya.set Ar4 Sz4 Hh4 (own_ix hoff (c := (1 : Int32)) (by decide)) W5
  obtain ⟨f6, hf6⟩ : ∃ g : Int32 → Int32, g = (fun i => if i = (p2_1 + (1 : Int32)) then (nar .byte ((((q2_2.toUInt64 >>> ((8 : Int32) &&& 0x3f).toInt64.toUInt64).toInt64).toInt32).toInt8.toInt32)) else f3 i) := ⟨_, rfl⟩
  rw [← hf6] at B5
  have K5 : Keep h0 h5 [a2_0] := K2.wr W5 (Or.inl (List.mem_of_getElem? (i := 0) rfl))
  have Z5 : n0 ≤ h5.size := Nat.le_trans Z0 K5.1
  have N5 := Fr.snoc X5 N2 g_a2_0
  obtain ⟨cl7, Ar7, Sz7, Hh7⟩ := id B5
  obtain ⟨T8, h8, X8, e8, W8, st8⟩ := stB X5 hx hZ e5 Ar7 (j := (p2_1 + (2 : Int32))) (inb_of Sz7 (own_ix hoff (c := (2 : Int32)) (by decide))) (g := (mkF m 44 #[.val (.ref a2_0), .val (.int p2_1), .val (.long q2_2), .second, .val (.int (4 : Int32))] [(.int ((((q2_2.toUInt64 >>> ((16 : Int32) &&& 0x3f).toInt64.toUInt64).toInt64).toInt32).toInt8.toInt32)), (.int (p2_1 + (2 : Int32))), (.ref a2_0)])) rfl rfl (hb hby d2_44)
  have B8 := Bya.set Ar7 Sz7 Hh7 (own_ix hoff (c := (2 : Int32)) (by decide)) W8
  obtain ⟨f9, hf9⟩ : ∃ g : Int32 → Int32, g = (fun i => if i = (p2_1 + (2 : Int32)) then (nar .byte ((((q2_2.toUInt64 >>> ((16 : Int32) &&& 0x3f).toInt64.toUInt64).toInt64).toInt32).toInt8.toInt32)) else f6 i) := ⟨_, rfl⟩
  rw [← hf9] at B8
  have K8 : Keep h0 h8 [a2_0] := K5.wr W8 (Or.inl (List.mem_of_getElem? (i := 0) rfl))
  have Z8 : n0 ≤ h8.size := Nat.le_trans Z0 K8.1
  have N8 := Fr.snoc X8 N5 g_a2_0
  obtain ⟨cl10, Ar10, Sz10, Hh10⟩ := id B8
  obtain ⟨T11, h11, X11, e11, W11, st11⟩ := stB X8 hx hZ e8 Ar10 (j := (p2_1 + (3 : Int32))) (inb_of Sz10 (own_ix hoff (c := (3 : Int32)) (by decide))) (g := (mkF m 61 #[.val (.ref a2_0), .val (.int p2_1), .val (.long q2_2), .second, .val (.int (4 : Int32))] [(.int ((((q2_2.toUInt64 >>> ((24 : Int32) &&& 0x3f).toInt64.toUInt64).toInt64).toInt32).toInt8.toInt32)), (.int (p2_1 + (3 : Int32))), (.ref a2_0)])) rfl rfl (hb hby d2_61)
  have B11 := Bya.set Ar10 Sz10 Hh10 (own_ix hoff (c := (3 : Int32)) (by decide)) W11
  obtain ⟨f12, hf12⟩ : ∃ g : Int32 → Int32, g = (fun i => if i = (p2_1 + (3 : Int32)) then (nar .byte ((((q2_2.toUInt64 >>> ((24 : Int32) &&& 0x3f).toInt64.toUInt64).toInt64).toInt32).toInt8.toInt32)) else f9 i) := ⟨_, rfl⟩
  rw [← hf12] at B11
  have K11 : Keep h0 h11 [a2_0] := K8.wr W11 (Or.inl (List.mem_of_getElem? (i := 0) rfl))
  have Z11 : n0 ≤ h11.size := Nat.le_trans Z0 K11.1
  have N11 := Fr.snoc X11 N8 g_a2_0
  obtain ⟨fs, hr, hrun, hended, hW, hsame⟩ := X11.leave (v := none) (fun _ => rfl)
  refine ⟨_, _, pre0 _ ?_, hrun, hended, _, _, rfl, ?_, ⟨_, rfl⟩, hW, hsame.mono (by decide) (by decide)⟩
  · show Steps p.tables e below (s₁.setTop (mkF m 0 #[.val (.ref a2_0), .val (.int p2_1), .val (.long q2_2), .second, .val (.int (4 : Int32))] [])) _
    refine XS.iload X0.here hx rfl (hb hby d2_0) rfl ?_
    show Steps p.tables e below (s₁.setTop (mkF m 2 #[.val (.ref a2_0), .val (.int p2_1), .val (.long q2_2), .second, .val (.int (4 : Int32))] [(.int (4 : Int32))])) _
    refine XS.ifNo X0.here hx rfl (hb hby d2_2) rfl ((if0 _ _).trans (tlt (by decide : (0 : Int32) < (4 : Int32))).2.2.2) ?_
    show Steps p.tables e below (s₁.setTop (mkF m 5 #[.val (.ref a2_0), .val (.int p2_1), .val (.long q2_2), .second, .val (.int (4 : Int32))] [])) _
    refine XS.aloadN X0.here hx rfl (hb hby d2_5) rfl rfl ?_
    show Steps p.tables e below (s₁.setTop (mkF m 6 #[.val (.ref a2_0), .val (.int p2_1), .val (.long q2_2), .second, .val (.int (4 : Int32))] [(.ref a2_0)])) _
    refine XS.iloadN X0.here hx rfl (hb hby d2_6) rfl ?_
    show Steps p.tables e below (s₁.setTop (mkF m 7 #[.val (.ref a2_0), .val (.int p2_1), .val (.long q2_2), .second, .val (.int (4 : Int32))] [(.int p2_1), (.ref a2_0)])) _
    refine XS.lloadN X0.here hx rfl (hb hby d2_7) rfl ?_
    show Steps p.tables e below (s₁.setTop (mkF m 8 #[.val (.ref a2_0), .val (.int p2_1), .val (.long q2_2), .second, .val (.int (4 : Int32))] [(.long q2_2), (.int p2_1), (.ref a2_0)])) _
    refine XS.l2i X0.here hx rfl (hb hby d2_8) rfl ?_
    show Steps p.tables e below (s₁.setTop (mkF m 9 #[.val (.ref a2_0), .val (.int p2_1), .val (.long q2_2), .second, .val (.int (4 : Int32))] [(.int (q2_2.toInt32)), (.int p2_1), (.ref a2_0)])) _
    refine XS.i2b X0.here hx rfl (hb hby d2_9) rfl ?_
    show Steps p.tables e below (s₁.setTop (mkF m 10 #[.val (.ref a2_0), .val (.int p2_1), .val (.long q2_2), .second, .val (.int (4 : Int32))] [(.int ((q2_2.toInt32).toInt8.toInt32)), (.int p2_1), (.ref a2_0)])) _
    refine st2 _ ?_
    show Steps p.tables e below (T2.setTop (mkF m 11 #[.val (.ref a2_0), .val (.int p2_1), .val (.long q2_2), .second, .val (.int (4 : Int32))] [])) _
    refine XS.iload X2.here hx rfl (hb hby d2_11) rfl ?_
    show Steps p.tables e below (T2.setTop (mkF m 13 #[.val (.ref a2_0), .val (.int p2_1), .val (.long q2_2), .second, .val (.int (4 : Int32))] [(.int (4 : Int32))])) _
    refine XS.iconst X2.here hx rfl (hb hby d2_13) ?_
    show Steps p.tables e below (T2.setTop (mkF m 14 #[.val (.ref a2_0), .val (.int p2_1), .val (.long q2_2), .second, .val (.int (4 : Int32))] [(.int (1 : Int32)), (.int (4 : Int32))])) _
    refine XS.icmpNo X2.here hx rfl (hb hby d2_14) rfl (tlt (by decide : (1 : Int32) < (4 : Int32))).2.2.2 ?_
    show Steps p.tables e below (T2.setTop (mkF m 17 #[.val (.ref a2_0), .val (.int p2_1), .val (.long q2_2), .second, .val (.int (4 : Int32))] [])) _
    refine XS.aloadN X2.here hx rfl (hb hby d2_17) rfl rfl ?_
    show Steps p.tables e below (T2.setTop (mkF m 18 #[.val (.ref a2_0), .val (.int p2_1), .val (.long q2_2), .second, .val (.int (4 : Int32))] [(.ref a2_0)])) _
    refine XS.iloadN X2.here hx rfl (hb hby d2_18) rfl ?_
    show Steps p.tables e below (T2.setTop (mkF m 19 #[.val (.ref a2_0), .val (.int p2_1), .val (.long q2_2), .second, .val (.int (4 : Int32))] [(.int p2_1), (.ref a2_0)])) _
    refine XS.iconst X2.here hx rfl (hb hby d2_19) ?_
    show Steps p.tables e below (T2.setTop (mkF m 20 #[.val (.ref a2_0), .val (.int p2_1), .val (.long q2_2), .second, .val (.int (4 : Int32))] [(.int (1 : Int32)), (.int p2_1), (.ref a2_0)])) _
    refine XS.iadd X2.here hx rfl (hb hby d2_20) rfl ?_
    show Steps p.tables e below (T2.setTop (mkF m 21 #[.val (.ref a2_0), .val (.int p2_1), .val (.long q2_2), .second, .val (.int (4 : Int32))] [(.int (p2_1 + (1 : Int32))), (.ref a2_0)])) _
    refine XS.lloadN X2.here hx rfl (hb hby d2_21) rfl ?_
    show Steps p.tables e below (T2.setTop (mkF m 22 #[.val (.ref a2_0), .val (.int p2_1), .val (.long q2_2), .second, .val (.int (4 : Int32))] [(.long q2_2), (.int (p2_1 + (1 : Int32))), (.ref a2_0)])) _
    refine XS.bipush X2.here hx rfl (hb hby d2_22) ?_
    show Steps p.tables e below (T2.setTop (mkF m 24 #[.val (.ref a2_0), .val (.int p2_1), .val (.long q2_2), .second, .val (.int (4 : Int32))] [(.int (8 : Int32)), (.long q2_2), (.int (p2_1 + (1 : Int32))), (.ref a2_0)])) _
    refine XS.lushr X2.here hx rfl (hb hby d2_24) rfl ?_
    show Steps p.tables e below (T2.setTop (mkF m 25 #[.val (.ref a2_0), .val (.int p2_1), .val (.long q2_2), .second, .val (.int (4 : Int32))] [(.long ((q2_2.toUInt64 >>> ((8 : Int32) &&& 0x3f).toInt64.toUInt64).toInt64)), (.int (p2_1 + (1 : Int32))), (.ref a2_0)])) _
    refine XS.l2i X2.here hx rfl (hb hby d2_25) rfl ?_
    show Steps p.tables e below (T2.setTop (mkF m 26 #[.val (.ref a2_0), .val (.int p2_1), .val (.long q2_2), .second, .val (.int (4 : Int32))] [(.int (((q2_2.toUInt64 >>> ((8 : Int32) &&& 0x3f).toInt64.toUInt64).toInt64).toInt32)), (.int (p2_1 + (1 : Int32))), (.ref a2_0)])) _
    refine XS.i2b X2.here hx rfl (hb hby d2_26) rfl ?_
    show Steps p.tables e below (T2.setTop (mkF m 27 #[.val (.ref a2_0), .val (.int p2_1), .val (.long q2_2), .second, .val (.int (4 : Int32))] [(.int ((((q2_2.toUInt64 >>> ((8 : Int32) &&& 0x3f).toInt64.toUInt64).toInt64).toInt32).toInt8.toInt32)), (.int (p2_1 + (1 : Int32))), (.ref a2_0)])) _
    refine st5 _ ?_
    show Steps p.tables e below (T5.setTop (mkF m 28 #[.val (.ref a2_0), .val (.int p2_1), .val (.long q2_2), .second, .val (.int (4 : Int32))] [])) _
    refine XS.iload X5.here hx rfl (hb hby d2_28) rfl ?_
    show Steps p.tables e below (T5.setTop (mkF m 30 #[.val (.ref a2_0), .val (.int p2_1), .val (.long q2_2), .second, .val (.int (4 : Int32))] [(.int (4 : Int32))])) _
    refine XS.iconst X5.here hx rfl (hb hby d2_30) ?_
    show Steps p.tables e below (T5.setTop (mkF m 31 #[.val (.ref a2_0), .val (.int p2_1), .val (.long q2_2), .second, .val (.int (4 : Int32))] [(.int (2 : Int32)), (.int (4 : Int32))])) _
    refine XS.icmpNo X5.here hx rfl (hb hby d2_31) rfl (tlt (by decide : (2 : Int32) < (4 : Int32))).2.2.2 ?_
    show Steps p.tables e below (T5.setTop (mkF m 34 #[.val (.ref a2_0), .val (.int p2_1), .val (.long q2_2), .second, .val (.int (4 : Int32))] [])) _
    refine XS.aloadN X5.here hx rfl (hb hby d2_34) rfl rfl ?_
    show Steps p.tables e below (T5.setTop (mkF m 35 #[.val (.ref a2_0), .val (.int p2_1), .val (.long q2_2), .second, .val (.int (4 : Int32))] [(.ref a2_0)])) _
    refine XS.iloadN X5.here hx rfl (hb hby d2_35) rfl ?_
    show Steps p.tables e below (T5.setTop (mkF m 36 #[.val (.ref a2_0), .val (.int p2_1), .val (.long q2_2), .second, .val (.int (4 : Int32))] [(.int p2_1), (.ref a2_0)])) _
    refine XS.iconst X5.here hx rfl (hb hby d2_36) ?_
    show Steps p.tables e below (T5.setTop (mkF m 37 #[.val (.ref a2_0), .val (.int p2_1), .val (.long q2_2), .second, .val (.int (4 : Int32))] [(.int (2 : Int32)), (.int p2_1), (.ref a2_0)])) _
    refine XS.iadd X5.here hx rfl (hb hby d2_37) rfl ?_
    show Steps p.tables e below (T5.setTop (mkF m 38 #[.val (.ref a2_0), .val (.int p2_1), .val (.long q2_2), .second, .val (.int (4 : Int32))] [(.int (p2_1 + (2 : Int32))), (.ref a2_0)])) _
    refine XS.lloadN X5.here hx rfl (hb hby d2_38) rfl ?_
    show Steps p.tables e below (T5.setTop (mkF m 39 #[.val (.ref a2_0), .val (.int p2_1), .val (.long q2_2), .second, .val (.int (4 : Int32))] [(.long q2_2), (.int (p2_1 + (2 : Int32))), (.ref a2_0)])) _
    refine XS.bipush X5.here hx rfl (hb hby d2_39) ?_
    show Steps p.tables e below (T5.setTop (mkF m 41 #[.val (.ref a2_0), .val (.int p2_1), .val (.long q2_2), .second, .val (.int (4 : Int32))] [(.int (16 : Int32)), (.long q2_2), (.int (p2_1 + (2 : Int32))), (.ref a2_0)])) _
    refine XS.lushr X5.here hx rfl (hb hby d2_41) rfl ?_
    show Steps p.tables e below (T5.setTop (mkF m 42 #[.val (.ref a2_0), .val (.int p2_1), .val (.long q2_2), .second, .val (.int (4 : Int32))] [(.long ((q2_2.toUInt64 >>> ((16 : Int32) &&& 0x3f).toInt64.toUInt64).toInt64)), (.int (p2_1 + (2 : Int32))), (.ref a2_0)])) _
    refine XS.l2i X5.here hx rfl (hb hby d2_42) rfl ?_
    show Steps p.tables e below (T5.setTop (mkF m 43 #[.val (.ref a2_0), .val (.int p2_1), .val (.long q2_2), .second, .val (.int (4 : Int32))] [(.int (((q2_2.toUInt64 >>> ((16 : Int32) &&& 0x3f).toInt64.toUInt64).toInt64).toInt32)), (.int (p2_1 + (2 : Int32))), (.ref a2_0)])) _
    refine XS.i2b X5.here hx rfl (hb hby d2_43) rfl ?_
    show Steps p.tables e below (T5.setTop (mkF m 44 #[.val (.ref a2_0), .val (.int p2_1), .val (.long q2_2), .second, .val (.int (4 : Int32))] [(.int ((((q2_2.toUInt64 >>> ((16 : Int32) &&& 0x3f).toInt64.toUInt64).toInt64).toInt32).toInt8.toInt32)), (.int (p2_1 + (2 : Int32))), (.ref a2_0)])) _
    refine st8 _ ?_
    show Steps p.tables e below (T8.setTop (mkF m 45 #[.val (.ref a2_0), .val (.int p2_1), .val (.long q2_2), .second, .val (.int (4 : Int32))] [])) _
    refine XS.iload X8.here hx rfl (hb hby d2_45) rfl ?_
    show Steps p.tables e below (T8.setTop (mkF m 47 #[.val (.ref a2_0), .val (.int p2_1), .val (.long q2_2), .second, .val (.int (4 : Int32))] [(.int (4 : Int32))])) _
    refine XS.iconst X8.here hx rfl (hb hby d2_47) ?_
    show Steps p.tables e below (T8.setTop (mkF m 48 #[.val (.ref a2_0), .val (.int p2_1), .val (.long q2_2), .second, .val (.int (4 : Int32))] [(.int (3 : Int32)), (.int (4 : Int32))])) _
    refine XS.icmpNo X8.here hx rfl (hb hby d2_48) rfl (tlt (by decide : (3 : Int32) < (4 : Int32))).2.2.2 ?_
    show Steps p.tables e below (T8.setTop (mkF m 51 #[.val (.ref a2_0), .val (.int p2_1), .val (.long q2_2), .second, .val (.int (4 : Int32))] [])) _
    refine XS.aloadN X8.here hx rfl (hb hby d2_51) rfl rfl ?_
    show Steps p.tables e below (T8.setTop (mkF m 52 #[.val (.ref a2_0), .val (.int p2_1), .val (.long q2_2), .second, .val (.int (4 : Int32))] [(.ref a2_0)])) _
    refine XS.iloadN X8.here hx rfl (hb hby d2_52) rfl ?_
    show Steps p.tables e below (T8.setTop (mkF m 53 #[.val (.ref a2_0), .val (.int p2_1), .val (.long q2_2), .second, .val (.int (4 : Int32))] [(.int p2_1), (.ref a2_0)])) _
    refine XS.iconst X8.here hx rfl (hb hby d2_53) ?_
    show Steps p.tables e below (T8.setTop (mkF m 54 #[.val (.ref a2_0), .val (.int p2_1), .val (.long q2_2), .second, .val (.int (4 : Int32))] [(.int (3 : Int32)), (.int p2_1), (.ref a2_0)])) _
    refine XS.iadd X8.here hx rfl (hb hby d2_54) rfl ?_
    show Steps p.tables e below (T8.setTop (mkF m 55 #[.val (.ref a2_0), .val (.int p2_1), .val (.long q2_2), .second, .val (.int (4 : Int32))] [(.int (p2_1 + (3 : Int32))), (.ref a2_0)])) _
    refine XS.lloadN X8.here hx rfl (hb hby d2_55) rfl ?_
    show Steps p.tables e below (T8.setTop (mkF m 56 #[.val (.ref a2_0), .val (.int p2_1), .val (.long q2_2), .second, .val (.int (4 : Int32))] [(.long q2_2), (.int (p2_1 + (3 : Int32))), (.ref a2_0)])) _
    refine XS.bipush X8.here hx rfl (hb hby d2_56) ?_
    show Steps p.tables e below (T8.setTop (mkF m 58 #[.val (.ref a2_0), .val (.int p2_1), .val (.long q2_2), .second, .val (.int (4 : Int32))] [(.int (24 : Int32)), (.long q2_2), (.int (p2_1 + (3 : Int32))), (.ref a2_0)])) _
    refine XS.lushr X8.here hx rfl (hb hby d2_58) rfl ?_
    show Steps p.tables e below (T8.setTop (mkF m 59 #[.val (.ref a2_0), .val (.int p2_1), .val (.long q2_2), .second, .val (.int (4 : Int32))] [(.long ((q2_2.toUInt64 >>> ((24 : Int32) &&& 0x3f).toInt64.toUInt64).toInt64)), (.int (p2_1 + (3 : Int32))), (.ref a2_0)])) _
    refine XS.l2i X8.here hx rfl (hb hby d2_59) rfl ?_
    show Steps p.tables e below (T8.setTop (mkF m 60 #[.val (.ref a2_0), .val (.int p2_1), .val (.long q2_2), .second, .val (.int (4 : Int32))] [(.int (((q2_2.toUInt64 >>> ((24 : Int32) &&& 0x3f).toInt64.toUInt64).toInt64).toInt32)), (.int (p2_1 + (3 : Int32))), (.ref a2_0)])) _
    refine XS.i2b X8.here hx rfl (hb hby d2_60) rfl ?_
    show Steps p.tables e below (T8.setTop (mkF m 61 #[.val (.ref a2_0), .val (.int p2_1), .val (.long q2_2), .second, .val (.int (4 : Int32))] [(.int ((((q2_2.toUInt64 >>> ((24 : Int32) &&& 0x3f).toInt64.toUInt64).toInt64).toInt32).toInt8.toInt32)), (.int (p2_1 + (3 : Int32))), (.ref a2_0)])) _
    refine st11 _ ?_
    show Steps p.tables e below (T11.setTop (mkF m 62 #[.val (.ref a2_0), .val (.int p2_1), .val (.long q2_2), .second, .val (.int (4 : Int32))] [])) _
    exact X11.returnOut hx Bd.returns (hb hby d2_62) hr
  · show Q_rm2_l4 Z a2_0 p2_1 q2_2 f_a2_0 h0 n0 _ T11.heap _
    rw [e11]
    subst hf12
    subst hf9
    subst hf6
    subst hf3
    exact ⟨rfl, N11, K11, B11⟩
theorem d3_0 : decode prog_36_method_9_code 0 = .ok (.ldc2_w 33, 3) := by decide +kernel
theorem d3_3 : decode prog_36_method_9_code 3 = .ok (.lstore_n 3, 1) := by decide +kernel
theorem d3_4 : decode prog_36_method_9_code 4 = .ok (.iload_n 1, 1) := by decide +kernel
theorem d3_5 : decode prog_36_method_9_code 5 = .ok (.istore 5, 2) := by decide +kernel
theorem d3_7 : decode prog_36_method_9_code 7 = .ok (.iload 5, 2) := by decide +kernel
theorem d3_9 : decode prog_36_method_9_code 9 = .ok (.iload_n 2, 1) := by decide +kernel
theorem d3_10 : decode prog_36_method_9_code 10 = .ok (.if_icmp .ge 25, 3) := by decide +kernel
theorem d3_35 : decode prog_36_method_9_code 35 = .ok (.lload_n 3, 1) := by decide +kernel
theorem d3_36 : decode prog_36_method_9_code 36 = .ok (.lload_n 3, 1) := by decide +kernel
theorem d3_37 : decode prog_36_method_9_code 37 = .ok (.bipush 33, 2) := by decide +kernel
theorem d3_39 : decode prog_36_method_9_code 39 = .ok (.lushr, 1) := by decide +kernel
theorem d3_40 : decode prog_36_method_9_code 40 = .ok (.lxor, 1) := by decide +kernel
theorem d3_41 : decode prog_36_method_9_code 41 = .ok (.lstore_n 3, 1) := by decide +kernel
theorem d3_42 : decode prog_36_method_9_code 42 = .ok (.lload_n 3, 1) := by decide +kernel
theorem d3_43 : decode prog_36_method_9_code 43 = .ok (.ldc2_w 37, 3) := by decide +kernel
theorem d3_46 : decode prog_36_method_9_code 46 = .ok (.lmul, 1) := by decide +kernel
theorem d3_47 : decode prog_36_method_9_code 47 = .ok (.lstore_n 3, 1) := by decide +kernel
theorem d3_48 : decode prog_36_method_9_code 48 = .ok (.lload_n 3, 1) := by decide +kernel
theorem d3_49 : decode prog_36_method_9_code 49 = .ok (.lload_n 3, 1) := by decide +kernel
theorem d3_50 : decode prog_36_method_9_code 50 = .ok (.bipush 33, 2) := by decide +kernel
theorem d3_52 : decode prog_36_method_9_code 52 = .ok (.lushr, 1) := by decide +kernel
theorem d3_53 : decode prog_36_method_9_code 53 = .ok (.lxor, 1) := by decide +kernel
theorem d3_54 : decode prog_36_method_9_code 54 = .ok (.lstore_n 3, 1) := by decide +kernel
theorem d3_55 : decode prog_36_method_9_code 55 = .ok (.lload_n 3, 1) := by decide +kernel
theorem d3_56 : decode prog_36_method_9_code 56 = .ok (.ldc2_w 39, 3) := by decide +kernel
theorem d3_59 : decode prog_36_method_9_code 59 = .ok (.lmul, 1) := by decide +kernel
theorem d3_60 : decode prog_36_method_9_code 60 = .ok (.lstore_n 3, 1) := by decide +kernel
theorem d3_61 : decode prog_36_method_9_code 61 = .ok (.lload_n 3, 1) := by decide +kernel
theorem d3_62 : decode prog_36_method_9_code 62 = .ok (.lload_n 3, 1) := by decide +kernel
theorem d3_63 : decode prog_36_method_9_code 63 = .ok (.bipush 33, 2) := by decide +kernel
theorem d3_65 : decode prog_36_method_9_code 65 = .ok (.lushr, 1) := by decide +kernel
theorem d3_66 : decode prog_36_method_9_code 66 = .ok (.lxor, 1) := by decide +kernel
theorem d3_67 : decode prog_36_method_9_code 67 = .ok (.lstore_n 3, 1) := by decide +kernel
theorem d3_68 : decode prog_36_method_9_code 68 = .ok (.lload_n 3, 1) := by decide +kernel
theorem d3_69 : decode prog_36_method_9_code 69 = .ok (.lreturn, 1) := by decide +kernel
theorem pn_3 : plainName "com/example/mortise/mortise/join/Record" = true := by first | (simp [plainName, overriddenIn]; done) | decide +kernel
theorem ef_rm3_l0 (m : MethodId) (y0 : Addr) (y1 : Int32) : entryFrame m #[(.ref y0), (.int y1), (.int (y1 + (0 : Int32)))] 6 = mkF m 0 #[.val (.ref y0), .val (.int y1), .val (.int (y1 + (0 : Int32))), .unset, .unset, .unset] [] := by first | (simp [entryFrame, mkF, argsToLocals, Value.category]; done) | rfl
def Q_rm3_l0 (Z : State) (a3_0 : Addr) (p3_1 : Int32) (h0 : Heap) (n0 : Nat) (v : Option Value) (h : Heap) (L : List Loc) : Prop := v = some (.long (-1166397803181037274 : Int64)) ∧ Fr n0 L ∧ h = h0
set_option maxRecDepth 65536 in
set_option maxHeartbeats 40000000 in
theorem rm3_l0 (l : Launch) (Z : State) (a0 : Array Value) (hw : ∀ d ∈ tables_1, d.before a0 Z = true) (ws : List Jvm.Cond) (a3_0 : Addr) (p3_1 : Int32) (h0 : Heap) (n0 : Nat) (Z0 : n0 ≤ h0.size) (hoff : ¬ p3_1 < 0 ∧ p3_1 < 8) :
    MetFree l (⟨"com/example/mortise/mortise/join/Record", "keyHash", "([BII)J"⟩ : MethodName) (head1 (Jvm.Cond.code (⟨"com/example/mortise/mortise/join/Record", "keyHash", "([BII)J"⟩ : MethodName) prog_36_method_9_code 6 (some .long) :: ws) ({ frames := 0, cells := 0, slots := 0, locals := 0 } : Room)) (fun a U => a = #[(.ref a3_0), (.int p3_1), (.int (p3_1 + (0 : Int32)))] ∧ Z.Warmed39 U.vm ∧ U.heap = h0) (fun _ _ _ _ _ => True) (fun _ U o U' => ∃ v L, o = .returned v ∧ Q_rm3_l0 Z a3_0 p3_1 h0 n0 v U'.heap L ∧ FrameEnd U o U' L ({ frames := 0, cells := 0, slots := 0, locals := 0 } : Room).cells ({ frames := 0, cells := 0, slots := 0, locals := 0 } : Room).slots) := by
  refine MetFree.of_bodySF (plainFor_of_name pn_3) hisR ?_
  intro p e s m args below meth c s₁ Bd hml0 hP hK
  obtain ⟨rfl, hZ, hh⟩ := hP
  have hx := Bd.exec
  have hby := Bd.bytes
  have hml : c.maxLocals = 6 := hml0
  have hown : s.vm.findClass "com/example/mortise/mortise/join/Record" = some m.cls := findClass_of_methodNamed Bd.named
  have hnm := (name_of_methodNamed Bd.named Bd.method).1
  have X0 : Stand p l e ({ frames := 0, cells := 0, slots := 0, locals := 0 } : Room) s m #[(.ref a3_0), (.int p3_1), (.int (p3_1 + (0 : Int32)))] below meth c s₁ [] 0 0 := Stand.of_body Bd
  have e0 : s₁.heap = h0 := by rw [← hh, Bd.state]; rfl
  have N0 := Fr.nil n0
  have pre0 : ∀ t, Steps p.tables e below (s₁.setTop (mkF m 0 #[.val (.ref a3_0), .val (.int p3_1), .val (.int (p3_1 + (0 : Int32))), .unset, .unset, .unset] [])) t → Steps p.tables e below (s₁.setTop (entryFrame m #[(.ref a3_0), (.int p3_1), (.int (p3_1 + (0 : Int32)))] 6)) t := fun t k => castTop (ef_rm3_l0 m a3_0 p3_1) k
  obtain ⟨fs, hr, hrun, hended, hW, hsame⟩ := X0.leave (v := some (.long (-1166397803181037274 : Int64))) (fun h => by rw [Bd.returns] at h; cases h)
  refine ⟨_, _, pre0 _ ?_, hrun, hended, _, _, rfl, ?_, ⟨_, rfl⟩, hW, hsame.mono (by decide) (by decide)⟩
  · show Steps p.tables e below (s₁.setTop (mkF m 0 #[.val (.ref a3_0), .val (.int p3_1), .val (.int (p3_1 + (0 : Int32))), .unset, .unset, .unset] [])) _
    refine X0.ldc2Long hx hown (mvT hZ (ow13 hw)) (g := (mkF m 0 #[.val (.ref a3_0), .val (.int p3_1), .val (.int (p3_1 + (0 : Int32))), .unset, .unset, .unset] [])) rfl (hb hby d3_0) _ ?_
    show Steps p.tables e below (s₁.setTop (mkF m 3 #[.val (.ref a3_0), .val (.int p3_1), .val (.int (p3_1 + (0 : Int32))), .unset, .unset, .unset] [(.long (-3750763034362895579 : Int64))])) _
    refine XS.lstoreN X0.here hx rfl (hb hby d3_3) rfl (l' := #[.val (.ref a3_0), .val (.int p3_1), .val (.int (p3_1 + (0 : Int32))), .val (.long (-3750763034362895579 : Int64)), .second, .unset]) rfl ?_
    show Steps p.tables e below (s₁.setTop (mkF m 4 #[.val (.ref a3_0), .val (.int p3_1), .val (.int (p3_1 + (0 : Int32))), .val (.long (-3750763034362895579 : Int64)), .second, .unset] [])) _
    refine XS.iloadN X0.here hx rfl (hb hby d3_4) rfl ?_
    show Steps p.tables e below (s₁.setTop (mkF m 5 #[.val (.ref a3_0), .val (.int p3_1), .val (.int (p3_1 + (0 : Int32))), .val (.long (-3750763034362895579 : Int64)), .second, .unset] [(.int p3_1)])) _
    refine XS.istore X0.here hx rfl (hb hby d3_5) rfl (l' := #[.val (.ref a3_0), .val (.int p3_1), .val (.int (p3_1 + (0 : Int32))), .val (.long (-3750763034362895579 : Int64)), .second, .val (.int p3_1)]) rfl ?_
    show Steps p.tables e below (s₁.setTop (mkF m 7 #[.val (.ref a3_0), .val (.int p3_1), .val (.int (p3_1 + (0 : Int32))), .val (.long (-3750763034362895579 : Int64)), .second, .val (.int p3_1)] [])) _
    refine XS.iload X0.here hx rfl (hb hby d3_7) rfl ?_
    show Steps p.tables e below (s₁.setTop (mkF m 9 #[.val (.ref a3_0), .val (.int p3_1), .val (.int (p3_1 + (0 : Int32))), .val (.long (-3750763034362895579 : Int64)), .second, .val (.int p3_1)] [(.int p3_1)])) _
    refine XS.iloadN X0.here hx rfl (hb hby d3_9) rfl ?_
    show Steps p.tables e below (s₁.setTop (mkF m 10 #[.val (.ref a3_0), .val (.int p3_1), .val (.int (p3_1 + (0 : Int32))), .val (.long (-3750763034362895579 : Int64)), .second, .val (.int p3_1)] [(.int (p3_1 + (0 : Int32))), (.int p3_1)])) _
    refine XS.icmpYes X0.here hx rfl (pc0 := 10) (pc' := 35) rfl (hb hby d3_10) rfl (flt (own_ltF0 hoff (d := (0 : Int32)) (by decide) (by decide))).2.1 (by decide) (by decide) ?_
    show Steps p.tables e below (s₁.setTop (mkF m 35 #[.val (.ref a3_0), .val (.int p3_1), .val (.int (p3_1 + (0 : Int32))), .val (.long (-3750763034362895579 : Int64)), .second, .val (.int p3_1)] [])) _
    refine XS.lloadN X0.here hx rfl (hb hby d3_35) rfl ?_
    show Steps p.tables e below (s₁.setTop (mkF m 36 #[.val (.ref a3_0), .val (.int p3_1), .val (.int (p3_1 + (0 : Int32))), .val (.long (-3750763034362895579 : Int64)), .second, .val (.int p3_1)] [(.long (-3750763034362895579 : Int64))])) _
    refine XS.lloadN X0.here hx rfl (hb hby d3_36) rfl ?_
    show Steps p.tables e below (s₁.setTop (mkF m 37 #[.val (.ref a3_0), .val (.int p3_1), .val (.int (p3_1 + (0 : Int32))), .val (.long (-3750763034362895579 : Int64)), .second, .val (.int p3_1)] [(.long (-3750763034362895579 : Int64)), (.long (-3750763034362895579 : Int64))])) _
    refine XS.bipush X0.here hx rfl (hb hby d3_37) ?_
    show Steps p.tables e below (s₁.setTop (mkF m 39 #[.val (.ref a3_0), .val (.int p3_1), .val (.int (p3_1 + (0 : Int32))), .val (.long (-3750763034362895579 : Int64)), .second, .val (.int p3_1)] [(.int (33 : Int32)), (.long (-3750763034362895579 : Int64)), (.long (-3750763034362895579 : Int64))])) _
    refine XS.lushr X0.here hx rfl (hb hby d3_39) rfl ?_
    show Steps p.tables e below (s₁.setTop (mkF m 40 #[.val (.ref a3_0), .val (.int p3_1), .val (.int (p3_1 + (0 : Int32))), .val (.long (-3750763034362895579 : Int64)), .second, .val (.int p3_1)] [(.long (1710837362 : Int64)), (.long (-3750763034362895579 : Int64))])) _
    refine XS.lxor X0.here hx rfl (hb hby d3_40) rfl ?_
    show Steps p.tables e below (s₁.setTop (mkF m 41 #[.val (.ref a3_0), .val (.int p3_1), .val (.int (p3_1 + (0 : Int32))), .val (.long (-3750763034362895579 : Int64)), .second, .val (.int p3_1)] [(.long (-3750763032790471337 : Int64))])) _
    refine XS.lstoreN X0.here hx rfl (hb hby d3_41) rfl (l' := #[.val (.ref a3_0), .val (.int p3_1), .val (.int (p3_1 + (0 : Int32))), .val (.long (-3750763032790471337 : Int64)), .second, .val (.int p3_1)]) rfl ?_
    show Steps p.tables e below (s₁.setTop (mkF m 42 #[.val (.ref a3_0), .val (.int p3_1), .val (.int (p3_1 + (0 : Int32))), .val (.long (-3750763032790471337 : Int64)), .second, .val (.int p3_1)] [])) _
    refine XS.lloadN X0.here hx rfl (hb hby d3_42) rfl ?_
    show Steps p.tables e below (s₁.setTop (mkF m 43 #[.val (.ref a3_0), .val (.int p3_1), .val (.int (p3_1 + (0 : Int32))), .val (.long (-3750763032790471337 : Int64)), .second, .val (.int p3_1)] [(.long (-3750763032790471337 : Int64))])) _
    refine X0.ldc2Long hx hown (mvT hZ (ow15 hw)) (g := (mkF m 43 #[.val (.ref a3_0), .val (.int p3_1), .val (.int (p3_1 + (0 : Int32))), .val (.long (-3750763032790471337 : Int64)), .second, .val (.int p3_1)] [(.long (-3750763032790471337 : Int64))])) rfl (hb hby d3_43) _ ?_
    show Steps p.tables e below (s₁.setTop (mkF m 46 #[.val (.ref a3_0), .val (.int p3_1), .val (.int (p3_1 + (0 : Int32))), .val (.long (-3750763032790471337 : Int64)), .second, .val (.int p3_1)] [(.long (-49064778989728563 : Int64)), (.long (-3750763032790471337 : Int64))])) _
    refine XS.lmul X0.here hx rfl (hb hby d3_46) rfl ?_
    show Steps p.tables e below (s₁.setTop (mkF m 47 #[.val (.ref a3_0), .val (.int p3_1), .val (.int (p3_1 + (0 : Int32))), .val (.long (-3750763032790471337 : Int64)), .second, .val (.int p3_1)] [(.long (-1388729422455692629 : Int64))])) _
    refine XS.lstoreN X0.here hx rfl (hb hby d3_47) rfl (l' := #[.val (.ref a3_0), .val (.int p3_1), .val (.int (p3_1 + (0 : Int32))), .val (.long (-1388729422455692629 : Int64)), .second, .val (.int p3_1)]) rfl ?_
    show Steps p.tables e below (s₁.setTop (mkF m 48 #[.val (.ref a3_0), .val (.int p3_1), .val (.int (p3_1 + (0 : Int32))), .val (.long (-1388729422455692629 : Int64)), .second, .val (.int p3_1)] [])) _
    refine XS.lloadN X0.here hx rfl (hb hby d3_48) rfl ?_
    show Steps p.tables e below (s₁.setTop (mkF m 49 #[.val (.ref a3_0), .val (.int p3_1), .val (.int (p3_1 + (0 : Int32))), .val (.long (-1388729422455692629 : Int64)), .second, .val (.int p3_1)] [(.long (-1388729422455692629 : Int64))])) _
    refine XS.lloadN X0.here hx rfl (hb hby d3_49) rfl ?_
    show Steps p.tables e below (s₁.setTop (mkF m 50 #[.val (.ref a3_0), .val (.int p3_1), .val (.int (p3_1 + (0 : Int32))), .val (.long (-1388729422455692629 : Int64)), .second, .val (.int p3_1)] [(.long (-1388729422455692629 : Int64)), (.long (-1388729422455692629 : Int64))])) _
    refine XS.bipush X0.here hx rfl (hb hby d3_50) ?_
    show Steps p.tables e below (s₁.setTop (mkF m 52 #[.val (.ref a3_0), .val (.int p3_1), .val (.int (p3_1 + (0 : Int32))), .val (.long (-1388729422455692629 : Int64)), .second, .val (.int p3_1)] [(.int (33 : Int32)), (.long (-1388729422455692629 : Int64)), (.long (-1388729422455692629 : Int64))])) _
    refine XS.lushr X0.here hx rfl (hb hby d3_52) rfl ?_
    show Steps p.tables e below (s₁.setTop (mkF m 53 #[.val (.ref a3_0), .val (.int p3_1), .val (.int (p3_1 + (0 : Int32))), .val (.long (-1388729422455692629 : Int64)), .second, .val (.int p3_1)] [(.long (1985814265 : Int64)), (.long (-1388729422455692629 : Int64))])) _
    refine XS.lxor X0.here hx rfl (hb hby d3_53) rfl ?_
    show Steps p.tables e below (s₁.setTop (mkF m 54 #[.val (.ref a3_0), .val (.int p3_1), .val (.int (p3_1 + (0 : Int32))), .val (.long (-1388729422455692629 : Int64)), .second, .val (.int p3_1)] [(.long (-1388729422223754158 : Int64))])) _
    refine XS.lstoreN X0.here hx rfl (hb hby d3_54) rfl (l' := #[.val (.ref a3_0), .val (.int p3_1), .val (.int (p3_1 + (0 : Int32))), .val (.long (-1388729422223754158 : Int64)), .second, .val (.int p3_1)]) rfl ?_
    show Steps p.tables e below (s₁.setTop (mkF m 55 #[.val (.ref a3_0), .val (.int p3_1), .val (.int (p3_1 + (0 : Int32))), .val (.long (-1388729422223754158 : Int64)), .second, .val (.int p3_1)] [])) _
    refine XS.lloadN X0.here hx rfl (hb hby d3_55) rfl ?_
    show Steps p.tables e below (s₁.setTop (mkF m 56 #[.val (.ref a3_0), .val (.int p3_1), .val (.int (p3_1 + (0 : Int32))), .val (.long (-1388729422223754158 : Int64)), .second, .val (.int p3_1)] [(.long (-1388729422223754158 : Int64))])) _
    refine X0.ldc2Long hx hown (mvT hZ (ow16 hw)) (g := (mkF m 56 #[.val (.ref a3_0), .val (.int p3_1), .val (.int (p3_1 + (0 : Int32))), .val (.long (-1388729422223754158 : Int64)), .second, .val (.int p3_1)] [(.long (-1388729422223754158 : Int64))])) rfl (hb hby d3_56) _ ?_
    show Steps p.tables e below (s₁.setTop (mkF m 59 #[.val (.ref a3_0), .val (.int p3_1), .val (.int (p3_1 + (0 : Int32))), .val (.long (-1388729422223754158 : Int64)), .second, .val (.int p3_1)] [(.long (-4265267296055464877 : Int64)), (.long (-1388729422223754158 : Int64))])) _
    refine XS.lmul X0.here hx rfl (hb hby d3_59) rfl ?_
    show Steps p.tables e below (s₁.setTop (mkF m 60 #[.val (.ref a3_0), .val (.int p3_1), .val (.int (p3_1 + (0 : Int32))), .val (.long (-1388729422223754158 : Int64)), .second, .val (.int p3_1)] [(.long (-1166397802864892266 : Int64))])) _
    refine XS.lstoreN X0.here hx rfl (hb hby d3_60) rfl (l' := #[.val (.ref a3_0), .val (.int p3_1), .val (.int (p3_1 + (0 : Int32))), .val (.long (-1166397802864892266 : Int64)), .second, .val (.int p3_1)]) rfl ?_
    show Steps p.tables e below (s₁.setTop (mkF m 61 #[.val (.ref a3_0), .val (.int p3_1), .val (.int (p3_1 + (0 : Int32))), .val (.long (-1166397802864892266 : Int64)), .second, .val (.int p3_1)] [])) _
    refine XS.lloadN X0.here hx rfl (hb hby d3_61) rfl ?_
    show Steps p.tables e below (s₁.setTop (mkF m 62 #[.val (.ref a3_0), .val (.int p3_1), .val (.int (p3_1 + (0 : Int32))), .val (.long (-1166397802864892266 : Int64)), .second, .val (.int p3_1)] [(.long (-1166397802864892266 : Int64))])) _
    refine XS.lloadN X0.here hx rfl (hb hby d3_62) rfl ?_
    show Steps p.tables e below (s₁.setTop (mkF m 63 #[.val (.ref a3_0), .val (.int p3_1), .val (.int (p3_1 + (0 : Int32))), .val (.long (-1166397802864892266 : Int64)), .second, .val (.int p3_1)] [(.long (-1166397802864892266 : Int64)), (.long (-1166397802864892266 : Int64))])) _
    refine XS.bipush X0.here hx rfl (hb hby d3_63) ?_
    show Steps p.tables e below (s₁.setTop (mkF m 65 #[.val (.ref a3_0), .val (.int p3_1), .val (.int (p3_1 + (0 : Int32))), .val (.long (-1166397802864892266 : Int64)), .second, .val (.int p3_1)] [(.int (33 : Int32)), (.long (-1166397802864892266 : Int64)), (.long (-1166397802864892266 : Int64))])) _
    refine XS.lushr X0.here hx rfl (hb hby d3_65) rfl ?_
    show Steps p.tables e below (s₁.setTop (mkF m 66 #[.val (.ref a3_0), .val (.int p3_1), .val (.int (p3_1 + (0 : Int32))), .val (.long (-1166397802864892266 : Int64)), .second, .val (.int p3_1)] [(.long (2011697072 : Int64)), (.long (-1166397802864892266 : Int64))])) _
    refine XS.lxor X0.here hx rfl (hb hby d3_66) rfl ?_
    show Steps p.tables e below (s₁.setTop (mkF m 67 #[.val (.ref a3_0), .val (.int p3_1), .val (.int (p3_1 + (0 : Int32))), .val (.long (-1166397802864892266 : Int64)), .second, .val (.int p3_1)] [(.long (-1166397803181037274 : Int64))])) _
    refine XS.lstoreN X0.here hx rfl (hb hby d3_67) rfl (l' := #[.val (.ref a3_0), .val (.int p3_1), .val (.int (p3_1 + (0 : Int32))), .val (.long (-1166397803181037274 : Int64)), .second, .val (.int p3_1)]) rfl ?_
    show Steps p.tables e below (s₁.setTop (mkF m 68 #[.val (.ref a3_0), .val (.int p3_1), .val (.int (p3_1 + (0 : Int32))), .val (.long (-1166397803181037274 : Int64)), .second, .val (.int p3_1)] [])) _
    refine XS.lloadN X0.here hx rfl (hb hby d3_68) rfl ?_
    show Steps p.tables e below (s₁.setTop (mkF m 69 #[.val (.ref a3_0), .val (.int p3_1), .val (.int (p3_1 + (0 : Int32))), .val (.long (-1166397803181037274 : Int64)), .second, .val (.int p3_1)] [(.long (-1166397803181037274 : Int64))])) _
    jvm_step X0.here [X0.here.top, hx, (hb hby d3_69), X0.method', Bd.returns, narrow]
    first | (intro acts; rw [hr _ acts rfl rfl rfl]) | rw [hr _ _ rfl rfl rfl]
    exact Steps.refl _
  · show Q_rm3_l0 Z a3_0 p3_1 h0 n0 _ s₁.heap _
    rw [e0]
    exact ⟨rfl, N0, rfl⟩
theorem d3_13 : decode prog_36_method_9_code 13 = .ok (.lload_n 3, 1) := by decide +kernel
theorem d3_14 : decode prog_36_method_9_code 14 = .ok (.aload_n 0, 1) := by decide +kernel
theorem d3_15 : decode prog_36_method_9_code 15 = .ok (.iload 5, 2) := by decide +kernel
theorem d3_17 : decode prog_36_method_9_code 17 = .ok (.baload, 1) := by decide +kernel
theorem d3_18 : decode prog_36_method_9_code 18 = .ok (.sipush 255, 3) := by decide +kernel
theorem d3_21 : decode prog_36_method_9_code 21 = .ok (.iand, 1) := by decide +kernel
theorem d3_22 : decode prog_36_method_9_code 22 = .ok (.i2l, 1) := by decide +kernel
theorem d3_23 : decode prog_36_method_9_code 23 = .ok (.lxor, 1) := by decide +kernel
theorem d3_24 : decode prog_36_method_9_code 24 = .ok (.ldc2_w 35, 3) := by decide +kernel
theorem d3_27 : decode prog_36_method_9_code 27 = .ok (.lmul, 1) := by decide +kernel
theorem d3_28 : decode prog_36_method_9_code 28 = .ok (.lstore_n 3, 1) := by decide +kernel
theorem d3_29 : decode prog_36_method_9_code 29 = .ok (.iinc 5 1, 3) := by decide +kernel
theorem d3_32 : decode prog_36_method_9_code 32 = .ok (.goto (-25), 3) := by decide +kernel
theorem ef_rm3_l1 (m : MethodId) (y0 : Addr) (y1 : Int32) : entryFrame m #[(.ref y0), (.int y1), (.int (y1 + (1 : Int32)))] 6 = mkF m 0 #[.val (.ref y0), .val (.int y1), .val (.int (y1 + (1 : Int32))), .unset, .unset, .unset] [] := by first | (simp [entryFrame, mkF, argsToLocals, Value.category]; done) | rfl
def Q_rm3_l1 (Z : State) (a3_0 : Addr) (p3_1 : Int32) (f_a3_0 : Int32 → Int32) (h0 : Heap) (n0 : Nat) (v : Option Value) (h : Heap) (L : List Loc) : Prop := v = some (.long ((((((((-3750763034362895579 : Int64) ^^^ (((f_a3_0 p3_1) &&& (255 : Int32)).toInt64)) * (1099511628211 : Int64)) ^^^ (((((-3750763034362895579 : Int64) ^^^ (((f_a3_0 p3_1) &&& (255 : Int32)).toInt64)) * (1099511628211 : Int64)).toUInt64 >>> ((33 : Int32) &&& 0x3f).toInt64.toUInt64).toInt64)) * (-49064778989728563 : Int64)) ^^^ (((((((-3750763034362895579 : Int64) ^^^ (((f_a3_0 p3_1) &&& (255 : Int32)).toInt64)) * (1099511628211 : Int64)) ^^^ (((((-3750763034362895579 : Int64) ^^^ (((f_a3_0 p3_1) &&& (255 : Int32)).toInt64)) * (1099511628211 : Int64)).toUInt64 >>> ((33 : Int32) &&& 0x3f).toInt64.toUInt64).toInt64)) * (-49064778989728563 : Int64)).toUInt64 >>> ((33 : Int32) &&& 0x3f).toInt64.toUInt64).toInt64)) * (-4265267296055464877 : Int64)) ^^^ (((((((((-3750763034362895579 : Int64) ^^^ (((f_a3_0 p3_1) &&& (255 : Int32)).toInt64)) * (1099511628211 : Int64)) ^^^ (((((-3750763034362895579 : Int64) ^^^ (((f_a3_0 p3_1) &&& (255 : Int32)).toInt64)) * (1099511628211 : Int64)).toUInt64 >>> ((33 : Int32) &&& 0x3f).toInt64.toUInt64).toInt64)) * (-49064778989728563 : Int64)) ^^^ (((((((-3750763034362895579 : Int64) ^^^ (((f_a3_0 p3_1) &&& (255 : Int32)).toInt64)) * (1099511628211 : Int64)) ^^^ (((((-3750763034362895579 : Int64) ^^^ (((f_a3_0 p3_1) &&& (255 : Int32)).toInt64)) * (1099511628211 : Int64)).toUInt64 >>> ((33 : Int32) &&& 0x3f).toInt64.toUInt64).toInt64)) * (-49064778989728563 : Int64)).toUInt64 >>> ((33 : Int32) &&& 0x3f).toInt64.toUInt64).toInt64)) * (-4265267296055464877 : Int64)).toUInt64 >>> ((33 : Int32) &&& 0x3f).toInt64.toUInt64).toInt64))) ∧ Fr n0 L ∧ h = h0
set_option maxRecDepth 65536 in
set_option maxHeartbeats 40000000 in
theorem rm3_l1 (l : Launch) (Z : State) (a0 : Array Value) (hw : ∀ d ∈ tables_1, d.before a0 Z = true) (ws : List Jvm.Cond) (a3_0 : Addr) (p3_1 : Int32) (f_a3_0 : Int32 → Int32) (h0 : Heap) (n0 : Nat) (Z0 : n0 ≤ h0.size) (hoff : ¬ p3_1 < 0 ∧ p3_1 < 8) (B_a3_0 : Bya Z h0 a3_0 (12 : Int32) f_a3_0) :
    MetFree l (⟨"com/example/mortise/mortise/join/Record", "keyHash", "([BII)J"⟩ : MethodName) (head1 (Jvm.Cond.code (⟨"com/example/mortise/mortise/join/Record", "keyHash", "([BII)J"⟩ : MethodName) prog_36_method_9_code 6 (some .long) :: ws) ({ frames := 0, cells := 0, slots := 0, locals := 0 } : Room)) (fun a U => a = #[(.ref a3_0), (.int p3_1), (.int (p3_1 + (1 : Int32)))] ∧ Z.Warmed39 U.vm ∧ U.heap = h0) (fun _ _ _ _ _ => True) (fun _ U o U' => ∃ v L, o = .returned v ∧ Q_rm3_l1 Z a3_0 p3_1 f_a3_0 h0 n0 v U'.heap L ∧ FrameEnd U o U' L ({ frames := 0, cells := 0, slots := 0, locals := 0 } : Room).cells ({ frames := 0, cells := 0, slots := 0, locals := 0 } : Room).slots) := by
  refine MetFree.of_bodySF (plainFor_of_name pn_3) hisR ?_
  intro p e s m args below meth c s₁ Bd hml0 hP hK
  obtain ⟨rfl, hZ, hh⟩ := hP
  have hx := Bd.exec
  have hby := Bd.bytes
  have hml : c.maxLocals = 6 := hml0
  have hown : s.vm.findClass "com/example/mortise/mortise/join/Record" = some m.cls := findClass_of_methodNamed Bd.named
  have hnm := (name_of_methodNamed Bd.named Bd.method).1
  have X0 : Stand p l e ({ frames := 0, cells := 0, slots := 0, locals := 0 } : Room) s m #[(.ref a3_0), (.int p3_1), (.int (p3_1 + (1 : Int32)))] below meth c s₁ [] 0 0 := Stand.of_body Bd
  have e0 : s₁.heap = h0 := by rw [← hh, Bd.state]; rfl
  have N0 := Fr.nil n0
  have pre0 : ∀ t, Steps p.tables e below (s₁.setTop (mkF m 0 #[.val (.ref a3_0), .val (.int p3_1), .val (.int (p3_1 + (1 : Int32))), .unset, .unset, .unset] [])) t → Steps p.tables e below (s₁.setTop (entryFrame m #[(.ref a3_0), (.int p3_1), (.int (p3_1 + (1 : Int32)))] 6)) t := fun t k => castTop (ef_rm3_l1 m a3_0 p3_1) k
  obtain ⟨cl1, Ar1, Sz1, Hh1⟩ := id B_a3_0
  obtain ⟨x2, hx2⟩ : ∃ z : Int64, z = (((-3750763034362895579 : Int64) ^^^ (((f_a3_0 p3_1) &&& (255 : Int32)).toInt64)) * (1099511628211 : Int64)) := ⟨_, rfl⟩
  obtain ⟨x3, hx3⟩ : ∃ z : Int64, z = (x2 ^^^ ((x2.toUInt64 >>> ((33 : Int32) &&& 0x3f).toInt64.toUInt64).toInt64)) := ⟨_, rfl⟩
  obtain ⟨x4, hx4⟩ : ∃ z : Int64, z = (x3 * (-49064778989728563 : Int64)) := ⟨_, rfl⟩
  obtain ⟨x5, hx5⟩ : ∃ z : Int64, z = (x4 ^^^ ((x4.toUInt64 >>> ((33 : Int32) &&& 0x3f).toInt64.toUInt64).toInt64)) := ⟨_, rfl⟩
  obtain ⟨x6, hx6⟩ : ∃ z : Int64, z = (x5 * (-4265267296055464877 : Int64)) := ⟨_, rfl⟩
  obtain ⟨x7, hx7⟩ : ∃ z : Int64, z = (x6 ^^^ ((x6.toUInt64 >>> ((33 : Int32) &&& 0x3f).toInt64.toUInt64).toInt64)) := ⟨_, rfl⟩
  obtain ⟨fs, hr, hrun, hended, hW, hsame⟩ := X0.leave (v := some (.long x7)) (fun h => by rw [Bd.returns] at h; cases h)
  refine ⟨_, _, pre0 _ ?_, hrun, hended, _, _, rfl, ?_, ⟨_, rfl⟩, hW, hsame.mono (by decide) (by decide)⟩
  · show Steps p.tables e below (s₁.setTop (mkF m 0 #[.val (.ref a3_0), .val (.int p3_1), .val (.int (p3_1 + (1 : Int32))), .unset, .unset, .unset] [])) _
    refine X0.ldc2Long hx hown (mvT hZ (ow13 hw)) (g := (mkF m 0 #[.val (.ref a3_0), .val (.int p3_1), .val (.int (p3_1 + (1 : Int32))), .unset, .unset, .unset] [])) rfl (hb hby d3_0) _ ?_
    show Steps p.tables e below (s₁.setTop (mkF m 3 #[.val (.ref a3_0), .val (.int p3_1), .val (.int (p3_1 + (1 : Int32))), .unset, .unset, .unset] [(.long (-3750763034362895579 : Int64))])) _
    refine XS.lstoreN X0.here hx rfl (hb hby d3_3) rfl (l' := #[.val (.ref a3_0), .val (.int p3_1), .val (.int (p3_1 + (1 : Int32))), .val (.long (-3750763034362895579 : Int64)), .second, .unset]) rfl ?_
    show Steps p.tables e below (s₁.setTop (mkF m 4 #[.val (.ref a3_0), .val (.int p3_1), .val (.int (p3_1 + (1 : Int32))), .val (.long (-3750763034362895579 : Int64)), .second, .unset] [])) _
    refine XS.iloadN X0.here hx rfl (hb hby d3_4) rfl ?_
    show Steps p.tables e below (s₁.setTop (mkF m 5 #[.val (.ref a3_0), .val (.int p3_1), .val (.int (p3_1 + (1 : Int32))), .val (.long (-3750763034362895579 : Int64)), .second, .unset] [(.int p3_1)])) _
    refine XS.istore X0.here hx rfl (hb hby d3_5) rfl (l' := #[.val (.ref a3_0), .val (.int p3_1), .val (.int (p3_1 + (1 : Int32))), .val (.long (-3750763034362895579 : Int64)), .second, .val (.int p3_1)]) rfl ?_
    show Steps p.tables e below (s₁.setTop (mkF m 7 #[.val (.ref a3_0), .val (.int p3_1), .val (.int (p3_1 + (1 : Int32))), .val (.long (-3750763034362895579 : Int64)), .second, .val (.int p3_1)] [])) _
    refine XS.iload X0.here hx rfl (hb hby d3_7) rfl ?_
    show Steps p.tables e below (s₁.setTop (mkF m 9 #[.val (.ref a3_0), .val (.int p3_1), .val (.int (p3_1 + (1 : Int32))), .val (.long (-3750763034362895579 : Int64)), .second, .val (.int p3_1)] [(.int p3_1)])) _
    refine XS.iloadN X0.here hx rfl (hb hby d3_9) rfl ?_
    show Steps p.tables e below (s₁.setTop (mkF m 10 #[.val (.ref a3_0), .val (.int p3_1), .val (.int (p3_1 + (1 : Int32))), .val (.long (-3750763034362895579 : Int64)), .second, .val (.int p3_1)] [(.int (p3_1 + (1 : Int32))), (.int p3_1)])) _
    refine XS.icmpNo X0.here hx rfl (hb hby d3_10) rfl (tlt (own_ltT0 hoff (d := (1 : Int32)) (by decide) (by decide))).2.1 ?_
    show Steps p.tables e below (s₁.setTop (mkF m 13 #[.val (.ref a3_0), .val (.int p3_1), .val (.int (p3_1 + (1 : Int32))), .val (.long (-3750763034362895579 : Int64)), .second, .val (.int p3_1)] [])) _
    refine XS.lloadN X0.here hx rfl (hb hby d3_13) rfl ?_
    show Steps p.tables e below (s₁.setTop (mkF m 14 #[.val (.ref a3_0), .val (.int p3_1), .val (.int (p3_1 + (1 : Int32))), .val (.long (-3750763034362895579 : Int64)), .second, .val (.int p3_1)] [(.long (-3750763034362895579 : Int64))])) _
    refine XS.aloadN X0.here hx rfl (hb hby d3_14) rfl rfl ?_
    show Steps p.tables e below (s₁.setTop (mkF m 15 #[.val (.ref a3_0), .val (.int p3_1), .val (.int (p3_1 + (1 : Int32))), .val (.long (-3750763034362895579 : Int64)), .second, .val (.int p3_1)] [(.ref a3_0), (.long (-3750763034362895579 : Int64))])) _
    refine XS.iload X0.here hx rfl (hb hby d3_15) rfl ?_
    show Steps p.tables e below (s₁.setTop (mkF m 17 #[.val (.ref a3_0), .val (.int p3_1), .val (.int (p3_1 + (1 : Int32))), .val (.long (-3750763034362895579 : Int64)), .second, .val (.int p3_1)] [(.int p3_1), (.ref a3_0), (.long (-3750763034362895579 : Int64))])) _
    refine X0.baloadBytes hx (j := p3_1) (v := (.int (f_a3_0 p3_1))) (by rw [e0]; exact Ar1.1) (State.isArrayOf_alike hZ.alike Ar1.2.1) Ar1.2.2 (inb_of Sz1 (own_ix0 hoff)) (Hh1 _ (own_ix0 hoff).1 (own_ix0 hoff).2) (g := (mkF m 17 #[.val (.ref a3_0), .val (.int p3_1), .val (.int (p3_1 + (1 : Int32))), .val (.long (-3750763034362895579 : Int64)), .second, .val (.int p3_1)] [(.int p3_1), (.ref a3_0), (.long (-3750763034362895579 : Int64))])) rfl rfl (hb hby d3_17) _ ?_
    show Steps p.tables e below (s₁.setTop (mkF m 18 #[.val (.ref a3_0), .val (.int p3_1), .val (.int (p3_1 + (1 : Int32))), .val (.long (-3750763034362895579 : Int64)), .second, .val (.int p3_1)] [(.int (f_a3_0 p3_1)), (.long (-3750763034362895579 : Int64))])) _
    refine XS.sipush X0.here hx rfl (hb hby d3_18) ?_
    show Steps p.tables e below (s₁.setTop (mkF m 21 #[.val (.ref a3_0), .val (.int p3_1), .val (.int (p3_1 + (1 : Int32))), .val (.long (-3750763034362895579 : Int64)), .second, .val (.int p3_1)] [(.int (255 : Int32)), (.int (f_a3_0 p3_1)), (.long (-3750763034362895579 : Int64))])) _
    refine XS.iand X0.here hx rfl (hb hby d3_21) rfl ?_
    show Steps p.tables e below (s₁.setTop (mkF m 22 #[.val (.ref a3_0), .val (.int p3_1), .val (.int (p3_1 + (1 : Int32))), .val (.long (-3750763034362895579 : Int64)), .second, .val (.int p3_1)] [(.int ((f_a3_0 p3_1) &&& (255 : Int32))), (.long (-3750763034362895579 : Int64))])) _
    refine XS.i2l X0.here hx rfl (hb hby d3_22) rfl ?_
    show Steps p.tables e below (s₁.setTop (mkF m 23 #[.val (.ref a3_0), .val (.int p3_1), .val (.int (p3_1 + (1 : Int32))), .val (.long (-3750763034362895579 : Int64)), .second, .val (.int p3_1)] [(.long (((f_a3_0 p3_1) &&& (255 : Int32)).toInt64)), (.long (-3750763034362895579 : Int64))])) _
    refine XS.lxor X0.here hx rfl (hb hby d3_23) rfl ?_
    show Steps p.tables e below (s₁.setTop (mkF m 24 #[.val (.ref a3_0), .val (.int p3_1), .val (.int (p3_1 + (1 : Int32))), .val (.long (-3750763034362895579 : Int64)), .second, .val (.int p3_1)] [(.long ((-3750763034362895579 : Int64) ^^^ (((f_a3_0 p3_1) &&& (255 : Int32)).toInt64)))])) _
    refine X0.ldc2Long hx hown (mvT hZ (ow14 hw)) (g := (mkF m 24 #[.val (.ref a3_0), .val (.int p3_1), .val (.int (p3_1 + (1 : Int32))), .val (.long (-3750763034362895579 : Int64)), .second, .val (.int p3_1)] [(.long ((-3750763034362895579 : Int64) ^^^ (((f_a3_0 p3_1) &&& (255 : Int32)).toInt64)))])) rfl (hb hby d3_24) _ ?_
    show Steps p.tables e below (s₁.setTop (mkF m 27 #[.val (.ref a3_0), .val (.int p3_1), .val (.int (p3_1 + (1 : Int32))), .val (.long (-3750763034362895579 : Int64)), .second, .val (.int p3_1)] [(.long (1099511628211 : Int64)), (.long ((-3750763034362895579 : Int64) ^^^ (((f_a3_0 p3_1) &&& (255 : Int32)).toInt64)))])) _
    refine XS.lmul X0.here hx rfl (hb hby d3_27) rfl ?_
    show Steps p.tables e below (s₁.setTop (mkF m 28 #[.val (.ref a3_0), .val (.int p3_1), .val (.int (p3_1 + (1 : Int32))), .val (.long (-3750763034362895579 : Int64)), .second, .val (.int p3_1)] [(.long (((-3750763034362895579 : Int64) ^^^ (((f_a3_0 p3_1) &&& (255 : Int32)).toInt64)) * (1099511628211 : Int64)))])) _
    refine XS.lstoreN X0.here hx rfl (hb hby d3_28) rfl (l' := #[.val (.ref a3_0), .val (.int p3_1), .val (.int (p3_1 + (1 : Int32))), .val (.long (((-3750763034362895579 : Int64) ^^^ (((f_a3_0 p3_1) &&& (255 : Int32)).toInt64)) * (1099511628211 : Int64))), .second, .val (.int p3_1)]) rfl ?_
    show Steps p.tables e below (s₁.setTop (mkF m 29 #[.val (.ref a3_0), .val (.int p3_1), .val (.int (p3_1 + (1 : Int32))), .val (.long (((-3750763034362895579 : Int64) ^^^ (((f_a3_0 p3_1) &&& (255 : Int32)).toInt64)) * (1099511628211 : Int64))), .second, .val (.int p3_1)] [])) _
    rw [← hx2]
    show Steps p.tables e below (s₁.setTop (mkF m 29 #[.val (.ref a3_0), .val (.int p3_1), .val (.int (p3_1 + (1 : Int32))), .val (.long x2), .second, .val (.int p3_1)] [])) _
    refine XS.iinc X0.here hx rfl (hb hby d3_29) rfl (l' := #[.val (.ref a3_0), .val (.int p3_1), .val (.int (p3_1 + (1 : Int32))), .val (.long x2), .second, .val (.int (p3_1 + (1 : Int32)))]) rfl ?_
    show Steps p.tables e below (s₁.setTop (mkF m 32 #[.val (.ref a3_0), .val (.int p3_1), .val (.int (p3_1 + (1 : Int32))), .val (.long x2), .second, .val (.int (p3_1 + (1 : Int32)))] [])) _
    refine XS.goto X0.here hx rfl (pc0 := 32) (pc' := 7) rfl (hb hby d3_32) (by decide) (by decide) ?_
    show Steps p.tables e below (s₁.setTop (mkF m 7 #[.val (.ref a3_0), .val (.int p3_1), .val (.int (p3_1 + (1 : Int32))), .val (.long x2), .second, .val (.int (p3_1 + (1 : Int32)))] [])) _
    refine XS.iload X0.here hx rfl (hb hby d3_7) rfl ?_
    show Steps p.tables e below (s₁.setTop (mkF m 9 #[.val (.ref a3_0), .val (.int p3_1), .val (.int (p3_1 + (1 : Int32))), .val (.long x2), .second, .val (.int (p3_1 + (1 : Int32)))] [(.int (p3_1 + (1 : Int32)))])) _
    refine XS.iloadN X0.here hx rfl (hb hby d3_9) rfl ?_
    show Steps p.tables e below (s₁.setTop (mkF m 10 #[.val (.ref a3_0), .val (.int p3_1), .val (.int (p3_1 + (1 : Int32))), .val (.long x2), .second, .val (.int (p3_1 + (1 : Int32)))] [(.int (p3_1 + (1 : Int32))), (.int (p3_1 + (1 : Int32)))])) _
    refine XS.icmpYes X0.here hx rfl (pc0 := 10) (pc' := 35) rfl (hb hby d3_10) rfl (flt (own_ltF hoff (c := (1 : Int32)) (d := (1 : Int32)) (by decide) (by decide) (by decide))).2.1 (by decide) (by decide) ?_
    show Steps p.tables e below (s₁.setTop (mkF m 35 #[.val (.ref a3_0), .val (.int p3_1), .val (.int (p3_1 + (1 : Int32))), .val (.long x2), .second, .val (.int (p3_1 + (1 : Int32)))] [])) _
    refine XS.lloadN X0.here hx rfl (hb hby d3_35) rfl ?_
    show Steps p.tables e below (s₁.setTop (mkF m 36 #[.val (.ref a3_0), .val (.int p3_1), .val (.int (p3_1 + (1 : Int32))), .val (.long x2), .second, .val (.int (p3_1 + (1 : Int32)))] [(.long x2)])) _
    refine XS.lloadN X0.here hx rfl (hb hby d3_36) rfl ?_
    show Steps p.tables e below (s₁.setTop (mkF m 37 #[.val (.ref a3_0), .val (.int p3_1), .val (.int (p3_1 + (1 : Int32))), .val (.long x2), .second, .val (.int (p3_1 + (1 : Int32)))] [(.long x2), (.long x2)])) _
    refine XS.bipush X0.here hx rfl (hb hby d3_37) ?_
    show Steps p.tables e below (s₁.setTop (mkF m 39 #[.val (.ref a3_0), .val (.int p3_1), .val (.int (p3_1 + (1 : Int32))), .val (.long x2), .second, .val (.int (p3_1 + (1 : Int32)))] [(.int (33 : Int32)), (.long x2), (.long x2)])) _
    refine XS.lushr X0.here hx rfl (hb hby d3_39) rfl ?_
    show Steps p.tables e below (s₁.setTop (mkF m 40 #[.val (.ref a3_0), .val (.int p3_1), .val (.int (p3_1 + (1 : Int32))), .val (.long x2), .second, .val (.int (p3_1 + (1 : Int32)))] [(.long ((x2.toUInt64 >>> ((33 : Int32) &&& 0x3f).toInt64.toUInt64).toInt64)), (.long x2)])) _
    refine XS.lxor X0.here hx rfl (hb hby d3_40) rfl ?_
    show Steps p.tables e below (s₁.setTop (mkF m 41 #[.val (.ref a3_0), .val (.int p3_1), .val (.int (p3_1 + (1 : Int32))), .val (.long x2), .second, .val (.int (p3_1 + (1 : Int32)))] [(.long (x2 ^^^ ((x2.toUInt64 >>> ((33 : Int32) &&& 0x3f).toInt64.toUInt64).toInt64)))])) _
    refine XS.lstoreN X0.here hx rfl (hb hby d3_41) rfl (l' := #[.val (.ref a3_0), .val (.int p3_1), .val (.int (p3_1 + (1 : Int32))), .val (.long (x2 ^^^ ((x2.toUInt64 >>> ((33 : Int32) &&& 0x3f).toInt64.toUInt64).toInt64))), .second, .val (.int (p3_1 + (1 : Int32)))]) rfl ?_
    show Steps p.tables e below (s₁.setTop (mkF m 42 #[.val (.ref a3_0), .val (.int p3_1), .val (.int (p3_1 + (1 : Int32))), .val (.long (x2 ^^^ ((x2.toUInt64 >>> ((33 : Int32) &&& 0x3f).toInt64.toUInt64).toInt64))), .second, .val (.int (p3_1 + (1 : Int32)))] [])) _
    rw [← hx3]
    show Steps p.tables e below (s₁.setTop (mkF m 42 #[.val (.ref a3_0), .val (.int p3_1), .val (.int (p3_1 + (1 : Int32))), .val (.long x3), .second, .val (.int (p3_1 + (1 : Int32)))] [])) _
    refine XS.lloadN X0.here hx rfl (hb hby d3_42) rfl ?_
    show Steps p.tables e below (s₁.setTop (mkF m 43 #[.val (.ref a3_0), .val (.int p3_1), .val (.int (p3_1 + (1 : Int32))), .val (.long x3), .second, .val (.int (p3_1 + (1 : Int32)))] [(.long x3)])) _
    refine X0.ldc2Long hx hown (mvT hZ (ow15 hw)) (g := (mkF m 43 #[.val (.ref a3_0), .val (.int p3_1), .val (.int (p3_1 + (1 : Int32))), .val (.long x3), .second, .val (.int (p3_1 + (1 : Int32)))] [(.long x3)])) rfl (hb hby d3_43) _ ?_
    show Steps p.tables e below (s₁.setTop (mkF m 46 #[.val (.ref a3_0), .val (.int p3_1), .val (.int (p3_1 + (1 : Int32))), .val (.long x3), .second, .val (.int (p3_1 + (1 : Int32)))] [(.long (-49064778989728563 : Int64)), (.long x3)])) _
    refine XS.lmul X0.here hx rfl (hb hby d3_46) rfl ?_
    show Steps p.tables e below (s₁.setTop (mkF m 47 #[.val (.ref a3_0), .val (.int p3_1), .val (.int (p3_1 + (1 : Int32))), .val (.long x3), .second, .val (.int (p3_1 + (1 : Int32)))] [(.long (x3 * (-49064778989728563 : Int64)))])) _
    refine XS.lstoreN X0.here hx rfl (hb hby d3_47) rfl (l' := #[.val (.ref a3_0), .val (.int p3_1), .val (.int (p3_1 + (1 : Int32))), .val (.long (x3 * (-49064778989728563 : Int64))), .second, .val (.int (p3_1 + (1 : Int32)))]) rfl ?_
    show Steps p.tables e below (s₁.setTop (mkF m 48 #[.val (.ref a3_0), .val (.int p3_1), .val (.int (p3_1 + (1 : Int32))), .val (.long (x3 * (-49064778989728563 : Int64))), .second, .val (.int (p3_1 + (1 : Int32)))] [])) _
    rw [← hx4]
    show Steps p.tables e below (s₁.setTop (mkF m 48 #[.val (.ref a3_0), .val (.int p3_1), .val (.int (p3_1 + (1 : Int32))), .val (.long x4), .second, .val (.int (p3_1 + (1 : Int32)))] [])) _
    refine XS.lloadN X0.here hx rfl (hb hby d3_48) rfl ?_
    show Steps p.tables e below (s₁.setTop (mkF m 49 #[.val (.ref a3_0), .val (.int p3_1), .val (.int (p3_1 + (1 : Int32))), .val (.long x4), .second, .val (.int (p3_1 + (1 : Int32)))] [(.long x4)])) _
    refine XS.lloadN X0.here hx rfl (hb hby d3_49) rfl ?_
    show Steps p.tables e below (s₁.setTop (mkF m 50 #[.val (.ref a3_0), .val (.int p3_1), .val (.int (p3_1 + (1 : Int32))), .val (.long x4), .second, .val (.int (p3_1 + (1 : Int32)))] [(.long x4), (.long x4)])) _
    refine XS.bipush X0.here hx rfl (hb hby d3_50) ?_
    show Steps p.tables e below (s₁.setTop (mkF m 52 #[.val (.ref a3_0), .val (.int p3_1), .val (.int (p3_1 + (1 : Int32))), .val (.long x4), .second, .val (.int (p3_1 + (1 : Int32)))] [(.int (33 : Int32)), (.long x4), (.long x4)])) _
    refine XS.lushr X0.here hx rfl (hb hby d3_52) rfl ?_
    show Steps p.tables e below (s₁.setTop (mkF m 53 #[.val (.ref a3_0), .val (.int p3_1), .val (.int (p3_1 + (1 : Int32))), .val (.long x4), .second, .val (.int (p3_1 + (1 : Int32)))] [(.long ((x4.toUInt64 >>> ((33 : Int32) &&& 0x3f).toInt64.toUInt64).toInt64)), (.long x4)])) _
    refine XS.lxor X0.here hx rfl (hb hby d3_53) rfl ?_
    show Steps p.tables e below (s₁.setTop (mkF m 54 #[.val (.ref a3_0), .val (.int p3_1), .val (.int (p3_1 + (1 : Int32))), .val (.long x4), .second, .val (.int (p3_1 + (1 : Int32)))] [(.long (x4 ^^^ ((x4.toUInt64 >>> ((33 : Int32) &&& 0x3f).toInt64.toUInt64).toInt64)))])) _
    refine XS.lstoreN X0.here hx rfl (hb hby d3_54) rfl (l' := #[.val (.ref a3_0), .val (.int p3_1), .val (.int (p3_1 + (1 : Int32))), .val (.long (x4 ^^^ ((x4.toUInt64 >>> ((33 : Int32) &&& 0x3f).toInt64.toUInt64).toInt64))), .second, .val (.int (p3_1 + (1 : Int32)))]) rfl ?_
    show Steps p.tables e below (s₁.setTop (mkF m 55 #[.val (.ref a3_0), .val (.int p3_1), .val (.int (p3_1 + (1 : Int32))), .val (.long (x4 ^^^ ((x4.toUInt64 >>> ((33 : Int32) &&& 0x3f).toInt64.toUInt64).toInt64))), .second, .val (.int (p3_1 + (1 : Int32)))] [])) _
    rw [← hx5]
    show Steps p.tables e below (s₁.setTop (mkF m 55 #[.val (.ref a3_0), .val (.int p3_1), .val (.int (p3_1 + (1 : Int32))), .val (.long x5), .second, .val (.int (p3_1 + (1 : Int32)))] [])) _
    refine XS.lloadN X0.here hx rfl (hb hby d3_55) rfl ?_
    show Steps p.tables e below (s₁.setTop (mkF m 56 #[.val (.ref a3_0), .val (.int p3_1), .val (.int (p3_1 + (1 : Int32))), .val (.long x5), .second, .val (.int (p3_1 + (1 : Int32)))] [(.long x5)])) _
    refine X0.ldc2Long hx hown (mvT hZ (ow16 hw)) (g := (mkF m 56 #[.val (.ref a3_0), .val (.int p3_1), .val (.int (p3_1 + (1 : Int32))), .val (.long x5), .second, .val (.int (p3_1 + (1 : Int32)))] [(.long x5)])) rfl (hb hby d3_56) _ ?_
    show Steps p.tables e below (s₁.setTop (mkF m 59 #[.val (.ref a3_0), .val (.int p3_1), .val (.int (p3_1 + (1 : Int32))), .val (.long x5), .second, .val (.int (p3_1 + (1 : Int32)))] [(.long (-4265267296055464877 : Int64)), (.long x5)])) _
    refine XS.lmul X0.here hx rfl (hb hby d3_59) rfl ?_
    show Steps p.tables e below (s₁.setTop (mkF m 60 #[.val (.ref a3_0), .val (.int p3_1), .val (.int (p3_1 + (1 : Int32))), .val (.long x5), .second, .val (.int (p3_1 + (1 : Int32)))] [(.long (x5 * (-4265267296055464877 : Int64)))])) _
    refine XS.lstoreN X0.here hx rfl (hb hby d3_60) rfl (l' := #[.val (.ref a3_0), .val (.int p3_1), .val (.int (p3_1 + (1 : Int32))), .val (.long (x5 * (-4265267296055464877 : Int64))), .second, .val (.int (p3_1 + (1 : Int32)))]) rfl ?_
    show Steps p.tables e below (s₁.setTop (mkF m 61 #[.val (.ref a3_0), .val (.int p3_1), .val (.int (p3_1 + (1 : Int32))), .val (.long (x5 * (-4265267296055464877 : Int64))), .second, .val (.int (p3_1 + (1 : Int32)))] [])) _
    rw [← hx6]
    show Steps p.tables e below (s₁.setTop (mkF m 61 #[.val (.ref a3_0), .val (.int p3_1), .val (.int (p3_1 + (1 : Int32))), .val (.long x6), .second, .val (.int (p3_1 + (1 : Int32)))] [])) _
    refine XS.lloadN X0.here hx rfl (hb hby d3_61) rfl ?_
    show Steps p.tables e below (s₁.setTop (mkF m 62 #[.val (.ref a3_0), .val (.int p3_1), .val (.int (p3_1 + (1 : Int32))), .val (.long x6), .second, .val (.int (p3_1 + (1 : Int32)))] [(.long x6)])) _
    refine XS.lloadN X0.here hx rfl (hb hby d3_62) rfl ?_
    show Steps p.tables e below (s₁.setTop (mkF m 63 #[.val (.ref a3_0), .val (.int p3_1), .val (.int (p3_1 + (1 : Int32))), .val (.long x6), .second, .val (.int (p3_1 + (1 : Int32)))] [(.long x6), (.long x6)])) _
    refine XS.bipush X0.here hx rfl (hb hby d3_63) ?_
    show Steps p.tables e below (s₁.setTop (mkF m 65 #[.val (.ref a3_0), .val (.int p3_1), .val (.int (p3_1 + (1 : Int32))), .val (.long x6), .second, .val (.int (p3_1 + (1 : Int32)))] [(.int (33 : Int32)), (.long x6), (.long x6)])) _
    refine XS.lushr X0.here hx rfl (hb hby d3_65) rfl ?_
    show Steps p.tables e below (s₁.setTop (mkF m 66 #[.val (.ref a3_0), .val (.int p3_1), .val (.int (p3_1 + (1 : Int32))), .val (.long x6), .second, .val (.int (p3_1 + (1 : Int32)))] [(.long ((x6.toUInt64 >>> ((33 : Int32) &&& 0x3f).toInt64.toUInt64).toInt64)), (.long x6)])) _
    refine XS.lxor X0.here hx rfl (hb hby d3_66) rfl ?_
    show Steps p.tables e below (s₁.setTop (mkF m 67 #[.val (.ref a3_0), .val (.int p3_1), .val (.int (p3_1 + (1 : Int32))), .val (.long x6), .second, .val (.int (p3_1 + (1 : Int32)))] [(.long (x6 ^^^ ((x6.toUInt64 >>> ((33 : Int32) &&& 0x3f).toInt64.toUInt64).toInt64)))])) _
    refine XS.lstoreN X0.here hx rfl (hb hby d3_67) rfl (l' := #[.val (.ref a3_0), .val (.int p3_1), .val (.int (p3_1 + (1 : Int32))), .val (.long (x6 ^^^ ((x6.toUInt64 >>> ((33 : Int32) &&& 0x3f).toInt64.toUInt64).toInt64))), .second, .val (.int (p3_1 + (1 : Int32)))]) rfl ?_
    show Steps p.tables e below (s₁.setTop (mkF m 68 #[.val (.ref a3_0), .val (.int p3_1), .val (.int (p3_1 + (1 : Int32))), .val (.long (x6 ^^^ ((x6.toUInt64 >>> ((33 : Int32) &&& 0x3f).toInt64.toUInt64).toInt64))), .second, .val (.int (p3_1 + (1 : Int32)))] [])) _
    rw [← hx7]
    show Steps p.tables e below (s₁.setTop (mkF m 68 #[.val (.ref a3_0), .val (.int p3_1), .val (.int (p3_1 + (1 : Int32))), .val (.long x7), .second, .val (.int (p3_1 + (1 : Int32)))] [])) _
    refine XS.lloadN X0.here hx rfl (hb hby d3_68) rfl ?_
    show Steps p.tables e below (s₁.setTop (mkF m 69 #[.val (.ref a3_0), .val (.int p3_1), .val (.int (p3_1 + (1 : Int32))), .val (.long x7), .second, .val (.int (p3_1 + (1 : Int32)))] [(.long x7)])) _
    jvm_step X0.here [X0.here.top, hx, (hb hby d3_69), X0.method', Bd.returns, narrow]
    first | (intro acts; rw [hr _ acts rfl rfl rfl]) | rw [hr _ _ rfl rfl rfl]
    exact Steps.refl _
  · show Q_rm3_l1 Z a3_0 p3_1 f_a3_0 h0 n0 _ s₁.heap _
    rw [e0]
    subst hx7
    subst hx6
    subst hx5
    subst hx4
    subst hx3
    subst hx2
    exact ⟨rfl, N0, rfl⟩
theorem ef_rm3_l2 (m : MethodId) (y0 : Addr) (y1 : Int32) : entryFrame m #[(.ref y0), (.int y1), (.int (y1 + (2 : Int32)))] 6 = mkF m 0 #[.val (.ref y0), .val (.int y1), .val (.int (y1 + (2 : Int32))), .unset, .unset, .unset] [] := by first | (simp [entryFrame, mkF, argsToLocals, Value.category]; done) | rfl
def Q_rm3_l2 (Z : State) (a3_0 : Addr) (p3_1 : Int32) (f_a3_0 : Int32 → Int32) (h0 : Heap) (n0 : Nat) (v : Option Value) (h : Heap) (L : List Loc) : Prop := v = some (.long ((((((((((-3750763034362895579 : Int64) ^^^ (((f_a3_0 p3_1) &&& (255 : Int32)).toInt64)) * (1099511628211 : Int64)) ^^^ (((f_a3_0 (p3_1 + (1 : Int32))) &&& (255 : Int32)).toInt64)) * (1099511628211 : Int64)) ^^^ (((((((-3750763034362895579 : Int64) ^^^ (((f_a3_0 p3_1) &&& (255 : Int32)).toInt64)) * (1099511628211 : Int64)) ^^^ (((f_a3_0 (p3_1 + (1 : Int32))) &&& (255 : Int32)).toInt64)) * (1099511628211 : Int64)).toUInt64 >>> ((33 : Int32) &&& 0x3f).toInt64.toUInt64).toInt64)) * (-49064778989728563 : Int64)) ^^^ (((((((((-3750763034362895579 : Int64) ^^^ (((f_a3_0 p3_1) &&& (255 : Int32)).toInt64)) * (1099511628211 : Int64)) ^^^ (((f_a3_0 (p3_1 + (1 : Int32))) &&& (255 : Int32)).toInt64)) * (1099511628211 : Int64)) ^^^ (((((((-3750763034362895579 : Int64) ^^^ (((f_a3_0 p3_1) &&& (255 : Int32)).toInt64)) * (1099511628211 : Int64)) ^^^ (((f_a3_0 (p3_1 + (1 : Int32))) &&& (255 : Int32)).toInt64)) * (1099511628211 : Int64)).toUInt64 >>> ((33 : Int32) &&& 0x3f).toInt64.toUInt64).toInt64)) * (-49064778989728563 : Int64)).toUInt64 >>> ((33 : Int32) &&& 0x3f).toInt64.toUInt64).toInt64)) * (-4265267296055464877 : Int64)) ^^^ (((((((((((-3750763034362895579 : Int64) ^^^ (((f_a3_0 p3_1) &&& (255 : Int32)).toInt64)) * (1099511628211 : Int64)) ^^^ (((f_a3_0 (p3_1 + (1 : Int32))) &&& (255 : Int32)).toInt64)) * (1099511628211 : Int64)) ^^^ (((((((-3750763034362895579 : Int64) ^^^ (((f_a3_0 p3_1) &&& (255 : Int32)).toInt64)) * (1099511628211 : Int64)) ^^^ (((f_a3_0 (p3_1 + (1 : Int32))) &&& (255 : Int32)).toInt64)) * (1099511628211 : Int64)).toUInt64 >>> ((33 : Int32) &&& 0x3f).toInt64.toUInt64).toInt64)) * (-49064778989728563 : Int64)) ^^^ (((((((((-3750763034362895579 : Int64) ^^^ (((f_a3_0 p3_1) &&& (255 : Int32)).toInt64)) * (1099511628211 : Int64)) ^^^ (((f_a3_0 (p3_1 + (1 : Int32))) &&& (255 : Int32)).toInt64)) * (1099511628211 : Int64)) ^^^ (((((((-3750763034362895579 : Int64) ^^^ (((f_a3_0 p3_1) &&& (255 : Int32)).toInt64)) * (1099511628211 : Int64)) ^^^ (((f_a3_0 (p3_1 + (1 : Int32))) &&& (255 : Int32)).toInt64)) * (1099511628211 : Int64)).toUInt64 >>> ((33 : Int32) &&& 0x3f).toInt64.toUInt64).toInt64)) * (-49064778989728563 : Int64)).toUInt64 >>> ((33 : Int32) &&& 0x3f).toInt64.toUInt64).toInt64)) * (-4265267296055464877 : Int64)).toUInt64 >>> ((33 : Int32) &&& 0x3f).toInt64.toUInt64).toInt64))) ∧ Fr n0 L ∧ h = h0
set_option maxRecDepth 65536 in
set_option maxHeartbeats 40000000 in
theorem rm3_l2 (l : Launch) (Z : State) (a0 : Array Value) (hw : ∀ d ∈ tables_1, d.before a0 Z = true) (ws : List Jvm.Cond) (a3_0 : Addr) (p3_1 : Int32) (f_a3_0 : Int32 → Int32) (h0 : Heap) (n0 : Nat) (Z0 : n0 ≤ h0.size) (hoff : ¬ p3_1 < 0 ∧ p3_1 < 8) (B_a3_0 : Bya Z h0 a3_0 (12 : Int32) f_a3_0) :
    MetFree l (⟨"com/example/mortise/mortise/join/Record", "keyHash", "([BII)J"⟩ : MethodName) (head1 (Jvm.Cond.code (⟨"com/example/mortise/mortise/join/Record", "keyHash", "([BII)J"⟩ : MethodName) prog_36_method_9_code 6 (some .long) :: ws) ({ frames := 0, cells := 0, slots := 0, locals := 0 } : Room)) (fun a U => a = #[(.ref a3_0), (.int p3_1), (.int (p3_1 + (2 : Int32)))] ∧ Z.Warmed39 U.vm ∧ U.heap = h0) (fun _ _ _ _ _ => True) (fun _ U o U' => ∃ v L, o = .returned v ∧ Q_rm3_l2 Z a3_0 p3_1 f_a3_0 h0 n0 v U'.heap L ∧ FrameEnd U o U' L ({ frames := 0, cells := 0, slots := 0, locals := 0 } : Room).cells ({ frames := 0, cells := 0, slots := 0, locals := 0 } : Room).slots) := by
  refine MetFree.of_bodySF (plainFor_of_name pn_3) hisR ?_
  intro p e s m args below meth c s₁ Bd hml0 hP hK
  obtain ⟨rfl, hZ, hh⟩ := hP
  have hx := Bd.exec
  have hby := Bd.bytes
  have hml : c.maxLocals = 6 := hml0
  have hown : s.vm.findClass "com/example/mortise/mortise/join/Record" = some m.cls := findClass_of_methodNamed Bd.named
  have hnm := (name_of_methodNamed Bd.named Bd.method).1
  have X0 : Stand p l e ({ frames := 0, cells := 0, slots := 0, locals := 0 } : Room) s m #[(.ref a3_0), (.int p3_1), (.int (p3_1 + (2 : Int32)))] below meth c s₁ [] 0 0 := Stand.of_body Bd
  have e0 : s₁.heap = h0 := by rw [← hh, Bd.state]; rfl
  have N0 := Fr.nil n0
  have pre0 : ∀ t, Steps p.tables e below (s₁.setTop (mkF m 0 #[.val (.ref a3_0), .val (.int p3_1), .val (.int (p3_1 + (2 : Int32))), .unset, .unset, .unset] [])) t → Steps p.tables e below (s₁.setTop (entryFrame m #[(.ref a3_0), (.int p3_1), (.int (p3_1 + (2 : Int32)))] 6)) t := fun t k => castTop (ef_rm3_l2 m a3_0 p3_1) k
  obtain ⟨cl1, Ar1, Sz1, Hh1⟩ := id B_a3_0
  obtain ⟨x2, hx2⟩ : ∃ z : Int64, z = (((-3750763034362895579 : Int64) ^^^ (((f_a3_0 p3_1) &&& (255 : Int32)).toInt64)) * (1099511628211 : Int64)) := ⟨_, rfl⟩
  obtain ⟨cl3, Ar3, Sz3, Hh3⟩ := id B_a3_0
  obtain ⟨x4, hx4⟩ : ∃ z : Int64, z = ((x2 ^^^ (((f_a3_0 (p3_1 + (1 : Int32))) &&& (255 : Int32)).toInt64)) * (1099511628211 : Int64)) := ⟨_, rfl⟩
  obtain ⟨x5, hx5⟩ : ∃ z : Int64, z = (x4 ^^^ ((x4.toUInt64 >>> ((33 : Int32) &&& 0x3f).toInt64.toUInt64).toInt64)) := ⟨_, rfl⟩
  obtain ⟨x6, hx6⟩ : ∃ z : Int64, z = (x5 * (-49064778989728563 : Int64)) := ⟨_, rfl⟩
  obtain ⟨x7, hx7⟩ : ∃ z : Int64, z = (x6 ^^^ ((x6.toUInt64 >>> ((33 : Int32) &&& 0x3f).toInt64.toUInt64).toInt64)) := ⟨_, rfl⟩
  obtain ⟨x8, hx8⟩ : ∃ z : Int64, z = (x7 * (-4265267296055464877 : Int64)) := ⟨_, rfl⟩
  obtain ⟨x9, hx9⟩ : ∃ z : Int64, z = (x8 ^^^ ((x8.toUInt64 >>> ((33 : Int32) &&& 0x3f).toInt64.toUInt64).toInt64)) := ⟨_, rfl⟩
  obtain ⟨fs, hr, hrun, hended, hW, hsame⟩ := X0.leave (v := some (.long x9)) (fun h => by rw [Bd.returns] at h; cases h)
  refine ⟨_, _, pre0 _ ?_, hrun, hended, _, _, rfl, ?_, ⟨_, rfl⟩, hW, hsame.mono (by decide) (by decide)⟩
  · show Steps p.tables e below (s₁.setTop (mkF m 0 #[.val (.ref a3_0), .val (.int p3_1), .val (.int (p3_1 + (2 : Int32))), .unset, .unset, .unset] [])) _
    refine X0.ldc2Long hx hown (mvT hZ (ow13 hw)) (g := (mkF m 0 #[.val (.ref a3_0), .val (.int p3_1), .val (.int (p3_1 + (2 : Int32))), .unset, .unset, .unset] [])) rfl (hb hby d3_0) _ ?_
    show Steps p.tables e below (s₁.setTop (mkF m 3 #[.val (.ref a3_0), .val (.int p3_1), .val (.int (p3_1 + (2 : Int32))), .unset, .unset, .unset] [(.long (-3750763034362895579 : Int64))])) _
    refine XS.lstoreN X0.here hx rfl (hb hby d3_3) rfl (l' := #[.val (.ref a3_0), .val (.int p3_1), .val (.int (p3_1 + (2 : Int32))), .val (.long (-3750763034362895579 : Int64)), .second, .unset]) rfl ?_
    show Steps p.tables e below (s₁.setTop (mkF m 4 #[.val (.ref a3_0), .val (.int p3_1), .val (.int (p3_1 + (2 : Int32))), .val (.long (-3750763034362895579 : Int64)), .second, .unset] [])) _
    refine XS.iloadN X0.here hx rfl (hb hby d3_4) rfl ?_
    show Steps p.tables e below (s₁.setTop (mkF m 5 #[.val (.ref a3_0), .val (.int p3_1), .val (.int (p3_1 + (2 : Int32))), .val (.long (-3750763034362895579 : Int64)), .second, .unset] [(.int p3_1)])) _
    refine XS.istore X0.here hx rfl (hb hby d3_5) rfl (l' := #[.val (.ref a3_0), .val (.int p3_1), .val (.int (p3_1 + (2 : Int32))), .val (.long (-3750763034362895579 : Int64)), .second, .val (.int p3_1)]) rfl ?_
    show Steps p.tables e below (s₁.setTop (mkF m 7 #[.val (.ref a3_0), .val (.int p3_1), .val (.int (p3_1 + (2 : Int32))), .val (.long (-3750763034362895579 : Int64)), .second, .val (.int p3_1)] [])) _
    refine XS.iload X0.here hx rfl (hb hby d3_7) rfl ?_
    show Steps p.tables e below (s₁.setTop (mkF m 9 #[.val (.ref a3_0), .val (.int p3_1), .val (.int (p3_1 + (2 : Int32))), .val (.long (-3750763034362895579 : Int64)), .second, .val (.int p3_1)] [(.int p3_1)])) _
    refine XS.iloadN X0.here hx rfl (hb hby d3_9) rfl ?_
    show Steps p.tables e below (s₁.setTop (mkF m 10 #[.val (.ref a3_0), .val (.int p3_1), .val (.int (p3_1 + (2 : Int32))), .val (.long (-3750763034362895579 : Int64)), .second, .val (.int p3_1)] [(.int (p3_1 + (2 : Int32))), (.int p3_1)])) _
    refine XS.icmpNo X0.here hx rfl (hb hby d3_10) rfl (tlt (own_ltT0 hoff (d := (2 : Int32)) (by decide) (by decide))).2.1 ?_
    show Steps p.tables e below (s₁.setTop (mkF m 13 #[.val (.ref a3_0), .val (.int p3_1), .val (.int (p3_1 + (2 : Int32))), .val (.long (-3750763034362895579 : Int64)), .second, .val (.int p3_1)] [])) _
    refine XS.lloadN X0.here hx rfl (hb hby d3_13) rfl ?_
    show Steps p.tables e below (s₁.setTop (mkF m 14 #[.val (.ref a3_0), .val (.int p3_1), .val (.int (p3_1 + (2 : Int32))), .val (.long (-3750763034362895579 : Int64)), .second, .val (.int p3_1)] [(.long (-3750763034362895579 : Int64))])) _
    refine XS.aloadN X0.here hx rfl (hb hby d3_14) rfl rfl ?_
    show Steps p.tables e below (s₁.setTop (mkF m 15 #[.val (.ref a3_0), .val (.int p3_1), .val (.int (p3_1 + (2 : Int32))), .val (.long (-3750763034362895579 : Int64)), .second, .val (.int p3_1)] [(.ref a3_0), (.long (-3750763034362895579 : Int64))])) _
    refine XS.iload X0.here hx rfl (hb hby d3_15) rfl ?_
    show Steps p.tables e below (s₁.setTop (mkF m 17 #[.val (.ref a3_0), .val (.int p3_1), .val (.int (p3_1 + (2 : Int32))), .val (.long (-3750763034362895579 : Int64)), .second, .val (.int p3_1)] [(.int p3_1), (.ref a3_0), (.long (-3750763034362895579 : Int64))])) _
    refine X0.baloadBytes hx (j := p3_1) (v := (.int (f_a3_0 p3_1))) (by rw [e0]; exact Ar1.1) (State.isArrayOf_alike hZ.alike Ar1.2.1) Ar1.2.2 (inb_of Sz1 (own_ix0 hoff)) (Hh1 _ (own_ix0 hoff).1 (own_ix0 hoff).2) (g := (mkF m 17 #[.val (.ref a3_0), .val (.int p3_1), .val (.int (p3_1 + (2 : Int32))), .val (.long (-3750763034362895579 : Int64)), .second, .val (.int p3_1)] [(.int p3_1), (.ref a3_0), (.long (-3750763034362895579 : Int64))])) rfl rfl (hb hby d3_17) _ ?_
    show Steps p.tables e below (s₁.setTop (mkF m 18 #[.val (.ref a3_0), .val (.int p3_1), .val (.int (p3_1 + (2 : Int32))), .val (.long (-3750763034362895579 : Int64)), .second, .val (.int p3_1)] [(.int (f_a3_0 p3_1)), (.long (-3750763034362895579 : Int64))])) _
    refine XS.sipush X0.here hx rfl (hb hby d3_18) ?_
    show Steps p.tables e below (s₁.setTop (mkF m 21 #[.val (.ref a3_0), .val (.int p3_1), .val (.int (p3_1 + (2 : Int32))), .val (.long (-3750763034362895579 : Int64)), .second, .val (.int p3_1)] [(.int (255 : Int32)), (.int (f_a3_0 p3_1)), (.long (-3750763034362895579 : Int64))])) _
    refine XS.iand X0.here hx rfl (hb hby d3_21) rfl ?_
    show Steps p.tables e below (s₁.setTop (mkF m 22 #[.val (.ref a3_0), .val (.int p3_1), .val (.int (p3_1 + (2 : Int32))), .val (.long (-3750763034362895579 : Int64)), .second, .val (.int p3_1)] [(.int ((f_a3_0 p3_1) &&& (255 : Int32))), (.long (-3750763034362895579 : Int64))])) _
    refine XS.i2l X0.here hx rfl (hb hby d3_22) rfl ?_
    show Steps p.tables e below (s₁.setTop (mkF m 23 #[.val (.ref a3_0), .val (.int p3_1), .val (.int (p3_1 + (2 : Int32))), .val (.long (-3750763034362895579 : Int64)), .second, .val (.int p3_1)] [(.long (((f_a3_0 p3_1) &&& (255 : Int32)).toInt64)), (.long (-3750763034362895579 : Int64))])) _
    refine XS.lxor X0.here hx rfl (hb hby d3_23) rfl ?_
    show Steps p.tables e below (s₁.setTop (mkF m 24 #[.val (.ref a3_0), .val (.int p3_1), .val (.int (p3_1 + (2 : Int32))), .val (.long (-3750763034362895579 : Int64)), .second, .val (.int p3_1)] [(.long ((-3750763034362895579 : Int64) ^^^ (((f_a3_0 p3_1) &&& (255 : Int32)).toInt64)))])) _
    refine X0.ldc2Long hx hown (mvT hZ (ow14 hw)) (g := (mkF m 24 #[.val (.ref a3_0), .val (.int p3_1), .val (.int (p3_1 + (2 : Int32))), .val (.long (-3750763034362895579 : Int64)), .second, .val (.int p3_1)] [(.long ((-3750763034362895579 : Int64) ^^^ (((f_a3_0 p3_1) &&& (255 : Int32)).toInt64)))])) rfl (hb hby d3_24) _ ?_
    show Steps p.tables e below (s₁.setTop (mkF m 27 #[.val (.ref a3_0), .val (.int p3_1), .val (.int (p3_1 + (2 : Int32))), .val (.long (-3750763034362895579 : Int64)), .second, .val (.int p3_1)] [(.long (1099511628211 : Int64)), (.long ((-3750763034362895579 : Int64) ^^^ (((f_a3_0 p3_1) &&& (255 : Int32)).toInt64)))])) _
    refine XS.lmul X0.here hx rfl (hb hby d3_27) rfl ?_
    show Steps p.tables e below (s₁.setTop (mkF m 28 #[.val (.ref a3_0), .val (.int p3_1), .val (.int (p3_1 + (2 : Int32))), .val (.long (-3750763034362895579 : Int64)), .second, .val (.int p3_1)] [(.long (((-3750763034362895579 : Int64) ^^^ (((f_a3_0 p3_1) &&& (255 : Int32)).toInt64)) * (1099511628211 : Int64)))])) _
    refine XS.lstoreN X0.here hx rfl (hb hby d3_28) rfl (l' := #[.val (.ref a3_0), .val (.int p3_1), .val (.int (p3_1 + (2 : Int32))), .val (.long (((-3750763034362895579 : Int64) ^^^ (((f_a3_0 p3_1) &&& (255 : Int32)).toInt64)) * (1099511628211 : Int64))), .second, .val (.int p3_1)]) rfl ?_
    show Steps p.tables e below (s₁.setTop (mkF m 29 #[.val (.ref a3_0), .val (.int p3_1), .val (.int (p3_1 + (2 : Int32))), .val (.long (((-3750763034362895579 : Int64) ^^^ (((f_a3_0 p3_1) &&& (255 : Int32)).toInt64)) * (1099511628211 : Int64))), .second, .val (.int p3_1)] [])) _
    rw [← hx2]
    show Steps p.tables e below (s₁.setTop (mkF m 29 #[.val (.ref a3_0), .val (.int p3_1), .val (.int (p3_1 + (2 : Int32))), .val (.long x2), .second, .val (.int p3_1)] [])) _
    refine XS.iinc X0.here hx rfl (hb hby d3_29) rfl (l' := #[.val (.ref a3_0), .val (.int p3_1), .val (.int (p3_1 + (2 : Int32))), .val (.long x2), .second, .val (.int (p3_1 + (1 : Int32)))]) rfl ?_
    show Steps p.tables e below (s₁.setTop (mkF m 32 #[.val (.ref a3_0), .val (.int p3_1), .val (.int (p3_1 + (2 : Int32))), .val (.long x2), .second, .val (.int (p3_1 + (1 : Int32)))] [])) _
    refine XS.goto X0.here hx rfl (pc0 := 32) (pc' := 7) rfl (hb hby d3_32) (by decide) (by decide) ?_
    show Steps p.tables e below (s₁.setTop (mkF m 7 #[.val (.ref a3_0), .val (.int p3_1), .val (.int (p3_1 + (2 : Int32))), .val (.long x2), .second, .val (.int (p3_1 + (1 : Int32)))] [])) _
    refine XS.iload X0.here hx rfl (hb hby d3_7) rfl ?_
    show Steps p.tables e below (s₁.setTop (mkF m 9 #[.val (.ref a3_0), .val (.int p3_1), .val (.int (p3_1 + (2 : Int32))), .val (.long x2), .second, .val (.int (p3_1 + (1 : Int32)))] [(.int (p3_1 + (1 : Int32)))])) _
    refine XS.iloadN X0.here hx rfl (hb hby d3_9) rfl ?_
    show Steps p.tables e below (s₁.setTop (mkF m 10 #[.val (.ref a3_0), .val (.int p3_1), .val (.int (p3_1 + (2 : Int32))), .val (.long x2), .second, .val (.int (p3_1 + (1 : Int32)))] [(.int (p3_1 + (2 : Int32))), (.int (p3_1 + (1 : Int32)))])) _
    refine XS.icmpNo X0.here hx rfl (hb hby d3_10) rfl (tlt (own_ltT hoff (c := (1 : Int32)) (d := (2 : Int32)) (by decide) (by decide) (by decide))).2.1 ?_
    show Steps p.tables e below (s₁.setTop (mkF m 13 #[.val (.ref a3_0), .val (.int p3_1), .val (.int (p3_1 + (2 : Int32))), .val (.long x2), .second, .val (.int (p3_1 + (1 : Int32)))] [])) _
    refine XS.lloadN X0.here hx rfl (hb hby d3_13) rfl ?_
    show Steps p.tables e below (s₁.setTop (mkF m 14 #[.val (.ref a3_0), .val (.int p3_1), .val (.int (p3_1 + (2 : Int32))), .val (.long x2), .second, .val (.int (p3_1 + (1 : Int32)))] [(.long x2)])) _
    refine XS.aloadN X0.here hx rfl (hb hby d3_14) rfl rfl ?_
    show Steps p.tables e below (s₁.setTop (mkF m 15 #[.val (.ref a3_0), .val (.int p3_1), .val (.int (p3_1 + (2 : Int32))), .val (.long x2), .second, .val (.int (p3_1 + (1 : Int32)))] [(.ref a3_0), (.long x2)])) _
    refine XS.iload X0.here hx rfl (hb hby d3_15) rfl ?_
    show Steps p.tables e below (s₁.setTop (mkF m 17 #[.val (.ref a3_0), .val (.int p3_1), .val (.int (p3_1 + (2 : Int32))), .val (.long x2), .second, .val (.int (p3_1 + (1 : Int32)))] [(.int (p3_1 + (1 : Int32))), (.ref a3_0), (.long x2)])) _
    refine X0.baloadBytes hx (j := (p3_1 + (1 : Int32))) (v := (.int (f_a3_0 (p3_1 + (1 : Int32))))) (by rw [e0]; exact Ar3.1) (State.isArrayOf_alike hZ.alike Ar3.2.1) Ar3.2.2 (inb_of Sz3 (own_ix hoff (c := (1 : Int32)) (by decide))) (Hh3 _ (own_ix hoff (c := (1 : Int32)) (by decide)).1 (own_ix hoff (c := (1 : Int32)) (by decide)).2) (g := (mkF m 17 #[.val (.ref a3_0), .val (.int p3_1), .val (.int (p3_1 + (2 : Int32))), .val (.long x2), .second, .val (.int (p3_1 + (1 : Int32)))] [(.int (p3_1 + (1 : Int32))), (.ref a3_0), (.long x2)])) rfl rfl (hb hby d3_17) _ ?_
    show Steps p.tables e below (s₁.setTop (mkF m 18 #[.val (.ref a3_0), .val (.int p3_1), .val (.int (p3_1 + (2 : Int32))), .val (.long x2), .second, .val (.int (p3_1 + (1 : Int32)))] [(.int (f_a3_0 (p3_1 + (1 : Int32)))), (.long x2)])) _
    refine XS.sipush X0.here hx rfl (hb hby d3_18) ?_
    show Steps p.tables e below (s₁.setTop (mkF m 21 #[.val (.ref a3_0), .val (.int p3_1), .val (.int (p3_1 + (2 : Int32))), .val (.long x2), .second, .val (.int (p3_1 + (1 : Int32)))] [(.int (255 : Int32)), (.int (f_a3_0 (p3_1 + (1 : Int32)))), (.long x2)])) _
    refine XS.iand X0.here hx rfl (hb hby d3_21) rfl ?_
    show Steps p.tables e below (s₁.setTop (mkF m 22 #[.val (.ref a3_0), .val (.int p3_1), .val (.int (p3_1 + (2 : Int32))), .val (.long x2), .second, .val (.int (p3_1 + (1 : Int32)))] [(.int ((f_a3_0 (p3_1 + (1 : Int32))) &&& (255 : Int32))), (.long x2)])) _
    refine XS.i2l X0.here hx rfl (hb hby d3_22) rfl ?_
    show Steps p.tables e below (s₁.setTop (mkF m 23 #[.val (.ref a3_0), .val (.int p3_1), .val (.int (p3_1 + (2 : Int32))), .val (.long x2), .second, .val (.int (p3_1 + (1 : Int32)))] [(.long (((f_a3_0 (p3_1 + (1 : Int32))) &&& (255 : Int32)).toInt64)), (.long x2)])) _
    refine XS.lxor X0.here hx rfl (hb hby d3_23) rfl ?_
    show Steps p.tables e below (s₁.setTop (mkF m 24 #[.val (.ref a3_0), .val (.int p3_1), .val (.int (p3_1 + (2 : Int32))), .val (.long x2), .second, .val (.int (p3_1 + (1 : Int32)))] [(.long (x2 ^^^ (((f_a3_0 (p3_1 + (1 : Int32))) &&& (255 : Int32)).toInt64)))])) _
    refine X0.ldc2Long hx hown (mvT hZ (ow14 hw)) (g := (mkF m 24 #[.val (.ref a3_0), .val (.int p3_1), .val (.int (p3_1 + (2 : Int32))), .val (.long x2), .second, .val (.int (p3_1 + (1 : Int32)))] [(.long (x2 ^^^ (((f_a3_0 (p3_1 + (1 : Int32))) &&& (255 : Int32)).toInt64)))])) rfl (hb hby d3_24) _ ?_
    show Steps p.tables e below (s₁.setTop (mkF m 27 #[.val (.ref a3_0), .val (.int p3_1), .val (.int (p3_1 + (2 : Int32))), .val (.long x2), .second, .val (.int (p3_1 + (1 : Int32)))] [(.long (1099511628211 : Int64)), (.long (x2 ^^^ (((f_a3_0 (p3_1 + (1 : Int32))) &&& (255 : Int32)).toInt64)))])) _
    refine XS.lmul X0.here hx rfl (hb hby d3_27) rfl ?_
    show Steps p.tables e below (s₁.setTop (mkF m 28 #[.val (.ref a3_0), .val (.int p3_1), .val (.int (p3_1 + (2 : Int32))), .val (.long x2), .second, .val (.int (p3_1 + (1 : Int32)))] [(.long ((x2 ^^^ (((f_a3_0 (p3_1 + (1 : Int32))) &&& (255 : Int32)).toInt64)) * (1099511628211 : Int64)))])) _
    refine XS.lstoreN X0.here hx rfl (hb hby d3_28) rfl (l' := #[.val (.ref a3_0), .val (.int p3_1), .val (.int (p3_1 + (2 : Int32))), .val (.long ((x2 ^^^ (((f_a3_0 (p3_1 + (1 : Int32))) &&& (255 : Int32)).toInt64)) * (1099511628211 : Int64))), .second, .val (.int (p3_1 + (1 : Int32)))]) rfl ?_
    show Steps p.tables e below (s₁.setTop (mkF m 29 #[.val (.ref a3_0), .val (.int p3_1), .val (.int (p3_1 + (2 : Int32))), .val (.long ((x2 ^^^ (((f_a3_0 (p3_1 + (1 : Int32))) &&& (255 : Int32)).toInt64)) * (1099511628211 : Int64))), .second, .val (.int (p3_1 + (1 : Int32)))] [])) _
    rw [← hx4]
    show Steps p.tables e below (s₁.setTop (mkF m 29 #[.val (.ref a3_0), .val (.int p3_1), .val (.int (p3_1 + (2 : Int32))), .val (.long x4), .second, .val (.int (p3_1 + (1 : Int32)))] [])) _
    refine XS.iinc X0.here hx rfl (hb hby d3_29) rfl (l' := #[.val (.ref a3_0), .val (.int p3_1), .val (.int (p3_1 + (2 : Int32))), .val (.long x4), .second, .val (.int ((p3_1 + (1 : Int32)) + (1 : Int32)))]) rfl ?_
    show Steps p.tables e below (s₁.setTop (mkF m 32 #[.val (.ref a3_0), .val (.int p3_1), .val (.int (p3_1 + (2 : Int32))), .val (.long x4), .second, .val (.int ((p3_1 + (1 : Int32)) + (1 : Int32)))] [])) _
    refine XS.goto X0.here hx rfl (pc0 := 32) (pc' := 7) rfl (hb hby d3_32) (by decide) (by decide) ?_
    show Steps p.tables e below (s₁.setTop (mkF m 7 #[.val (.ref a3_0), .val (.int p3_1), .val (.int (p3_1 + (2 : Int32))), .val (.long x4), .second, .val (.int ((p3_1 + (1 : Int32)) + (1 : Int32)))] [])) _
    rw [own_addc p3_1 (1 : Int32) (1 : Int32) (2 : Int32) rfl]
    show Steps p.tables e below (s₁.setTop (mkF m 7 #[.val (.ref a3_0), .val (.int p3_1), .val (.int (p3_1 + (2 : Int32))), .val (.long x4), .second, .val (.int (p3_1 + (2 : Int32)))] [])) _
    refine XS.iload X0.here hx rfl (hb hby d3_7) rfl ?_
    show Steps p.tables e below (s₁.setTop (mkF m 9 #[.val (.ref a3_0), .val (.int p3_1), .val (.int (p3_1 + (2 : Int32))), .val (.long x4), .second, .val (.int (p3_1 + (2 : Int32)))] [(.int (p3_1 + (2 : Int32)))])) _
    refine XS.iloadN X0.here hx rfl (hb hby d3_9) rfl ?_
    show Steps p.tables e below (s₁.setTop (mkF m 10 #[.val (.ref a3_0), .val (.int p3_1), .val (.int (p3_1 + (2 : Int32))), .val (.long x4), .second, .val (.int (p3_1 + (2 : Int32)))] [(.int (p3_1 + (2 : Int32))), (.int (p3_1 + (2 : Int32)))])) _
    refine XS.icmpYes X0.here hx rfl (pc0 := 10) (pc' := 35) rfl (hb hby d3_10) rfl (flt (own_ltF hoff (c := (2 : Int32)) (d := (2 : Int32)) (by decide) (by decide) (by decide))).2.1 (by decide) (by decide) ?_
    show Steps p.tables e below (s₁.setTop (mkF m 35 #[.val (.ref a3_0), .val (.int p3_1), .val (.int (p3_1 + (2 : Int32))), .val (.long x4), .second, .val (.int (p3_1 + (2 : Int32)))] [])) _
    refine XS.lloadN X0.here hx rfl (hb hby d3_35) rfl ?_
    show Steps p.tables e below (s₁.setTop (mkF m 36 #[.val (.ref a3_0), .val (.int p3_1), .val (.int (p3_1 + (2 : Int32))), .val (.long x4), .second, .val (.int (p3_1 + (2 : Int32)))] [(.long x4)])) _
    refine XS.lloadN X0.here hx rfl (hb hby d3_36) rfl ?_
    show Steps p.tables e below (s₁.setTop (mkF m 37 #[.val (.ref a3_0), .val (.int p3_1), .val (.int (p3_1 + (2 : Int32))), .val (.long x4), .second, .val (.int (p3_1 + (2 : Int32)))] [(.long x4), (.long x4)])) _
    refine XS.bipush X0.here hx rfl (hb hby d3_37) ?_
    show Steps p.tables e below (s₁.setTop (mkF m 39 #[.val (.ref a3_0), .val (.int p3_1), .val (.int (p3_1 + (2 : Int32))), .val (.long x4), .second, .val (.int (p3_1 + (2 : Int32)))] [(.int (33 : Int32)), (.long x4), (.long x4)])) _
    refine XS.lushr X0.here hx rfl (hb hby d3_39) rfl ?_
    show Steps p.tables e below (s₁.setTop (mkF m 40 #[.val (.ref a3_0), .val (.int p3_1), .val (.int (p3_1 + (2 : Int32))), .val (.long x4), .second, .val (.int (p3_1 + (2 : Int32)))] [(.long ((x4.toUInt64 >>> ((33 : Int32) &&& 0x3f).toInt64.toUInt64).toInt64)), (.long x4)])) _
    refine XS.lxor X0.here hx rfl (hb hby d3_40) rfl ?_
    show Steps p.tables e below (s₁.setTop (mkF m 41 #[.val (.ref a3_0), .val (.int p3_1), .val (.int (p3_1 + (2 : Int32))), .val (.long x4), .second, .val (.int (p3_1 + (2 : Int32)))] [(.long (x4 ^^^ ((x4.toUInt64 >>> ((33 : Int32) &&& 0x3f).toInt64.toUInt64).toInt64)))])) _
    refine XS.lstoreN X0.here hx rfl (hb hby d3_41) rfl (l' := #[.val (.ref a3_0), .val (.int p3_1), .val (.int (p3_1 + (2 : Int32))), .val (.long (x4 ^^^ ((x4.toUInt64 >>> ((33 : Int32) &&& 0x3f).toInt64.toUInt64).toInt64))), .second, .val (.int (p3_1 + (2 : Int32)))]) rfl ?_
    show Steps p.tables e below (s₁.setTop (mkF m 42 #[.val (.ref a3_0), .val (.int p3_1), .val (.int (p3_1 + (2 : Int32))), .val (.long (x4 ^^^ ((x4.toUInt64 >>> ((33 : Int32) &&& 0x3f).toInt64.toUInt64).toInt64))), .second, .val (.int (p3_1 + (2 : Int32)))] [])) _
    rw [← hx5]
    show Steps p.tables e below (s₁.setTop (mkF m 42 #[.val (.ref a3_0), .val (.int p3_1), .val (.int (p3_1 + (2 : Int32))), .val (.long x5), .second, .val (.int (p3_1 + (2 : Int32)))] [])) _
    refine XS.lloadN X0.here hx rfl (hb hby d3_42) rfl ?_
    show Steps p.tables e below (s₁.setTop (mkF m 43 #[.val (.ref a3_0), .val (.int p3_1), .val (.int (p3_1 + (2 : Int32))), .val (.long x5), .second, .val (.int (p3_1 + (2 : Int32)))] [(.long x5)])) _
    refine X0.ldc2Long hx hown (mvT hZ (ow15 hw)) (g := (mkF m 43 #[.val (.ref a3_0), .val (.int p3_1), .val (.int (p3_1 + (2 : Int32))), .val (.long x5), .second, .val (.int (p3_1 + (2 : Int32)))] [(.long x5)])) rfl (hb hby d3_43) _ ?_
    show Steps p.tables e below (s₁.setTop (mkF m 46 #[.val (.ref a3_0), .val (.int p3_1), .val (.int (p3_1 + (2 : Int32))), .val (.long x5), .second, .val (.int (p3_1 + (2 : Int32)))] [(.long (-49064778989728563 : Int64)), (.long x5)])) _
    refine XS.lmul X0.here hx rfl (hb hby d3_46) rfl ?_
    show Steps p.tables e below (s₁.setTop (mkF m 47 #[.val (.ref a3_0), .val (.int p3_1), .val (.int (p3_1 + (2 : Int32))), .val (.long x5), .second, .val (.int (p3_1 + (2 : Int32)))] [(.long (x5 * (-49064778989728563 : Int64)))])) _
    refine XS.lstoreN X0.here hx rfl (hb hby d3_47) rfl (l' := #[.val (.ref a3_0), .val (.int p3_1), .val (.int (p3_1 + (2 : Int32))), .val (.long (x5 * (-49064778989728563 : Int64))), .second, .val (.int (p3_1 + (2 : Int32)))]) rfl ?_
    show Steps p.tables e below (s₁.setTop (mkF m 48 #[.val (.ref a3_0), .val (.int p3_1), .val (.int (p3_1 + (2 : Int32))), .val (.long (x5 * (-49064778989728563 : Int64))), .second, .val (.int (p3_1 + (2 : Int32)))] [])) _
    rw [← hx6]
    show Steps p.tables e below (s₁.setTop (mkF m 48 #[.val (.ref a3_0), .val (.int p3_1), .val (.int (p3_1 + (2 : Int32))), .val (.long x6), .second, .val (.int (p3_1 + (2 : Int32)))] [])) _
    refine XS.lloadN X0.here hx rfl (hb hby d3_48) rfl ?_
    show Steps p.tables e below (s₁.setTop (mkF m 49 #[.val (.ref a3_0), .val (.int p3_1), .val (.int (p3_1 + (2 : Int32))), .val (.long x6), .second, .val (.int (p3_1 + (2 : Int32)))] [(.long x6)])) _
    refine XS.lloadN X0.here hx rfl (hb hby d3_49) rfl ?_
    show Steps p.tables e below (s₁.setTop (mkF m 50 #[.val (.ref a3_0), .val (.int p3_1), .val (.int (p3_1 + (2 : Int32))), .val (.long x6), .second, .val (.int (p3_1 + (2 : Int32)))] [(.long x6), (.long x6)])) _
    refine XS.bipush X0.here hx rfl (hb hby d3_50) ?_
    show Steps p.tables e below (s₁.setTop (mkF m 52 #[.val (.ref a3_0), .val (.int p3_1), .val (.int (p3_1 + (2 : Int32))), .val (.long x6), .second, .val (.int (p3_1 + (2 : Int32)))] [(.int (33 : Int32)), (.long x6), (.long x6)])) _
    refine XS.lushr X0.here hx rfl (hb hby d3_52) rfl ?_
    show Steps p.tables e below (s₁.setTop (mkF m 53 #[.val (.ref a3_0), .val (.int p3_1), .val (.int (p3_1 + (2 : Int32))), .val (.long x6), .second, .val (.int (p3_1 + (2 : Int32)))] [(.long ((x6.toUInt64 >>> ((33 : Int32) &&& 0x3f).toInt64.toUInt64).toInt64)), (.long x6)])) _
    refine XS.lxor X0.here hx rfl (hb hby d3_53) rfl ?_
    show Steps p.tables e below (s₁.setTop (mkF m 54 #[.val (.ref a3_0), .val (.int p3_1), .val (.int (p3_1 + (2 : Int32))), .val (.long x6), .second, .val (.int (p3_1 + (2 : Int32)))] [(.long (x6 ^^^ ((x6.toUInt64 >>> ((33 : Int32) &&& 0x3f).toInt64.toUInt64).toInt64)))])) _
    refine XS.lstoreN X0.here hx rfl (hb hby d3_54) rfl (l' := #[.val (.ref a3_0), .val (.int p3_1), .val (.int (p3_1 + (2 : Int32))), .val (.long (x6 ^^^ ((x6.toUInt64 >>> ((33 : Int32) &&& 0x3f).toInt64.toUInt64).toInt64))), .second, .val (.int (p3_1 + (2 : Int32)))]) rfl ?_
    show Steps p.tables e below (s₁.setTop (mkF m 55 #[.val (.ref a3_0), .val (.int p3_1), .val (.int (p3_1 + (2 : Int32))), .val (.long (x6 ^^^ ((x6.toUInt64 >>> ((33 : Int32) &&& 0x3f).toInt64.toUInt64).toInt64))), .second, .val (.int (p3_1 + (2 : Int32)))] [])) _
    rw [← hx7]
    show Steps p.tables e below (s₁.setTop (mkF m 55 #[.val (.ref a3_0), .val (.int p3_1), .val (.int (p3_1 + (2 : Int32))), .val (.long x7), .second, .val (.int (p3_1 + (2 : Int32)))] [])) _
    refine XS.lloadN X0.here hx rfl (hb hby d3_55) rfl ?_
    show Steps p.tables e below (s₁.setTop (mkF m 56 #[.val (.ref a3_0), .val (.int p3_1), .val (.int (p3_1 + (2 : Int32))), .val (.long x7), .second, .val (.int (p3_1 + (2 : Int32)))] [(.long x7)])) _
    refine X0.ldc2Long hx hown (mvT hZ (ow16 hw)) (g := (mkF m 56 #[.val (.ref a3_0), .val (.int p3_1), .val (.int (p3_1 + (2 : Int32))), .val (.long x7), .second, .val (.int (p3_1 + (2 : Int32)))] [(.long x7)])) rfl (hb hby d3_56) _ ?_
    show Steps p.tables e below (s₁.setTop (mkF m 59 #[.val (.ref a3_0), .val (.int p3_1), .val (.int (p3_1 + (2 : Int32))), .val (.long x7), .second, .val (.int (p3_1 + (2 : Int32)))] [(.long (-4265267296055464877 : Int64)), (.long x7)])) _
    refine XS.lmul X0.here hx rfl (hb hby d3_59) rfl ?_
    show Steps p.tables e below (s₁.setTop (mkF m 60 #[.val (.ref a3_0), .val (.int p3_1), .val (.int (p3_1 + (2 : Int32))), .val (.long x7), .second, .val (.int (p3_1 + (2 : Int32)))] [(.long (x7 * (-4265267296055464877 : Int64)))])) _
    refine XS.lstoreN X0.here hx rfl (hb hby d3_60) rfl (l' := #[.val (.ref a3_0), .val (.int p3_1), .val (.int (p3_1 + (2 : Int32))), .val (.long (x7 * (-4265267296055464877 : Int64))), .second, .val (.int (p3_1 + (2 : Int32)))]) rfl ?_
    show Steps p.tables e below (s₁.setTop (mkF m 61 #[.val (.ref a3_0), .val (.int p3_1), .val (.int (p3_1 + (2 : Int32))), .val (.long (x7 * (-4265267296055464877 : Int64))), .second, .val (.int (p3_1 + (2 : Int32)))] [])) _
    rw [← hx8]
    show Steps p.tables e below (s₁.setTop (mkF m 61 #[.val (.ref a3_0), .val (.int p3_1), .val (.int (p3_1 + (2 : Int32))), .val (.long x8), .second, .val (.int (p3_1 + (2 : Int32)))] [])) _
    refine XS.lloadN X0.here hx rfl (hb hby d3_61) rfl ?_
    show Steps p.tables e below (s₁.setTop (mkF m 62 #[.val (.ref a3_0), .val (.int p3_1), .val (.int (p3_1 + (2 : Int32))), .val (.long x8), .second, .val (.int (p3_1 + (2 : Int32)))] [(.long x8)])) _
    refine XS.lloadN X0.here hx rfl (hb hby d3_62) rfl ?_
    show Steps p.tables e below (s₁.setTop (mkF m 63 #[.val (.ref a3_0), .val (.int p3_1), .val (.int (p3_1 + (2 : Int32))), .val (.long x8), .second, .val (.int (p3_1 + (2 : Int32)))] [(.long x8), (.long x8)])) _
    refine XS.bipush X0.here hx rfl (hb hby d3_63) ?_
    show Steps p.tables e below (s₁.setTop (mkF m 65 #[.val (.ref a3_0), .val (.int p3_1), .val (.int (p3_1 + (2 : Int32))), .val (.long x8), .second, .val (.int (p3_1 + (2 : Int32)))] [(.int (33 : Int32)), (.long x8), (.long x8)])) _
    refine XS.lushr X0.here hx rfl (hb hby d3_65) rfl ?_
    show Steps p.tables e below (s₁.setTop (mkF m 66 #[.val (.ref a3_0), .val (.int p3_1), .val (.int (p3_1 + (2 : Int32))), .val (.long x8), .second, .val (.int (p3_1 + (2 : Int32)))] [(.long ((x8.toUInt64 >>> ((33 : Int32) &&& 0x3f).toInt64.toUInt64).toInt64)), (.long x8)])) _
    refine XS.lxor X0.here hx rfl (hb hby d3_66) rfl ?_
    show Steps p.tables e below (s₁.setTop (mkF m 67 #[.val (.ref a3_0), .val (.int p3_1), .val (.int (p3_1 + (2 : Int32))), .val (.long x8), .second, .val (.int (p3_1 + (2 : Int32)))] [(.long (x8 ^^^ ((x8.toUInt64 >>> ((33 : Int32) &&& 0x3f).toInt64.toUInt64).toInt64)))])) _
    refine XS.lstoreN X0.here hx rfl (hb hby d3_67) rfl (l' := #[.val (.ref a3_0), .val (.int p3_1), .val (.int (p3_1 + (2 : Int32))), .val (.long (x8 ^^^ ((x8.toUInt64 >>> ((33 : Int32) &&& 0x3f).toInt64.toUInt64).toInt64))), .second, .val (.int (p3_1 + (2 : Int32)))]) rfl ?_
    show Steps p.tables e below (s₁.setTop (mkF m 68 #[.val (.ref a3_0), .val (.int p3_1), .val (.int (p3_1 + (2 : Int32))), .val (.long (x8 ^^^ ((x8.toUInt64 >>> ((33 : Int32) &&& 0x3f).toInt64.toUInt64).toInt64))), .second, .val (.int (p3_1 + (2 : Int32)))] [])) _
    rw [← hx9]
    show Steps p.tables e below (s₁.setTop (mkF m 68 #[.val (.ref a3_0), .val (.int p3_1), .val (.int (p3_1 + (2 : Int32))), .val (.long x9), .second, .val (.int (p3_1 + (2 : Int32)))] [])) _
    refine XS.lloadN X0.here hx rfl (hb hby d3_68) rfl ?_
    show Steps p.tables e below (s₁.setTop (mkF m 69 #[.val (.ref a3_0), .val (.int p3_1), .val (.int (p3_1 + (2 : Int32))), .val (.long x9), .second, .val (.int (p3_1 + (2 : Int32)))] [(.long x9)])) _
    jvm_step X0.here [X0.here.top, hx, (hb hby d3_69), X0.method', Bd.returns, narrow]
    first | (intro acts; rw [hr _ acts rfl rfl rfl]) | rw [hr _ _ rfl rfl rfl]
    exact Steps.refl _
  · show Q_rm3_l2 Z a3_0 p3_1 f_a3_0 h0 n0 _ s₁.heap _
    rw [e0]
    subst hx9
    subst hx8
    subst hx7
    subst hx6
    subst hx5
    subst hx4
    subst hx2
    exact ⟨rfl, N0, rfl⟩
theorem ef_rm3_l3 (m : MethodId) (y0 : Addr) (y1 : Int32) : entryFrame m #[(.ref y0), (.int y1), (.int (y1 + (3 : Int32)))] 6 = mkF m 0 #[.val (.ref y0), .val (.int y1), .val (.int (y1 + (3 : Int32))), .unset, .unset, .unset] [] := by first | (simp [entryFrame, mkF, argsToLocals, Value.category]; done) | rfl
def Q_rm3_l3 (Z : State) (a3_0 : Addr) (p3_1 : Int32) (f_a3_0 : Int32 → Int32) (h0 : Heap) (n0 : Nat) (v : Option Value) (h : Heap) (L : List Loc) : Prop := v = some (.long ((((((((((((-3750763034362895579 : Int64) ^^^ (((f_a3_0 p3_1) &&& (255 : Int32)).toInt64)) * (1099511628211 : Int64)) ^^^ (((f_a3_0 (p3_1 + (1 : Int32))) &&& (255 : Int32)).toInt64)) * (1099511628211 : Int64)) ^^^ (((f_a3_0 (p3_1 + (2 : Int32))) &&& (255 : Int32)).toInt64)) * (1099511628211 : Int64)) ^^^ (((((((((-3750763034362895579 : Int64) ^^^ (((f_a3_0 p3_1) &&& (255 : Int32)).toInt64)) * (1099511628211 : Int64)) ^^^ (((f_a3_0 (p3_1 + (1 : Int32))) &&& (255 : Int32)).toInt64)) * (1099511628211 : Int64)) ^^^ (((f_a3_0 (p3_1 + (2 : Int32))) &&& (255 : Int32)).toInt64)) * (1099511628211 : Int64)).toUInt64 >>> ((33 : Int32) &&& 0x3f).toInt64.toUInt64).toInt64)) * (-49064778989728563 : Int64)) ^^^ (((((((((((-3750763034362895579 : Int64) ^^^ (((f_a3_0 p3_1) &&& (255 : Int32)).toInt64)) * (1099511628211 : Int64)) ^^^ (((f_a3_0 (p3_1 + (1 : Int32))) &&& (255 : Int32)).toInt64)) * (1099511628211 : Int64)) ^^^ (((f_a3_0 (p3_1 + (2 : Int32))) &&& (255 : Int32)).toInt64)) * (1099511628211 : Int64)) ^^^ (((((((((-3750763034362895579 : Int64) ^^^ (((f_a3_0 p3_1) &&& (255 : Int32)).toInt64)) * (1099511628211 : Int64)) ^^^ (((f_a3_0 (p3_1 + (1 : Int32))) &&& (255 : Int32)).toInt64)) * (1099511628211 : Int64)) ^^^ (((f_a3_0 (p3_1 + (2 : Int32))) &&& (255 : Int32)).toInt64)) * (1099511628211 : Int64)).toUInt64 >>> ((33 : Int32) &&& 0x3f).toInt64.toUInt64).toInt64)) * (-49064778989728563 : Int64)).toUInt64 >>> ((33 : Int32) &&& 0x3f).toInt64.toUInt64).toInt64)) * (-4265267296055464877 : Int64)) ^^^ (((((((((((((-3750763034362895579 : Int64) ^^^ (((f_a3_0 p3_1) &&& (255 : Int32)).toInt64)) * (1099511628211 : Int64)) ^^^ (((f_a3_0 (p3_1 + (1 : Int32))) &&& (255 : Int32)).toInt64)) * (1099511628211 : Int64)) ^^^ (((f_a3_0 (p3_1 + (2 : Int32))) &&& (255 : Int32)).toInt64)) * (1099511628211 : Int64)) ^^^ (((((((((-3750763034362895579 : Int64) ^^^ (((f_a3_0 p3_1) &&& (255 : Int32)).toInt64)) * (1099511628211 : Int64)) ^^^ (((f_a3_0 (p3_1 + (1 : Int32))) &&& (255 : Int32)).toInt64)) * (1099511628211 : Int64)) ^^^ (((f_a3_0 (p3_1 + (2 : Int32))) &&& (255 : Int32)).toInt64)) * (1099511628211 : Int64)).toUInt64 >>> ((33 : Int32) &&& 0x3f).toInt64.toUInt64).toInt64)) * (-49064778989728563 : Int64)) ^^^ (((((((((((-3750763034362895579 : Int64) ^^^ (((f_a3_0 p3_1) &&& (255 : Int32)).toInt64)) * (1099511628211 : Int64)) ^^^ (((f_a3_0 (p3_1 + (1 : Int32))) &&& (255 : Int32)).toInt64)) * (1099511628211 : Int64)) ^^^ (((f_a3_0 (p3_1 + (2 : Int32))) &&& (255 : Int32)).toInt64)) * (1099511628211 : Int64)) ^^^ (((((((((-3750763034362895579 : Int64) ^^^ (((f_a3_0 p3_1) &&& (255 : Int32)).toInt64)) * (1099511628211 : Int64)) ^^^ (((f_a3_0 (p3_1 + (1 : Int32))) &&& (255 : Int32)).toInt64)) * (1099511628211 : Int64)) ^^^ (((f_a3_0 (p3_1 + (2 : Int32))) &&& (255 : Int32)).toInt64)) * (1099511628211 : Int64)).toUInt64 >>> ((33 : Int32) &&& 0x3f).toInt64.toUInt64).toInt64)) * (-49064778989728563 : Int64)).toUInt64 >>> ((33 : Int32) &&& 0x3f).toInt64.toUInt64).toInt64)) * (-4265267296055464877 : Int64)).toUInt64 >>> ((33 : Int32) &&& 0x3f).toInt64.toUInt64).toInt64))) ∧ Fr n0 L ∧ h = h0
set_option maxRecDepth 65536 in
set_option maxHeartbeats 40000000 in
theorem rm3_l3 (l : Launch) (Z : State) (a0 : Array Value) (hw : ∀ d ∈ tables_1, d.before a0 Z = true) (ws : List Jvm.Cond) (a3_0 : Addr) (p3_1 : Int32) (f_a3_0 : Int32 → Int32) (h0 : Heap) (n0 : Nat) (Z0 : n0 ≤ h0.size) (hoff : ¬ p3_1 < 0 ∧ p3_1 < 8) (B_a3_0 : Bya Z h0 a3_0 (12 : Int32) f_a3_0) :
    MetFree l (⟨"com/example/mortise/mortise/join/Record", "keyHash", "([BII)J"⟩ : MethodName) (head1 (Jvm.Cond.code (⟨"com/example/mortise/mortise/join/Record", "keyHash", "([BII)J"⟩ : MethodName) prog_36_method_9_code 6 (some .long) :: ws) ({ frames := 0, cells := 0, slots := 0, locals := 0 } : Room)) (fun a U => a = #[(.ref a3_0), (.int p3_1), (.int (p3_1 + (3 : Int32)))] ∧ Z.Warmed39 U.vm ∧ U.heap = h0) (fun _ _ _ _ _ => True) (fun _ U o U' => ∃ v L, o = .returned v ∧ Q_rm3_l3 Z a3_0 p3_1 f_a3_0 h0 n0 v U'.heap L ∧ FrameEnd U o U' L ({ frames := 0, cells := 0, slots := 0, locals := 0 } : Room).cells ({ frames := 0, cells := 0, slots := 0, locals := 0 } : Room).slots) := by
  refine MetFree.of_bodySF (plainFor_of_name pn_3) hisR ?_
  intro p e s m args below meth c s₁ Bd hml0 hP hK
  obtain ⟨rfl, hZ, hh⟩ := hP
  have hx := Bd.exec
  have hby := Bd.bytes
  have hml : c.maxLocals = 6 := hml0
  have hown : s.vm.findClass "com/example/mortise/mortise/join/Record" = some m.cls := findClass_of_methodNamed Bd.named
  have hnm := (name_of_methodNamed Bd.named Bd.method).1
  have X0 : Stand p l e ({ frames := 0, cells := 0, slots := 0, locals := 0 } : Room) s m #[(.ref a3_0), (.int p3_1), (.int (p3_1 + (3 : Int32)))] below meth c s₁ [] 0 0 := Stand.of_body Bd
  have e0 : s₁.heap = h0 := by rw [← hh, Bd.state]; rfl
  have N0 := Fr.nil n0
  have pre0 : ∀ t, Steps p.tables e below (s₁.setTop (mkF m 0 #[.val (.ref a3_0), .val (.int p3_1), .val (.int (p3_1 + (3 : Int32))), .unset, .unset, .unset] [])) t → Steps p.tables e below (s₁.setTop (entryFrame m #[(.ref a3_0), (.int p3_1), (.int (p3_1 + (3 : Int32)))] 6)) t := fun t k => castTop (ef_rm3_l3 m a3_0 p3_1) k
  obtain ⟨cl1, Ar1, Sz1, Hh1⟩ := id B_a3_0
  obtain ⟨x2, hx2⟩ : ∃ z : Int64, z = (((-3750763034362895579 : Int64) ^^^ (((f_a3_0 p3_1) &&& (255 : Int32)).toInt64)) * (1099511628211 : Int64)) := ⟨_, rfl⟩
  obtain ⟨cl3, Ar3, Sz3, Hh3⟩ := id B_a3_0
  obtain ⟨x4, hx4⟩ : ∃ z : Int64, z = ((x2 ^^^ (((f_a3_0 (p3_1 + (1 : Int32))) &&& (255 : Int32)).toInt64)) * (1099511628211 : Int64)) := ⟨_, rfl⟩
  obtain ⟨cl5, Ar5, Sz5, Hh5⟩ := id B_a3_0
  obtain ⟨x6, hx6⟩ : ∃ z : Int64, z = ((x4 ^^^ (((f_a3_0 (p3_1 + (2 : Int32))) &&& (255 : Int32)).toInt64)) * (1099511628211 : Int64)) := ⟨_, rfl⟩
  obtain ⟨x7, hx7⟩ : ∃ z : Int64, z = (x6 ^^^ ((x6.toUInt64 >>> ((33 : Int32) &&& 0x3f).toInt64.toUInt64).toInt64)) := ⟨_, rfl⟩
  obtain ⟨x8, hx8⟩ : ∃ z : Int64, z = (x7 * (-49064778989728563 : Int64)) := ⟨_, rfl⟩
  obtain ⟨x9, hx9⟩ : ∃ z : Int64, z = (x8 ^^^ ((x8.toUInt64 >>> ((33 : Int32) &&& 0x3f).toInt64.toUInt64).toInt64)) := ⟨_, rfl⟩
  obtain ⟨x10, hx10⟩ : ∃ z : Int64, z = (x9 * (-4265267296055464877 : Int64)) := ⟨_, rfl⟩
  obtain ⟨x11, hx11⟩ : ∃ z : Int64, z = (x10 ^^^ ((x10.toUInt64 >>> ((33 : Int32) &&& 0x3f).toInt64.toUInt64).toInt64)) := ⟨_, rfl⟩
  obtain ⟨fs, hr, hrun, hended, hW, hsame⟩ := X0.leave (v := some (.long x11)) (fun h => by rw [Bd.returns] at h; cases h)
  refine ⟨_, _, pre0 _ ?_, hrun, hended, _, _, rfl, ?_, ⟨_, rfl⟩, hW, hsame.mono (by decide) (by decide)⟩
  · show Steps p.tables e below (s₁.setTop (mkF m 0 #[.val (.ref a3_0), .val (.int p3_1), .val (.int (p3_1 + (3 : Int32))), .unset, .unset, .unset] [])) _
    refine X0.ldc2Long hx hown (mvT hZ (ow13 hw)) (g := (mkF m 0 #[.val (.ref a3_0), .val (.int p3_1), .val (.int (p3_1 + (3 : Int32))), .unset, .unset, .unset] [])) rfl (hb hby d3_0) _ ?_
    show Steps p.tables e below (s₁.setTop (mkF m 3 #[.val (.ref a3_0), .val (.int p3_1), .val (.int (p3_1 + (3 : Int32))), .unset, .unset, .unset] [(.long (-3750763034362895579 : Int64))])) _
    refine XS.lstoreN X0.here hx rfl (hb hby d3_3) rfl (l' := #[.val (.ref a3_0), .val (.int p3_1), .val (.int (p3_1 + (3 : Int32))), .val (.long (-3750763034362895579 : Int64)), .second, .unset]) rfl ?_
    show Steps p.tables e below (s₁.setTop (mkF m 4 #[.val (.ref a3_0), .val (.int p3_1), .val (.int (p3_1 + (3 : Int32))), .val (.long (-3750763034362895579 : Int64)), .second, .unset] [])) _
    refine XS.iloadN X0.here hx rfl (hb hby d3_4) rfl ?_
    show Steps p.tables e below (s₁.setTop (mkF m 5 #[.val (.ref a3_0), .val (.int p3_1), .val (.int (p3_1 + (3 : Int32))), .val (.long (-3750763034362895579 : Int64)), .second, .unset] [(.int p3_1)])) _
    refine XS.istore X0.here hx rfl (hb hby d3_5) rfl (l' := #[.val (.ref a3_0), .val (.int p3_1), .val (.int (p3_1 + (3 : Int32))), .val (.long (-3750763034362895579 : Int64)), .second, .val (.int p3_1)]) rfl ?_
    show Steps p.tables e below (s₁.setTop (mkF m 7 #[.val (.ref a3_0), .val (.int p3_1), .val (.int (p3_1 + (3 : Int32))), .val (.long (-3750763034362895579 : Int64)), .second, .val (.int p3_1)] [])) _
    refine XS.iload X0.here hx rfl (hb hby d3_7) rfl ?_
    show Steps p.tables e below (s₁.setTop (mkF m 9 #[.val (.ref a3_0), .val (.int p3_1), .val (.int (p3_1 + (3 : Int32))), .val (.long (-3750763034362895579 : Int64)), .second, .val (.int p3_1)] [(.int p3_1)])) _
    refine XS.iloadN X0.here hx rfl (hb hby d3_9) rfl ?_
    show Steps p.tables e below (s₁.setTop (mkF m 10 #[.val (.ref a3_0), .val (.int p3_1), .val (.int (p3_1 + (3 : Int32))), .val (.long (-3750763034362895579 : Int64)), .second, .val (.int p3_1)] [(.int (p3_1 + (3 : Int32))), (.int p3_1)])) _
    refine XS.icmpNo X0.here hx rfl (hb hby d3_10) rfl (tlt (own_ltT0 hoff (d := (3 : Int32)) (by decide) (by decide))).2.1 ?_
    show Steps p.tables e below (s₁.setTop (mkF m 13 #[.val (.ref a3_0), .val (.int p3_1), .val (.int (p3_1 + (3 : Int32))), .val (.long (-3750763034362895579 : Int64)), .second, .val (.int p3_1)] [])) _
    refine XS.lloadN X0.here hx rfl (hb hby d3_13) rfl ?_
    show Steps p.tables e below (s₁.setTop (mkF m 14 #[.val (.ref a3_0), .val (.int p3_1), .val (.int (p3_1 + (3 : Int32))), .val (.long (-3750763034362895579 : Int64)), .second, .val (.int p3_1)] [(.long (-3750763034362895579 : Int64))])) _
    refine XS.aloadN X0.here hx rfl (hb hby d3_14) rfl rfl ?_
    show Steps p.tables e below (s₁.setTop (mkF m 15 #[.val (.ref a3_0), .val (.int p3_1), .val (.int (p3_1 + (3 : Int32))), .val (.long (-3750763034362895579 : Int64)), .second, .val (.int p3_1)] [(.ref a3_0), (.long (-3750763034362895579 : Int64))])) _
    refine XS.iload X0.here hx rfl (hb hby d3_15) rfl ?_
    show Steps p.tables e below (s₁.setTop (mkF m 17 #[.val (.ref a3_0), .val (.int p3_1), .val (.int (p3_1 + (3 : Int32))), .val (.long (-3750763034362895579 : Int64)), .second, .val (.int p3_1)] [(.int p3_1), (.ref a3_0), (.long (-3750763034362895579 : Int64))])) _
    refine X0.baloadBytes hx (j := p3_1) (v := (.int (f_a3_0 p3_1))) (by rw [e0]; exact Ar1.1) (State.isArrayOf_alike hZ.alike Ar1.2.1) Ar1.2.2 (inb_of Sz1 (own_ix0 hoff)) (Hh1 _ (own_ix0 hoff).1 (own_ix0 hoff).2) (g := (mkF m 17 #[.val (.ref a3_0), .val (.int p3_1), .val (.int (p3_1 + (3 : Int32))), .val (.long (-3750763034362895579 : Int64)), .second, .val (.int p3_1)] [(.int p3_1), (.ref a3_0), (.long (-3750763034362895579 : Int64))])) rfl rfl (hb hby d3_17) _ ?_
    show Steps p.tables e below (s₁.setTop (mkF m 18 #[.val (.ref a3_0), .val (.int p3_1), .val (.int (p3_1 + (3 : Int32))), .val (.long (-3750763034362895579 : Int64)), .second, .val (.int p3_1)] [(.int (f_a3_0 p3_1)), (.long (-3750763034362895579 : Int64))])) _
    refine XS.sipush X0.here hx rfl (hb hby d3_18) ?_
    show Steps p.tables e below (s₁.setTop (mkF m 21 #[.val (.ref a3_0), .val (.int p3_1), .val (.int (p3_1 + (3 : Int32))), .val (.long (-3750763034362895579 : Int64)), .second, .val (.int p3_1)] [(.int (255 : Int32)), (.int (f_a3_0 p3_1)), (.long (-3750763034362895579 : Int64))])) _
    refine XS.iand X0.here hx rfl (hb hby d3_21) rfl ?_
    show Steps p.tables e below (s₁.setTop (mkF m 22 #[.val (.ref a3_0), .val (.int p3_1), .val (.int (p3_1 + (3 : Int32))), .val (.long (-3750763034362895579 : Int64)), .second, .val (.int p3_1)] [(.int ((f_a3_0 p3_1) &&& (255 : Int32))), (.long (-3750763034362895579 : Int64))])) _
    refine XS.i2l X0.here hx rfl (hb hby d3_22) rfl ?_
    show Steps p.tables e below (s₁.setTop (mkF m 23 #[.val (.ref a3_0), .val (.int p3_1), .val (.int (p3_1 + (3 : Int32))), .val (.long (-3750763034362895579 : Int64)), .second, .val (.int p3_1)] [(.long (((f_a3_0 p3_1) &&& (255 : Int32)).toInt64)), (.long (-3750763034362895579 : Int64))])) _
    refine XS.lxor X0.here hx rfl (hb hby d3_23) rfl ?_
    show Steps p.tables e below (s₁.setTop (mkF m 24 #[.val (.ref a3_0), .val (.int p3_1), .val (.int (p3_1 + (3 : Int32))), .val (.long (-3750763034362895579 : Int64)), .second, .val (.int p3_1)] [(.long ((-3750763034362895579 : Int64) ^^^ (((f_a3_0 p3_1) &&& (255 : Int32)).toInt64)))])) _
    refine X0.ldc2Long hx hown (mvT hZ (ow14 hw)) (g := (mkF m 24 #[.val (.ref a3_0), .val (.int p3_1), .val (.int (p3_1 + (3 : Int32))), .val (.long (-3750763034362895579 : Int64)), .second, .val (.int p3_1)] [(.long ((-3750763034362895579 : Int64) ^^^ (((f_a3_0 p3_1) &&& (255 : Int32)).toInt64)))])) rfl (hb hby d3_24) _ ?_
    show Steps p.tables e below (s₁.setTop (mkF m 27 #[.val (.ref a3_0), .val (.int p3_1), .val (.int (p3_1 + (3 : Int32))), .val (.long (-3750763034362895579 : Int64)), .second, .val (.int p3_1)] [(.long (1099511628211 : Int64)), (.long ((-3750763034362895579 : Int64) ^^^ (((f_a3_0 p3_1) &&& (255 : Int32)).toInt64)))])) _
    refine XS.lmul X0.here hx rfl (hb hby d3_27) rfl ?_
    show Steps p.tables e below (s₁.setTop (mkF m 28 #[.val (.ref a3_0), .val (.int p3_1), .val (.int (p3_1 + (3 : Int32))), .val (.long (-3750763034362895579 : Int64)), .second, .val (.int p3_1)] [(.long (((-3750763034362895579 : Int64) ^^^ (((f_a3_0 p3_1) &&& (255 : Int32)).toInt64)) * (1099511628211 : Int64)))])) _
    refine XS.lstoreN X0.here hx rfl (hb hby d3_28) rfl (l' := #[.val (.ref a3_0), .val (.int p3_1), .val (.int (p3_1 + (3 : Int32))), .val (.long (((-3750763034362895579 : Int64) ^^^ (((f_a3_0 p3_1) &&& (255 : Int32)).toInt64)) * (1099511628211 : Int64))), .second, .val (.int p3_1)]) rfl ?_
    show Steps p.tables e below (s₁.setTop (mkF m 29 #[.val (.ref a3_0), .val (.int p3_1), .val (.int (p3_1 + (3 : Int32))), .val (.long (((-3750763034362895579 : Int64) ^^^ (((f_a3_0 p3_1) &&& (255 : Int32)).toInt64)) * (1099511628211 : Int64))), .second, .val (.int p3_1)] [])) _
    rw [← hx2]
    show Steps p.tables e below (s₁.setTop (mkF m 29 #[.val (.ref a3_0), .val (.int p3_1), .val (.int (p3_1 + (3 : Int32))), .val (.long x2), .second, .val (.int p3_1)] [])) _
    refine XS.iinc X0.here hx rfl (hb hby d3_29) rfl (l' := #[.val (.ref a3_0), .val (.int p3_1), .val (.int (p3_1 + (3 : Int32))), .val (.long x2), .second, .val (.int (p3_1 + (1 : Int32)))]) rfl ?_
    show Steps p.tables e below (s₁.setTop (mkF m 32 #[.val (.ref a3_0), .val (.int p3_1), .val (.int (p3_1 + (3 : Int32))), .val (.long x2), .second, .val (.int (p3_1 + (1 : Int32)))] [])) _
    refine XS.goto X0.here hx rfl (pc0 := 32) (pc' := 7) rfl (hb hby d3_32) (by decide) (by decide) ?_
    show Steps p.tables e below (s₁.setTop (mkF m 7 #[.val (.ref a3_0), .val (.int p3_1), .val (.int (p3_1 + (3 : Int32))), .val (.long x2), .second, .val (.int (p3_1 + (1 : Int32)))] [])) _
    refine XS.iload X0.here hx rfl (hb hby d3_7) rfl ?_
    show Steps p.tables e below (s₁.setTop (mkF m 9 #[.val (.ref a3_0), .val (.int p3_1), .val (.int (p3_1 + (3 : Int32))), .val (.long x2), .second, .val (.int (p3_1 + (1 : Int32)))] [(.int (p3_1 + (1 : Int32)))])) _
    refine XS.iloadN X0.here hx rfl (hb hby d3_9) rfl ?_
    show Steps p.tables e below (s₁.setTop (mkF m 10 #[.val (.ref a3_0), .val (.int p3_1), .val (.int (p3_1 + (3 : Int32))), .val (.long x2), .second, .val (.int (p3_1 + (1 : Int32)))] [(.int (p3_1 + (3 : Int32))), (.int (p3_1 + (1 : Int32)))])) _
    refine XS.icmpNo X0.here hx rfl (hb hby d3_10) rfl (tlt (own_ltT hoff (c := (1 : Int32)) (d := (3 : Int32)) (by decide) (by decide) (by decide))).2.1 ?_
    show Steps p.tables e below (s₁.setTop (mkF m 13 #[.val (.ref a3_0), .val (.int p3_1), .val (.int (p3_1 + (3 : Int32))), .val (.long x2), .second, .val (.int (p3_1 + (1 : Int32)))] [])) _
    refine XS.lloadN X0.here hx rfl (hb hby d3_13) rfl ?_
    show Steps p.tables e below (s₁.setTop (mkF m 14 #[.val (.ref a3_0), .val (.int p3_1), .val (.int (p3_1 + (3 : Int32))), .val (.long x2), .second, .val (.int (p3_1 + (1 : Int32)))] [(.long x2)])) _
    refine XS.aloadN X0.here hx rfl (hb hby d3_14) rfl rfl ?_
    show Steps p.tables e below (s₁.setTop (mkF m 15 #[.val (.ref a3_0), .val (.int p3_1), .val (.int (p3_1 + (3 : Int32))), .val (.long x2), .second, .val (.int (p3_1 + (1 : Int32)))] [(.ref a3_0), (.long x2)])) _
    refine XS.iload X0.here hx rfl (hb hby d3_15) rfl ?_
    show Steps p.tables e below (s₁.setTop (mkF m 17 #[.val (.ref a3_0), .val (.int p3_1), .val (.int (p3_1 + (3 : Int32))), .val (.long x2), .second, .val (.int (p3_1 + (1 : Int32)))] [(.int (p3_1 + (1 : Int32))), (.ref a3_0), (.long x2)])) _
    refine X0.baloadBytes hx (j := (p3_1 + (1 : Int32))) (v := (.int (f_a3_0 (p3_1 + (1 : Int32))))) (by rw [e0]; exact Ar3.1) (State.isArrayOf_alike hZ.alike Ar3.2.1) Ar3.2.2 (inb_of Sz3 (own_ix hoff (c := (1 : Int32)) (by decide))) (Hh3 _ (own_ix hoff (c := (1 : Int32)) (by decide)).1 (own_ix hoff (c := (1 : Int32)) (by decide)).2) (g := (mkF m 17 #[.val (.ref a3_0), .val (.int p3_1), .val (.int (p3_1 + (3 : Int32))), .val (.long x2), .second, .val (.int (p3_1 + (1 : Int32)))] [(.int (p3_1 + (1 : Int32))), (.ref a3_0), (.long x2)])) rfl rfl (hb hby d3_17) _ ?_
    show Steps p.tables e below (s₁.setTop (mkF m 18 #[.val (.ref a3_0), .val (.int p3_1), .val (.int (p3_1 + (3 : Int32))), .val (.long x2), .second, .val (.int (p3_1 + (1 : Int32)))] [(.int (f_a3_0 (p3_1 + (1 : Int32)))), (.long x2)])) _
    refine XS.sipush X0.here hx rfl (hb hby d3_18) ?_
    show Steps p.tables e below (s₁.setTop (mkF m 21 #[.val (.ref a3_0), .val (.int p3_1), .val (.int (p3_1 + (3 : Int32))), .val (.long x2), .second, .val (.int (p3_1 + (1 : Int32)))] [(.int (255 : Int32)), (.int (f_a3_0 (p3_1 + (1 : Int32)))), (.long x2)])) _
    refine XS.iand X0.here hx rfl (hb hby d3_21) rfl ?_
    show Steps p.tables e below (s₁.setTop (mkF m 22 #[.val (.ref a3_0), .val (.int p3_1), .val (.int (p3_1 + (3 : Int32))), .val (.long x2), .second, .val (.int (p3_1 + (1 : Int32)))] [(.int ((f_a3_0 (p3_1 + (1 : Int32))) &&& (255 : Int32))), (.long x2)])) _
    refine XS.i2l X0.here hx rfl (hb hby d3_22) rfl ?_
    show Steps p.tables e below (s₁.setTop (mkF m 23 #[.val (.ref a3_0), .val (.int p3_1), .val (.int (p3_1 + (3 : Int32))), .val (.long x2), .second, .val (.int (p3_1 + (1 : Int32)))] [(.long (((f_a3_0 (p3_1 + (1 : Int32))) &&& (255 : Int32)).toInt64)), (.long x2)])) _
    refine XS.lxor X0.here hx rfl (hb hby d3_23) rfl ?_
    show Steps p.tables e below (s₁.setTop (mkF m 24 #[.val (.ref a3_0), .val (.int p3_1), .val (.int (p3_1 + (3 : Int32))), .val (.long x2), .second, .val (.int (p3_1 + (1 : Int32)))] [(.long (x2 ^^^ (((f_a3_0 (p3_1 + (1 : Int32))) &&& (255 : Int32)).toInt64)))])) _
    refine X0.ldc2Long hx hown (mvT hZ (ow14 hw)) (g := (mkF m 24 #[.val (.ref a3_0), .val (.int p3_1), .val (.int (p3_1 + (3 : Int32))), .val (.long x2), .second, .val (.int (p3_1 + (1 : Int32)))] [(.long (x2 ^^^ (((f_a3_0 (p3_1 + (1 : Int32))) &&& (255 : Int32)).toInt64)))])) rfl (hb hby d3_24) _ ?_
    show Steps p.tables e below (s₁.setTop (mkF m 27 #[.val (.ref a3_0), .val (.int p3_1), .val (.int (p3_1 + (3 : Int32))), .val (.long x2), .second, .val (.int (p3_1 + (1 : Int32)))] [(.long (1099511628211 : Int64)), (.long (x2 ^^^ (((f_a3_0 (p3_1 + (1 : Int32))) &&& (255 : Int32)).toInt64)))])) _
    refine XS.lmul X0.here hx rfl (hb hby d3_27) rfl ?_
    show Steps p.tables e below (s₁.setTop (mkF m 28 #[.val (.ref a3_0), .val (.int p3_1), .val (.int (p3_1 + (3 : Int32))), .val (.long x2), .second, .val (.int (p3_1 + (1 : Int32)))] [(.long ((x2 ^^^ (((f_a3_0 (p3_1 + (1 : Int32))) &&& (255 : Int32)).toInt64)) * (1099511628211 : Int64)))])) _
    refine XS.lstoreN X0.here hx rfl (hb hby d3_28) rfl (l' := #[.val (.ref a3_0), .val (.int p3_1), .val (.int (p3_1 + (3 : Int32))), .val (.long ((x2 ^^^ (((f_a3_0 (p3_1 + (1 : Int32))) &&& (255 : Int32)).toInt64)) * (1099511628211 : Int64))), .second, .val (.int (p3_1 + (1 : Int32)))]) rfl ?_
    show Steps p.tables e below (s₁.setTop (mkF m 29 #[.val (.ref a3_0), .val (.int p3_1), .val (.int (p3_1 + (3 : Int32))), .val (.long ((x2 ^^^ (((f_a3_0 (p3_1 + (1 : Int32))) &&& (255 : Int32)).toInt64)) * (1099511628211 : Int64))), .second, .val (.int (p3_1 + (1 : Int32)))] [])) _
    rw [← hx4]
    show Steps p.tables e below (s₁.setTop (mkF m 29 #[.val (.ref a3_0), .val (.int p3_1), .val (.int (p3_1 + (3 : Int32))), .val (.long x4), .second, .val (.int (p3_1 + (1 : Int32)))] [])) _
    refine XS.iinc X0.here hx rfl (hb hby d3_29) rfl (l' := #[.val (.ref a3_0), .val (.int p3_1), .val (.int (p3_1 + (3 : Int32))), .val (.long x4), .second, .val (.int ((p3_1 + (1 : Int32)) + (1 : Int32)))]) rfl ?_
    show Steps p.tables e below (s₁.setTop (mkF m 32 #[.val (.ref a3_0), .val (.int p3_1), .val (.int (p3_1 + (3 : Int32))), .val (.long x4), .second, .val (.int ((p3_1 + (1 : Int32)) + (1 : Int32)))] [])) _
    refine XS.goto X0.here hx rfl (pc0 := 32) (pc' := 7) rfl (hb hby d3_32) (by decide) (by decide) ?_
    show Steps p.tables e below (s₁.setTop (mkF m 7 #[.val (.ref a3_0), .val (.int p3_1), .val (.int (p3_1 + (3 : Int32))), .val (.long x4), .second, .val (.int ((p3_1 + (1 : Int32)) + (1 : Int32)))] [])) _
    rw [own_addc p3_1 (1 : Int32) (1 : Int32) (2 : Int32) rfl]
    show Steps p.tables e below (s₁.setTop (mkF m 7 #[.val (.ref a3_0), .val (.int p3_1), .val (.int (p3_1 + (3 : Int32))), .val (.long x4), .second, .val (.int (p3_1 + (2 : Int32)))] [])) _
    refine XS.iload X0.here hx rfl (hb hby d3_7) rfl ?_
    show Steps p.tables e below (s₁.setTop (mkF m 9 #[.val (.ref a3_0), .val (.int p3_1), .val (.int (p3_1 + (3 : Int32))), .val (.long x4), .second, .val (.int (p3_1 + (2 : Int32)))] [(.int (p3_1 + (2 : Int32)))])) _
    refine XS.iloadN X0.here hx rfl (hb hby d3_9) rfl ?_
    show Steps p.tables e below (s₁.setTop (mkF m 10 #[.val (.ref a3_0), .val (.int p3_1), .val (.int (p3_1 + (3 : Int32))), .val (.long x4), .second, .val (.int (p3_1 + (2 : Int32)))] [(.int (p3_1 + (3 : Int32))), (.int (p3_1 + (2 : Int32)))])) _
    refine XS.icmpNo X0.here hx rfl (hb hby d3_10) rfl (tlt (own_ltT hoff (c := (2 : Int32)) (d := (3 : Int32)) (by decide) (by decide) (by decide))).2.1 ?_
    show Steps p.tables e below (s₁.setTop (mkF m 13 #[.val (.ref a3_0), .val (.int p3_1), .val (.int (p3_1 + (3 : Int32))), .val (.long x4), .second, .val (.int (p3_1 + (2 : Int32)))] [])) _
    refine XS.lloadN X0.here hx rfl (hb hby d3_13) rfl ?_
    show Steps p.tables e below (s₁.setTop (mkF m 14 #[.val (.ref a3_0), .val (.int p3_1), .val (.int (p3_1 + (3 : Int32))), .val (.long x4), .second, .val (.int (p3_1 + (2 : Int32)))] [(.long x4)])) _
    refine XS.aloadN X0.here hx rfl (hb hby d3_14) rfl rfl ?_
    show Steps p.tables e below (s₁.setTop (mkF m 15 #[.val (.ref a3_0), .val (.int p3_1), .val (.int (p3_1 + (3 : Int32))), .val (.long x4), .second, .val (.int (p3_1 + (2 : Int32)))] [(.ref a3_0), (.long x4)])) _
    refine XS.iload X0.here hx rfl (hb hby d3_15) rfl ?_
    show Steps p.tables e below (s₁.setTop (mkF m 17 #[.val (.ref a3_0), .val (.int p3_1), .val (.int (p3_1 + (3 : Int32))), .val (.long x4), .second, .val (.int (p3_1 + (2 : Int32)))] [(.int (p3_1 + (2 : Int32))), (.ref a3_0), (.long x4)])) _
    refine X0.baloadBytes hx (j := (p3_1 + (2 : Int32))) (v := (.int (f_a3_0 (p3_1 + (2 : Int32))))) (by rw [e0]; exact Ar5.1) (State.isArrayOf_alike hZ.alike Ar5.2.1) Ar5.2.2 (inb_of Sz5 (own_ix hoff (c := (2 : Int32)) (by decide))) (Hh5 _ (own_ix hoff (c := (2 : Int32)) (by decide)).1 (own_ix hoff (c := (2 : Int32)) (by decide)).2) (g := (mkF m 17 #[.val (.ref a3_0), .val (.int p3_1), .val (.int (p3_1 + (3 : Int32))), .val (.long x4), .second, .val (.int (p3_1 + (2 : Int32)))] [(.int (p3_1 + (2 : Int32))), (.ref a3_0), (.long x4)])) rfl rfl (hb hby d3_17) _ ?_
    show Steps p.tables e below (s₁.setTop (mkF m 18 #[.val (.ref a3_0), .val (.int p3_1), .val (.int (p3_1 + (3 : Int32))), .val (.long x4), .second, .val (.int (p3_1 + (2 : Int32)))] [(.int (f_a3_0 (p3_1 + (2 : Int32)))), (.long x4)])) _
    refine XS.sipush X0.here hx rfl (hb hby d3_18) ?_
    show Steps p.tables e below (s₁.setTop (mkF m 21 #[.val (.ref a3_0), .val (.int p3_1), .val (.int (p3_1 + (3 : Int32))), .val (.long x4), .second, .val (.int (p3_1 + (2 : Int32)))] [(.int (255 : Int32)), (.int (f_a3_0 (p3_1 + (2 : Int32)))), (.long x4)])) _
    refine XS.iand X0.here hx rfl (hb hby d3_21) rfl ?_
    show Steps p.tables e below (s₁.setTop (mkF m 22 #[.val (.ref a3_0), .val (.int p3_1), .val (.int (p3_1 + (3 : Int32))), .val (.long x4), .second, .val (.int (p3_1 + (2 : Int32)))] [(.int ((f_a3_0 (p3_1 + (2 : Int32))) &&& (255 : Int32))), (.long x4)])) _
    refine XS.i2l X0.here hx rfl (hb hby d3_22) rfl ?_
    show Steps p.tables e below (s₁.setTop (mkF m 23 #[.val (.ref a3_0), .val (.int p3_1), .val (.int (p3_1 + (3 : Int32))), .val (.long x4), .second, .val (.int (p3_1 + (2 : Int32)))] [(.long (((f_a3_0 (p3_1 + (2 : Int32))) &&& (255 : Int32)).toInt64)), (.long x4)])) _
    refine XS.lxor X0.here hx rfl (hb hby d3_23) rfl ?_
    show Steps p.tables e below (s₁.setTop (mkF m 24 #[.val (.ref a3_0), .val (.int p3_1), .val (.int (p3_1 + (3 : Int32))), .val (.long x4), .second, .val (.int (p3_1 + (2 : Int32)))] [(.long (x4 ^^^ (((f_a3_0 (p3_1 + (2 : Int32))) &&& (255 : Int32)).toInt64)))])) _
    refine X0.ldc2Long hx hown (mvT hZ (ow14 hw)) (g := (mkF m 24 #[.val (.ref a3_0), .val (.int p3_1), .val (.int (p3_1 + (3 : Int32))), .val (.long x4), .second, .val (.int (p3_1 + (2 : Int32)))] [(.long (x4 ^^^ (((f_a3_0 (p3_1 + (2 : Int32))) &&& (255 : Int32)).toInt64)))])) rfl (hb hby d3_24) _ ?_
    show Steps p.tables e below (s₁.setTop (mkF m 27 #[.val (.ref a3_0), .val (.int p3_1), .val (.int (p3_1 + (3 : Int32))), .val (.long x4), .second, .val (.int (p3_1 + (2 : Int32)))] [(.long (1099511628211 : Int64)), (.long (x4 ^^^ (((f_a3_0 (p3_1 + (2 : Int32))) &&& (255 : Int32)).toInt64)))])) _
    refine XS.lmul X0.here hx rfl (hb hby d3_27) rfl ?_
    show Steps p.tables e below (s₁.setTop (mkF m 28 #[.val (.ref a3_0), .val (.int p3_1), .val (.int (p3_1 + (3 : Int32))), .val (.long x4), .second, .val (.int (p3_1 + (2 : Int32)))] [(.long ((x4 ^^^ (((f_a3_0 (p3_1 + (2 : Int32))) &&& (255 : Int32)).toInt64)) * (1099511628211 : Int64)))])) _
    refine XS.lstoreN X0.here hx rfl (hb hby d3_28) rfl (l' := #[.val (.ref a3_0), .val (.int p3_1), .val (.int (p3_1 + (3 : Int32))), .val (.long ((x4 ^^^ (((f_a3_0 (p3_1 + (2 : Int32))) &&& (255 : Int32)).toInt64)) * (1099511628211 : Int64))), .second, .val (.int (p3_1 + (2 : Int32)))]) rfl ?_
    show Steps p.tables e below (s₁.setTop (mkF m 29 #[.val (.ref a3_0), .val (.int p3_1), .val (.int (p3_1 + (3 : Int32))), .val (.long ((x4 ^^^ (((f_a3_0 (p3_1 + (2 : Int32))) &&& (255 : Int32)).toInt64)) * (1099511628211 : Int64))), .second, .val (.int (p3_1 + (2 : Int32)))] [])) _
    rw [← hx6]
    show Steps p.tables e below (s₁.setTop (mkF m 29 #[.val (.ref a3_0), .val (.int p3_1), .val (.int (p3_1 + (3 : Int32))), .val (.long x6), .second, .val (.int (p3_1 + (2 : Int32)))] [])) _
    refine XS.iinc X0.here hx rfl (hb hby d3_29) rfl (l' := #[.val (.ref a3_0), .val (.int p3_1), .val (.int (p3_1 + (3 : Int32))), .val (.long x6), .second, .val (.int ((p3_1 + (2 : Int32)) + (1 : Int32)))]) rfl ?_
    show Steps p.tables e below (s₁.setTop (mkF m 32 #[.val (.ref a3_0), .val (.int p3_1), .val (.int (p3_1 + (3 : Int32))), .val (.long x6), .second, .val (.int ((p3_1 + (2 : Int32)) + (1 : Int32)))] [])) _
    refine XS.goto X0.here hx rfl (pc0 := 32) (pc' := 7) rfl (hb hby d3_32) (by decide) (by decide) ?_
    show Steps p.tables e below (s₁.setTop (mkF m 7 #[.val (.ref a3_0), .val (.int p3_1), .val (.int (p3_1 + (3 : Int32))), .val (.long x6), .second, .val (.int ((p3_1 + (2 : Int32)) + (1 : Int32)))] [])) _
    rw [own_addc p3_1 (2 : Int32) (1 : Int32) (3 : Int32) rfl]
    show Steps p.tables e below (s₁.setTop (mkF m 7 #[.val (.ref a3_0), .val (.int p3_1), .val (.int (p3_1 + (3 : Int32))), .val (.long x6), .second, .val (.int (p3_1 + (3 : Int32)))] [])) _
    refine XS.iload X0.here hx rfl (hb hby d3_7) rfl ?_
    show Steps p.tables e below (s₁.setTop (mkF m 9 #[.val (.ref a3_0), .val (.int p3_1), .val (.int (p3_1 + (3 : Int32))), .val (.long x6), .second, .val (.int (p3_1 + (3 : Int32)))] [(.int (p3_1 + (3 : Int32)))])) _
    refine XS.iloadN X0.here hx rfl (hb hby d3_9) rfl ?_
    show Steps p.tables e below (s₁.setTop (mkF m 10 #[.val (.ref a3_0), .val (.int p3_1), .val (.int (p3_1 + (3 : Int32))), .val (.long x6), .second, .val (.int (p3_1 + (3 : Int32)))] [(.int (p3_1 + (3 : Int32))), (.int (p3_1 + (3 : Int32)))])) _
    refine XS.icmpYes X0.here hx rfl (pc0 := 10) (pc' := 35) rfl (hb hby d3_10) rfl (flt (own_ltF hoff (c := (3 : Int32)) (d := (3 : Int32)) (by decide) (by decide) (by decide))).2.1 (by decide) (by decide) ?_
    show Steps p.tables e below (s₁.setTop (mkF m 35 #[.val (.ref a3_0), .val (.int p3_1), .val (.int (p3_1 + (3 : Int32))), .val (.long x6), .second, .val (.int (p3_1 + (3 : Int32)))] [])) _
    refine XS.lloadN X0.here hx rfl (hb hby d3_35) rfl ?_
    show Steps p.tables e below (s₁.setTop (mkF m 36 #[.val (.ref a3_0), .val (.int p3_1), .val (.int (p3_1 + (3 : Int32))), .val (.long x6), .second, .val (.int (p3_1 + (3 : Int32)))] [(.long x6)])) _
    refine XS.lloadN X0.here hx rfl (hb hby d3_36) rfl ?_
    show Steps p.tables e below (s₁.setTop (mkF m 37 #[.val (.ref a3_0), .val (.int p3_1), .val (.int (p3_1 + (3 : Int32))), .val (.long x6), .second, .val (.int (p3_1 + (3 : Int32)))] [(.long x6), (.long x6)])) _
    refine XS.bipush X0.here hx rfl (hb hby d3_37) ?_
    show Steps p.tables e below (s₁.setTop (mkF m 39 #[.val (.ref a3_0), .val (.int p3_1), .val (.int (p3_1 + (3 : Int32))), .val (.long x6), .second, .val (.int (p3_1 + (3 : Int32)))] [(.int (33 : Int32)), (.long x6), (.long x6)])) _
    refine XS.lushr X0.here hx rfl (hb hby d3_39) rfl ?_
    show Steps p.tables e below (s₁.setTop (mkF m 40 #[.val (.ref a3_0), .val (.int p3_1), .val (.int (p3_1 + (3 : Int32))), .val (.long x6), .second, .val (.int (p3_1 + (3 : Int32)))] [(.long ((x6.toUInt64 >>> ((33 : Int32) &&& 0x3f).toInt64.toUInt64).toInt64)), (.long x6)])) _
    refine XS.lxor X0.here hx rfl (hb hby d3_40) rfl ?_
    show Steps p.tables e below (s₁.setTop (mkF m 41 #[.val (.ref a3_0), .val (.int p3_1), .val (.int (p3_1 + (3 : Int32))), .val (.long x6), .second, .val (.int (p3_1 + (3 : Int32)))] [(.long (x6 ^^^ ((x6.toUInt64 >>> ((33 : Int32) &&& 0x3f).toInt64.toUInt64).toInt64)))])) _
    refine XS.lstoreN X0.here hx rfl (hb hby d3_41) rfl (l' := #[.val (.ref a3_0), .val (.int p3_1), .val (.int (p3_1 + (3 : Int32))), .val (.long (x6 ^^^ ((x6.toUInt64 >>> ((33 : Int32) &&& 0x3f).toInt64.toUInt64).toInt64))), .second, .val (.int (p3_1 + (3 : Int32)))]) rfl ?_
    show Steps p.tables e below (s₁.setTop (mkF m 42 #[.val (.ref a3_0), .val (.int p3_1), .val (.int (p3_1 + (3 : Int32))), .val (.long (x6 ^^^ ((x6.toUInt64 >>> ((33 : Int32) &&& 0x3f).toInt64.toUInt64).toInt64))), .second, .val (.int (p3_1 + (3 : Int32)))] [])) _
    rw [← hx7]
    show Steps p.tables e below (s₁.setTop (mkF m 42 #[.val (.ref a3_0), .val (.int p3_1), .val (.int (p3_1 + (3 : Int32))), .val (.long x7), .second, .val (.int (p3_1 + (3 : Int32)))] [])) _
    refine XS.lloadN X0.here hx rfl (hb hby d3_42) rfl ?_
    show Steps p.tables e below (s₁.setTop (mkF m 43 #[.val (.ref a3_0), .val (.int p3_1), .val (.int (p3_1 + (3 : Int32))), .val (.long x7), .second, .val (.int (p3_1 + (3 : Int32)))] [(.long x7)])) _
    refine X0.ldc2Long hx hown (mvT hZ (ow15 hw)) (g := (mkF m 43 #[.val (.ref a3_0), .val (.int p3_1), .val (.int (p3_1 + (3 : Int32))), .val (.long x7), .second, .val (.int (p3_1 + (3 : Int32)))] [(.long x7)])) rfl (hb hby d3_43) _ ?_
    show Steps p.tables e below (s₁.setTop (mkF m 46 #[.val (.ref a3_0), .val (.int p3_1), .val (.int (p3_1 + (3 : Int32))), .val (.long x7), .second, .val (.int (p3_1 + (3 : Int32)))] [(.long (-49064778989728563 : Int64)), (.long x7)])) _
    refine XS.lmul X0.here hx rfl (hb hby d3_46) rfl ?_
    show Steps p.tables e below (s₁.setTop (mkF m 47 #[.val (.ref a3_0), .val (.int p3_1), .val (.int (p3_1 + (3 : Int32))), .val (.long x7), .second, .val (.int (p3_1 + (3 : Int32)))] [(.long (x7 * (-49064778989728563 : Int64)))])) _
    refine XS.lstoreN X0.here hx rfl (hb hby d3_47) rfl (l' := #[.val (.ref a3_0), .val (.int p3_1), .val (.int (p3_1 + (3 : Int32))), .val (.long (x7 * (-49064778989728563 : Int64))), .second, .val (.int (p3_1 + (3 : Int32)))]) rfl ?_
    show Steps p.tables e below (s₁.setTop (mkF m 48 #[.val (.ref a3_0), .val (.int p3_1), .val (.int (p3_1 + (3 : Int32))), .val (.long (x7 * (-49064778989728563 : Int64))), .second, .val (.int (p3_1 + (3 : Int32)))] [])) _
    rw [← hx8]
    show Steps p.tables e below (s₁.setTop (mkF m 48 #[.val (.ref a3_0), .val (.int p3_1), .val (.int (p3_1 + (3 : Int32))), .val (.long x8), .second, .val (.int (p3_1 + (3 : Int32)))] [])) _
    refine XS.lloadN X0.here hx rfl (hb hby d3_48) rfl ?_
    show Steps p.tables e below (s₁.setTop (mkF m 49 #[.val (.ref a3_0), .val (.int p3_1), .val (.int (p3_1 + (3 : Int32))), .val (.long x8), .second, .val (.int (p3_1 + (3 : Int32)))] [(.long x8)])) _
    refine XS.lloadN X0.here hx rfl (hb hby d3_49) rfl ?_
    show Steps p.tables e below (s₁.setTop (mkF m 50 #[.val (.ref a3_0), .val (.int p3_1), .val (.int (p3_1 + (3 : Int32))), .val (.long x8), .second, .val (.int (p3_1 + (3 : Int32)))] [(.long x8), (.long x8)])) _
    refine XS.bipush X0.here hx rfl (hb hby d3_50) ?_
    show Steps p.tables e below (s₁.setTop (mkF m 52 #[.val (.ref a3_0), .val (.int p3_1), .val (.int (p3_1 + (3 : Int32))), .val (.long x8), .second, .val (.int (p3_1 + (3 : Int32)))] [(.int (33 : Int32)), (.long x8), (.long x8)])) _
    refine XS.lushr X0.here hx rfl (hb hby d3_52) rfl ?_
    show Steps p.tables e below (s₁.setTop (mkF m 53 #[.val (.ref a3_0), .val (.int p3_1), .val (.int (p3_1 + (3 : Int32))), .val (.long x8), .second, .val (.int (p3_1 + (3 : Int32)))] [(.long ((x8.toUInt64 >>> ((33 : Int32) &&& 0x3f).toInt64.toUInt64).toInt64)), (.long x8)])) _
    refine XS.lxor X0.here hx rfl (hb hby d3_53) rfl ?_
    show Steps p.tables e below (s₁.setTop (mkF m 54 #[.val (.ref a3_0), .val (.int p3_1), .val (.int (p3_1 + (3 : Int32))), .val (.long x8), .second, .val (.int (p3_1 + (3 : Int32)))] [(.long (x8 ^^^ ((x8.toUInt64 >>> ((33 : Int32) &&& 0x3f).toInt64.toUInt64).toInt64)))])) _
    refine XS.lstoreN X0.here hx rfl (hb hby d3_54) rfl (l' := #[.val (.ref a3_0), .val (.int p3_1), .val (.int (p3_1 + (3 : Int32))), .val (.long (x8 ^^^ ((x8.toUInt64 >>> ((33 : Int32) &&& 0x3f).toInt64.toUInt64).toInt64))), .second, .val (.int (p3_1 + (3 : Int32)))]) rfl ?_
    show Steps p.tables e below (s₁.setTop (mkF m 55 #[.val (.ref a3_0), .val (.int p3_1), .val (.int (p3_1 + (3 : Int32))), .val (.long (x8 ^^^ ((x8.toUInt64 >>> ((33 : Int32) &&& 0x3f).toInt64.toUInt64).toInt64))), .second, .val (.int (p3_1 + (3 : Int32)))] [])) _
    rw [← hx9]
    show Steps p.tables e below (s₁.setTop (mkF m 55 #[.val (.ref a3_0), .val (.int p3_1), .val (.int (p3_1 + (3 : Int32))), .val (.long x9), .second, .val (.int (p3_1 + (3 : Int32)))] [])) _
    refine XS.lloadN X0.here hx rfl (hb hby d3_55) rfl ?_
    show Steps p.tables e below (s₁.setTop (mkF m 56 #[.val (.ref a3_0), .val (.int p3_1), .val (.int (p3_1 + (3 : Int32))), .val (.long x9), .second, .val (.int (p3_1 + (3 : Int32)))] [(.long x9)])) _
    refine X0.ldc2Long hx hown (mvT hZ (ow16 hw)) (g := (mkF m 56 #[.val (.ref a3_0), .val (.int p3_1), .val (.int (p3_1 + (3 : Int32))), .val (.long x9), .second, .val (.int (p3_1 + (3 : Int32)))] [(.long x9)])) rfl (hb hby d3_56) _ ?_
    show Steps p.tables e below (s₁.setTop (mkF m 59 #[.val (.ref a3_0), .val (.int p3_1), .val (.int (p3_1 + (3 : Int32))), .val (.long x9), .second, .val (.int (p3_1 + (3 : Int32)))] [(.long (-4265267296055464877 : Int64)), (.long x9)])) _
    refine XS.lmul X0.here hx rfl (hb hby d3_59) rfl ?_
    show Steps p.tables e below (s₁.setTop (mkF m 60 #[.val (.ref a3_0), .val (.int p3_1), .val (.int (p3_1 + (3 : Int32))), .val (.long x9), .second, .val (.int (p3_1 + (3 : Int32)))] [(.long (x9 * (-4265267296055464877 : Int64)))])) _
    refine XS.lstoreN X0.here hx rfl (hb hby d3_60) rfl (l' := #[.val (.ref a3_0), .val (.int p3_1), .val (.int (p3_1 + (3 : Int32))), .val (.long (x9 * (-4265267296055464877 : Int64))), .second, .val (.int (p3_1 + (3 : Int32)))]) rfl ?_
    show Steps p.tables e below (s₁.setTop (mkF m 61 #[.val (.ref a3_0), .val (.int p3_1), .val (.int (p3_1 + (3 : Int32))), .val (.long (x9 * (-4265267296055464877 : Int64))), .second, .val (.int (p3_1 + (3 : Int32)))] [])) _
    rw [← hx10]
    show Steps p.tables e below (s₁.setTop (mkF m 61 #[.val (.ref a3_0), .val (.int p3_1), .val (.int (p3_1 + (3 : Int32))), .val (.long x10), .second, .val (.int (p3_1 + (3 : Int32)))] [])) _
    refine XS.lloadN X0.here hx rfl (hb hby d3_61) rfl ?_
    show Steps p.tables e below (s₁.setTop (mkF m 62 #[.val (.ref a3_0), .val (.int p3_1), .val (.int (p3_1 + (3 : Int32))), .val (.long x10), .second, .val (.int (p3_1 + (3 : Int32)))] [(.long x10)])) _
    refine XS.lloadN X0.here hx rfl (hb hby d3_62) rfl ?_
    show Steps p.tables e below (s₁.setTop (mkF m 63 #[.val (.ref a3_0), .val (.int p3_1), .val (.int (p3_1 + (3 : Int32))), .val (.long x10), .second, .val (.int (p3_1 + (3 : Int32)))] [(.long x10), (.long x10)])) _
    refine XS.bipush X0.here hx rfl (hb hby d3_63) ?_
    show Steps p.tables e below (s₁.setTop (mkF m 65 #[.val (.ref a3_0), .val (.int p3_1), .val (.int (p3_1 + (3 : Int32))), .val (.long x10), .second, .val (.int (p3_1 + (3 : Int32)))] [(.int (33 : Int32)), (.long x10), (.long x10)])) _
    refine XS.lushr X0.here hx rfl (hb hby d3_65) rfl ?_
    show Steps p.tables e below (s₁.setTop (mkF m 66 #[.val (.ref a3_0), .val (.int p3_1), .val (.int (p3_1 + (3 : Int32))), .val (.long x10), .second, .val (.int (p3_1 + (3 : Int32)))] [(.long ((x10.toUInt64 >>> ((33 : Int32) &&& 0x3f).toInt64.toUInt64).toInt64)), (.long x10)])) _
    refine XS.lxor X0.here hx rfl (hb hby d3_66) rfl ?_
    show Steps p.tables e below (s₁.setTop (mkF m 67 #[.val (.ref a3_0), .val (.int p3_1), .val (.int (p3_1 + (3 : Int32))), .val (.long x10), .second, .val (.int (p3_1 + (3 : Int32)))] [(.long (x10 ^^^ ((x10.toUInt64 >>> ((33 : Int32) &&& 0x3f).toInt64.toUInt64).toInt64)))])) _
    refine XS.lstoreN X0.here hx rfl (hb hby d3_67) rfl (l' := #[.val (.ref a3_0), .val (.int p3_1), .val (.int (p3_1 + (3 : Int32))), .val (.long (x10 ^^^ ((x10.toUInt64 >>> ((33 : Int32) &&& 0x3f).toInt64.toUInt64).toInt64))), .second, .val (.int (p3_1 + (3 : Int32)))]) rfl ?_
    show Steps p.tables e below (s₁.setTop (mkF m 68 #[.val (.ref a3_0), .val (.int p3_1), .val (.int (p3_1 + (3 : Int32))), .val (.long (x10 ^^^ ((x10.toUInt64 >>> ((33 : Int32) &&& 0x3f).toInt64.toUInt64).toInt64))), .second, .val (.int (p3_1 + (3 : Int32)))] [])) _
    rw [← hx11]
    show Steps p.tables e below (s₁.setTop (mkF m 68 #[.val (.ref a3_0), .val (.int p3_1), .val (.int (p3_1 + (3 : Int32))), .val (.long x11), .second, .val (.int (p3_1 + (3 : Int32)))] [])) _
    refine XS.lloadN X0.here hx rfl (hb hby d3_68) rfl ?_
    show Steps p.tables e below (s₁.setTop (mkF m 69 #[.val (.ref a3_0), .val (.int p3_1), .val (.int (p3_1 + (3 : Int32))), .val (.long x11), .second, .val (.int (p3_1 + (3 : Int32)))] [(.long x11)])) _
    jvm_step X0.here [X0.here.top, hx, (hb hby d3_69), X0.method', Bd.returns, narrow]
    first | (intro acts; rw [hr _ acts rfl rfl rfl]) | rw [hr _ _ rfl rfl rfl]
    exact Steps.refl _
  · show Q_rm3_l3 Z a3_0 p3_1 f_a3_0 h0 n0 _ s₁.heap _
    rw [e0]
    subst hx11
    subst hx10
    subst hx9
    subst hx8
    subst hx7
    subst hx6
    subst hx4
    subst hx2
    exact ⟨rfl, N0, rfl⟩
theorem ef_rm3_l4 (m : MethodId) (y0 : Addr) (y1 : Int32) : entryFrame m #[(.ref y0), (.int y1), (.int (y1 + (4 : Int32)))] 6 = mkF m 0 #[.val (.ref y0), .val (.int y1), .val (.int (y1 + (4 : Int32))), .unset, .unset, .unset] [] := by first | (simp [entryFrame, mkF, argsToLocals, Value.category]; done) | rfl
def Q_rm3_l4 (Z : State) (a3_0 : Addr) (p3_1 : Int32) (f_a3_0 : Int32 → Int32) (h0 : Heap) (n0 : Nat) (v : Option Value) (h : Heap) (L : List Loc) : Prop := v = some (.long ((((((((((((((-3750763034362895579 : Int64) ^^^ (((f_a3_0 p3_1) &&& (255 : Int32)).toInt64)) * (1099511628211 : Int64)) ^^^ (((f_a3_0 (p3_1 + (1 : Int32))) &&& (255 : Int32)).toInt64)) * (1099511628211 : Int64)) ^^^ (((f_a3_0 (p3_1 + (2 : Int32))) &&& (255 : Int32)).toInt64)) * (1099511628211 : Int64)) ^^^ (((f_a3_0 (p3_1 + (3 : Int32))) &&& (255 : Int32)).toInt64)) * (1099511628211 : Int64)) ^^^ (((((((((((-3750763034362895579 : Int64) ^^^ (((f_a3_0 p3_1) &&& (255 : Int32)).toInt64)) * (1099511628211 : Int64)) ^^^ (((f_a3_0 (p3_1 + (1 : Int32))) &&& (255 : Int32)).toInt64)) * (1099511628211 : Int64)) ^^^ (((f_a3_0 (p3_1 + (2 : Int32))) &&& (255 : Int32)).toInt64)) * (1099511628211 : Int64)) ^^^ (((f_a3_0 (p3_1 + (3 : Int32))) &&& (255 : Int32)).toInt64)) * (1099511628211 : Int64)).toUInt64 >>> ((33 : Int32) &&& 0x3f).toInt64.toUInt64).toInt64)) * (-49064778989728563 : Int64)) ^^^ (((((((((((((-3750763034362895579 : Int64) ^^^ (((f_a3_0 p3_1) &&& (255 : Int32)).toInt64)) * (1099511628211 : Int64)) ^^^ (((f_a3_0 (p3_1 + (1 : Int32))) &&& (255 : Int32)).toInt64)) * (1099511628211 : Int64)) ^^^ (((f_a3_0 (p3_1 + (2 : Int32))) &&& (255 : Int32)).toInt64)) * (1099511628211 : Int64)) ^^^ (((f_a3_0 (p3_1 + (3 : Int32))) &&& (255 : Int32)).toInt64)) * (1099511628211 : Int64)) ^^^ (((((((((((-3750763034362895579 : Int64) ^^^ (((f_a3_0 p3_1) &&& (255 : Int32)).toInt64)) * (1099511628211 : Int64)) ^^^ (((f_a3_0 (p3_1 + (1 : Int32))) &&& (255 : Int32)).toInt64)) * (1099511628211 : Int64)) ^^^ (((f_a3_0 (p3_1 + (2 : Int32))) &&& (255 : Int32)).toInt64)) * (1099511628211 : Int64)) ^^^ (((f_a3_0 (p3_1 + (3 : Int32))) &&& (255 : Int32)).toInt64)) * (1099511628211 : Int64)).toUInt64 >>> ((33 : Int32) &&& 0x3f).toInt64.toUInt64).toInt64)) * (-49064778989728563 : Int64)).toUInt64 >>> ((33 : Int32) &&& 0x3f).toInt64.toUInt64).toInt64)) * (-4265267296055464877 : Int64)) ^^^ (((((((((((((((-3750763034362895579 : Int64) ^^^ (((f_a3_0 p3_1) &&& (255 : Int32)).toInt64)) * (1099511628211 : Int64)) ^^^ (((f_a3_0 (p3_1 + (1 : Int32))) &&& (255 : Int32)).toInt64)) * (1099511628211 : Int64)) ^^^ (((f_a3_0 (p3_1 + (2 : Int32))) &&& (255 : Int32)).toInt64)) * (1099511628211 : Int64)) ^^^ (((f_a3_0 (p3_1 + (3 : Int32))) &&& (255 : Int32)).toInt64)) * (1099511628211 : Int64)) ^^^ (((((((((((-3750763034362895579 : Int64) ^^^ (((f_a3_0 p3_1) &&& (255 : Int32)).toInt64)) * (1099511628211 : Int64)) ^^^ (((f_a3_0 (p3_1 + (1 : Int32))) &&& (255 : Int32)).toInt64)) * (1099511628211 : Int64)) ^^^ (((f_a3_0 (p3_1 + (2 : Int32))) &&& (255 : Int32)).toInt64)) * (1099511628211 : Int64)) ^^^ (((f_a3_0 (p3_1 + (3 : Int32))) &&& (255 : Int32)).toInt64)) * (1099511628211 : Int64)).toUInt64 >>> ((33 : Int32) &&& 0x3f).toInt64.toUInt64).toInt64)) * (-49064778989728563 : Int64)) ^^^ (((((((((((((-3750763034362895579 : Int64) ^^^ (((f_a3_0 p3_1) &&& (255 : Int32)).toInt64)) * (1099511628211 : Int64)) ^^^ (((f_a3_0 (p3_1 + (1 : Int32))) &&& (255 : Int32)).toInt64)) * (1099511628211 : Int64)) ^^^ (((f_a3_0 (p3_1 + (2 : Int32))) &&& (255 : Int32)).toInt64)) * (1099511628211 : Int64)) ^^^ (((f_a3_0 (p3_1 + (3 : Int32))) &&& (255 : Int32)).toInt64)) * (1099511628211 : Int64)) ^^^ (((((((((((-3750763034362895579 : Int64) ^^^ (((f_a3_0 p3_1) &&& (255 : Int32)).toInt64)) * (1099511628211 : Int64)) ^^^ (((f_a3_0 (p3_1 + (1 : Int32))) &&& (255 : Int32)).toInt64)) * (1099511628211 : Int64)) ^^^ (((f_a3_0 (p3_1 + (2 : Int32))) &&& (255 : Int32)).toInt64)) * (1099511628211 : Int64)) ^^^ (((f_a3_0 (p3_1 + (3 : Int32))) &&& (255 : Int32)).toInt64)) * (1099511628211 : Int64)).toUInt64 >>> ((33 : Int32) &&& 0x3f).toInt64.toUInt64).toInt64)) * (-49064778989728563 : Int64)).toUInt64 >>> ((33 : Int32) &&& 0x3f).toInt64.toUInt64).toInt64)) * (-4265267296055464877 : Int64)).toUInt64 >>> ((33 : Int32) &&& 0x3f).toInt64.toUInt64).toInt64))) ∧ Fr n0 L ∧ h = h0
set_option maxRecDepth 65536 in
set_option maxHeartbeats 40000000 in
theorem rm3_l4 (l : Launch) (Z : State) (a0 : Array Value) (hw : ∀ d ∈ tables_1, d.before a0 Z = true) (ws : List Jvm.Cond) (a3_0 : Addr) (p3_1 : Int32) (f_a3_0 : Int32 → Int32) (h0 : Heap) (n0 : Nat) (Z0 : n0 ≤ h0.size) (hoff : ¬ p3_1 < 0 ∧ p3_1 < 8) (B_a3_0 : Bya Z h0 a3_0 (12 : Int32) f_a3_0) :
    MetFree l (⟨"com/example/mortise/mortise/join/Record", "keyHash", "([BII)J"⟩ : MethodName) (head1 (Jvm.Cond.code (⟨"com/example/mortise/mortise/join/Record", "keyHash", "([BII)J"⟩ : MethodName) prog_36_method_9_code 6 (some .long) :: ws) ({ frames := 0, cells := 0, slots := 0, locals := 0 } : Room)) (fun a U => a = #[(.ref a3_0), (.int p3_1), (.int (p3_1 + (4 : Int32)))] ∧ Z.Warmed39 U.vm ∧ U.heap = h0) (fun _ _ _ _ _ => True) (fun _ U o U' => ∃ v L, o = .returned v ∧ Q_rm3_l4 Z a3_0 p3_1 f_a3_0 h0 n0 v U'.heap L ∧ FrameEnd U o U' L ({ frames := 0, cells := 0, slots := 0, locals := 0 } : Room).cells ({ frames := 0, cells := 0, slots := 0, locals := 0 } : Room).slots) := by
  refine MetFree.of_bodySF (plainFor_of_name pn_3) hisR ?_
  intro p e s m args below meth c s₁ Bd hml0 hP hK
  obtain ⟨rfl, hZ, hh⟩ := hP
  have hx := Bd.exec
  have hby := Bd.bytes
  have hml : c.maxLocals = 6 := hml0
  have hown : s.vm.findClass "com/example/mortise/mortise/join/Record" = some m.cls := findClass_of_methodNamed Bd.named
  have hnm := (name_of_methodNamed Bd.named Bd.method).1
  have X0 : Stand p l e ({ frames := 0, cells := 0, slots := 0, locals := 0 } : Room) s m #[(.ref a3_0), (.int p3_1), (.int (p3_1 + (4 : Int32)))] below meth c s₁ [] 0 0 := Stand.of_body Bd
  have e0 : s₁.heap = h0 := by rw [← hh, Bd.state]; rfl
  have N0 := Fr.nil n0
  have pre0 : ∀ t, Steps p.tables e below (s₁.setTop (mkF m 0 #[.val (.ref a3_0), .val (.int p3_1), .val (.int (p3_1 + (4 : Int32))), .unset, .unset, .unset] [])) t → Steps p.tables e below (s₁.setTop (entryFrame m #[(.ref a3_0), (.int p3_1), (.int (p3_1 + (4 : Int32)))] 6)) t := fun t k => castTop (ef_rm3_l4 m a3_0 p3_1) k
  obtain ⟨cl1, Ar1, Sz1, Hh1⟩ := id B_a3_0
  obtain ⟨x2, hx2⟩ : ∃ z : Int64, z = (((-3750763034362895579 : Int64) ^^^ (((f_a3_0 p3_1) &&& (255 : Int32)).toInt64)) * (1099511628211 : Int64)) := ⟨_, rfl⟩
  obtain ⟨cl3, Ar3, Sz3, Hh3⟩ := id B_a3_0
  obtain ⟨x4, hx4⟩ : ∃ z : Int64, z = ((x2 ^^^ (((f_a3_0 (p3_1 + (1 : Int32))) &&& (255 : Int32)).toInt64)) * (1099511628211 : Int64)) := ⟨_, rfl⟩
  obtain ⟨cl5, Ar5, Sz5, Hh5⟩ := id B_a3_0
  obtain ⟨x6, hx6⟩ : ∃ z : Int64, z = ((x4 ^^^ (((f_a3_0 (p3_1 + (2 : Int32))) &&& (255 : Int32)).toInt64)) * (1099511628211 : Int64)) := ⟨_, rfl⟩
  obtain ⟨cl7, Ar7, Sz7, Hh7⟩ := id B_a3_0
  obtain ⟨x8, hx8⟩ : ∃ z : Int64, z = ((x6 ^^^ (((f_a3_0 (p3_1 + (3 : Int32))) &&& (255 : Int32)).toInt64)) * (1099511628211 : Int64)) := ⟨_, rfl⟩
  obtain ⟨x9, hx9⟩ : ∃ z : Int64, z = (x8 ^^^ ((x8.toUInt64 >>> ((33 : Int32) &&& 0x3f).toInt64.toUInt64).toInt64)) := ⟨_, rfl⟩
  obtain ⟨x10, hx10⟩ : ∃ z : Int64, z = (x9 * (-49064778989728563 : Int64)) := ⟨_, rfl⟩
  obtain ⟨x11, hx11⟩ : ∃ z : Int64, z = (x10 ^^^ ((x10.toUInt64 >>> ((33 : Int32) &&& 0x3f).toInt64.toUInt64).toInt64)) := ⟨_, rfl⟩
  obtain ⟨x12, hx12⟩ : ∃ z : Int64, z = (x11 * (-4265267296055464877 : Int64)) := ⟨_, rfl⟩
  obtain ⟨x13, hx13⟩ : ∃ z : Int64, z = (x12 ^^^ ((x12.toUInt64 >>> ((33 : Int32) &&& 0x3f).toInt64.toUInt64).toInt64)) := ⟨_, rfl⟩
  obtain ⟨fs, hr, hrun, hended, hW, hsame⟩ := X0.leave (v := some (.long x13)) (fun h => by rw [Bd.returns] at h; cases h)
  refine ⟨_, _, pre0 _ ?_, hrun, hended, _, _, rfl, ?_, ⟨_, rfl⟩, hW, hsame.mono (by decide) (by decide)⟩
  · show Steps p.tables e below (s₁.setTop (mkF m 0 #[.val (.ref a3_0), .val (.int p3_1), .val (.int (p3_1 + (4 : Int32))), .unset, .unset, .unset] [])) _
    refine X0.ldc2Long hx hown (mvT hZ (ow13 hw)) (g := (mkF m 0 #[.val (.ref a3_0), .val (.int p3_1), .val (.int (p3_1 + (4 : Int32))), .unset, .unset, .unset] [])) rfl (hb hby d3_0) _ ?_
    show Steps p.tables e below (s₁.setTop (mkF m 3 #[.val (.ref a3_0), .val (.int p3_1), .val (.int (p3_1 + (4 : Int32))), .unset, .unset, .unset] [(.long (-3750763034362895579 : Int64))])) _
    refine XS.lstoreN X0.here hx rfl (hb hby d3_3) rfl (l' := #[.val (.ref a3_0), .val (.int p3_1), .val (.int (p3_1 + (4 : Int32))), .val (.long (-3750763034362895579 : Int64)), .second, .unset]) rfl ?_
    show Steps p.tables e below (s₁.setTop (mkF m 4 #[.val (.ref a3_0), .val (.int p3_1), .val (.int (p3_1 + (4 : Int32))), .val (.long (-3750763034362895579 : Int64)), .second, .unset] [])) _
    refine XS.iloadN X0.here hx rfl (hb hby d3_4) rfl ?_
    show Steps p.tables e below (s₁.setTop (mkF m 5 #[.val (.ref a3_0), .val (.int p3_1), .val (.int (p3_1 + (4 : Int32))), .val (.long (-3750763034362895579 : Int64)), .second, .unset] [(.int p3_1)])) _
    refine XS.istore X0.here hx rfl (hb hby d3_5) rfl (l' := #[.val (.ref a3_0), .val (.int p3_1), .val (.int (p3_1 + (4 : Int32))), .val (.long (-3750763034362895579 : Int64)), .second, .val (.int p3_1)]) rfl ?_
    show Steps p.tables e below (s₁.setTop (mkF m 7 #[.val (.ref a3_0), .val (.int p3_1), .val (.int (p3_1 + (4 : Int32))), .val (.long (-3750763034362895579 : Int64)), .second, .val (.int p3_1)] [])) _
    refine XS.iload X0.here hx rfl (hb hby d3_7) rfl ?_
    show Steps p.tables e below (s₁.setTop (mkF m 9 #[.val (.ref a3_0), .val (.int p3_1), .val (.int (p3_1 + (4 : Int32))), .val (.long (-3750763034362895579 : Int64)), .second, .val (.int p3_1)] [(.int p3_1)])) _
    refine XS.iloadN X0.here hx rfl (hb hby d3_9) rfl ?_
    show Steps p.tables e below (s₁.setTop (mkF m 10 #[.val (.ref a3_0), .val (.int p3_1), .val (.int (p3_1 + (4 : Int32))), .val (.long (-3750763034362895579 : Int64)), .second, .val (.int p3_1)] [(.int (p3_1 + (4 : Int32))), (.int p3_1)])) _
    refine XS.icmpNo X0.here hx rfl (hb hby d3_10) rfl (tlt (own_ltT0 hoff (d := (4 : Int32)) (by decide) (by decide))).2.1 ?_
    show Steps p.tables e below (s₁.setTop (mkF m 13 #[.val (.ref a3_0), .val (.int p3_1), .val (.int (p3_1 + (4 : Int32))), .val (.long (-3750763034362895579 : Int64)), .second, .val (.int p3_1)] [])) _
    refine XS.lloadN X0.here hx rfl (hb hby d3_13) rfl ?_
    show Steps p.tables e below (s₁.setTop (mkF m 14 #[.val (.ref a3_0), .val (.int p3_1), .val (.int (p3_1 + (4 : Int32))), .val (.long (-3750763034362895579 : Int64)), .second, .val (.int p3_1)] [(.long (-3750763034362895579 : Int64))])) _
    refine XS.aloadN X0.here hx rfl (hb hby d3_14) rfl rfl ?_
    show Steps p.tables e below (s₁.setTop (mkF m 15 #[.val (.ref a3_0), .val (.int p3_1), .val (.int (p3_1 + (4 : Int32))), .val (.long (-3750763034362895579 : Int64)), .second, .val (.int p3_1)] [(.ref a3_0), (.long (-3750763034362895579 : Int64))])) _
    refine XS.iload X0.here hx rfl (hb hby d3_15) rfl ?_
    show Steps p.tables e below (s₁.setTop (mkF m 17 #[.val (.ref a3_0), .val (.int p3_1), .val (.int (p3_1 + (4 : Int32))), .val (.long (-3750763034362895579 : Int64)), .second, .val (.int p3_1)] [(.int p3_1), (.ref a3_0), (.long (-3750763034362895579 : Int64))])) _
    refine X0.baloadBytes hx (j := p3_1) (v := (.int (f_a3_0 p3_1))) (by rw [e0]; exact Ar1.1) (State.isArrayOf_alike hZ.alike Ar1.2.1) Ar1.2.2 (inb_of Sz1 (own_ix0 hoff)) (Hh1 _ (own_ix0 hoff).1 (own_ix0 hoff).2) (g := (mkF m 17 #[.val (.ref a3_0), .val (.int p3_1), .val (.int (p3_1 + (4 : Int32))), .val (.long (-3750763034362895579 : Int64)), .second, .val (.int p3_1)] [(.int p3_1), (.ref a3_0), (.long (-3750763034362895579 : Int64))])) rfl rfl (hb hby d3_17) _ ?_
    show Steps p.tables e below (s₁.setTop (mkF m 18 #[.val (.ref a3_0), .val (.int p3_1), .val (.int (p3_1 + (4 : Int32))), .val (.long (-3750763034362895579 : Int64)), .second, .val (.int p3_1)] [(.int (f_a3_0 p3_1)), (.long (-3750763034362895579 : Int64))])) _
    refine XS.sipush X0.here hx rfl (hb hby d3_18) ?_
    show Steps p.tables e below (s₁.setTop (mkF m 21 #[.val (.ref a3_0), .val (.int p3_1), .val (.int (p3_1 + (4 : Int32))), .val (.long (-3750763034362895579 : Int64)), .second, .val (.int p3_1)] [(.int (255 : Int32)), (.int (f_a3_0 p3_1)), (.long (-3750763034362895579 : Int64))])) _
    refine XS.iand X0.here hx rfl (hb hby d3_21) rfl ?_
    show Steps p.tables e below (s₁.setTop (mkF m 22 #[.val (.ref a3_0), .val (.int p3_1), .val (.int (p3_1 + (4 : Int32))), .val (.long (-3750763034362895579 : Int64)), .second, .val (.int p3_1)] [(.int ((f_a3_0 p3_1) &&& (255 : Int32))), (.long (-3750763034362895579 : Int64))])) _
    refine XS.i2l X0.here hx rfl (hb hby d3_22) rfl ?_
    show Steps p.tables e below (s₁.setTop (mkF m 23 #[.val (.ref a3_0), .val (.int p3_1), .val (.int (p3_1 + (4 : Int32))), .val (.long (-3750763034362895579 : Int64)), .second, .val (.int p3_1)] [(.long (((f_a3_0 p3_1) &&& (255 : Int32)).toInt64)), (.long (-3750763034362895579 : Int64))])) _
    refine XS.lxor X0.here hx rfl (hb hby d3_23) rfl ?_
    show Steps p.tables e below (s₁.setTop (mkF m 24 #[.val (.ref a3_0), .val (.int p3_1), .val (.int (p3_1 + (4 : Int32))), .val (.long (-3750763034362895579 : Int64)), .second, .val (.int p3_1)] [(.long ((-3750763034362895579 : Int64) ^^^ (((f_a3_0 p3_1) &&& (255 : Int32)).toInt64)))])) _
    refine X0.ldc2Long hx hown (mvT hZ (ow14 hw)) (g := (mkF m 24 #[.val (.ref a3_0), .val (.int p3_1), .val (.int (p3_1 + (4 : Int32))), .val (.long (-3750763034362895579 : Int64)), .second, .val (.int p3_1)] [(.long ((-3750763034362895579 : Int64) ^^^ (((f_a3_0 p3_1) &&& (255 : Int32)).toInt64)))])) rfl (hb hby d3_24) _ ?_
    show Steps p.tables e below (s₁.setTop (mkF m 27 #[.val (.ref a3_0), .val (.int p3_1), .val (.int (p3_1 + (4 : Int32))), .val (.long (-3750763034362895579 : Int64)), .second, .val (.int p3_1)] [(.long (1099511628211 : Int64)), (.long ((-3750763034362895579 : Int64) ^^^ (((f_a3_0 p3_1) &&& (255 : Int32)).toInt64)))])) _
    refine XS.lmul X0.here hx rfl (hb hby d3_27) rfl ?_
    show Steps p.tables e below (s₁.setTop (mkF m 28 #[.val (.ref a3_0), .val (.int p3_1), .val (.int (p3_1 + (4 : Int32))), .val (.long (-3750763034362895579 : Int64)), .second, .val (.int p3_1)] [(.long (((-3750763034362895579 : Int64) ^^^ (((f_a3_0 p3_1) &&& (255 : Int32)).toInt64)) * (1099511628211 : Int64)))])) _
    refine XS.lstoreN X0.here hx rfl (hb hby d3_28) rfl (l' := #[.val (.ref a3_0), .val (.int p3_1), .val (.int (p3_1 + (4 : Int32))), .val (.long (((-3750763034362895579 : Int64) ^^^ (((f_a3_0 p3_1) &&& (255 : Int32)).toInt64)) * (1099511628211 : Int64))), .second, .val (.int p3_1)]) rfl ?_
    show Steps p.tables e below (s₁.setTop (mkF m 29 #[.val (.ref a3_0), .val (.int p3_1), .val (.int (p3_1 + (4 : Int32))), .val (.long (((-3750763034362895579 : Int64) ^^^ (((f_a3_0 p3_1) &&& (255 : Int32)).toInt64)) * (1099511628211 : Int64))), .second, .val (.int p3_1)] [])) _
    rw [← hx2]
    show Steps p.tables e below (s₁.setTop (mkF m 29 #[.val (.ref a3_0), .val (.int p3_1), .val (.int (p3_1 + (4 : Int32))), .val (.long x2), .second, .val (.int p3_1)] [])) _
    refine XS.iinc X0.here hx rfl (hb hby d3_29) rfl (l' := #[.val (.ref a3_0), .val (.int p3_1), .val (.int (p3_1 + (4 : Int32))), .val (.long x2), .second, .val (.int (p3_1 + (1 : Int32)))]) rfl ?_
    show Steps p.tables e below (s₁.setTop (mkF m 32 #[.val (.ref a3_0), .val (.int p3_1), .val (.int (p3_1 + (4 : Int32))), .val (.long x2), .second, .val (.int (p3_1 + (1 : Int32)))] [])) _
    refine XS.goto X0.here hx rfl (pc0 := 32) (pc' := 7) rfl (hb hby d3_32) (by decide) (by decide) ?_
    show Steps p.tables e below (s₁.setTop (mkF m 7 #[.val (.ref a3_0), .val (.int p3_1), .val (.int (p3_1 + (4 : Int32))), .val (.long x2), .second, .val (.int (p3_1 + (1 : Int32)))] [])) _
    refine XS.iload X0.here hx rfl (hb hby d3_7) rfl ?_
    show Steps p.tables e below (s₁.setTop (mkF m 9 #[.val (.ref a3_0), .val (.int p3_1), .val (.int (p3_1 + (4 : Int32))), .val (.long x2), .second, .val (.int (p3_1 + (1 : Int32)))] [(.int (p3_1 + (1 : Int32)))])) _
    refine XS.iloadN X0.here hx rfl (hb hby d3_9) rfl ?_
    show Steps p.tables e below (s₁.setTop (mkF m 10 #[.val (.ref a3_0), .val (.int p3_1), .val (.int (p3_1 + (4 : Int32))), .val (.long x2), .second, .val (.int (p3_1 + (1 : Int32)))] [(.int (p3_1 + (4 : Int32))), (.int (p3_1 + (1 : Int32)))])) _
    refine XS.icmpNo X0.here hx rfl (hb hby d3_10) rfl (tlt (own_ltT hoff (c := (1 : Int32)) (d := (4 : Int32)) (by decide) (by decide) (by decide))).2.1 ?_
    show Steps p.tables e below (s₁.setTop (mkF m 13 #[.val (.ref a3_0), .val (.int p3_1), .val (.int (p3_1 + (4 : Int32))), .val (.long x2), .second, .val (.int (p3_1 + (1 : Int32)))] [])) _
    refine XS.lloadN X0.here hx rfl (hb hby d3_13) rfl ?_
    show Steps p.tables e below (s₁.setTop (mkF m 14 #[.val (.ref a3_0), .val (.int p3_1), .val (.int (p3_1 + (4 : Int32))), .val (.long x2), .second, .val (.int (p3_1 + (1 : Int32)))] [(.long x2)])) _
    refine XS.aloadN X0.here hx rfl (hb hby d3_14) rfl rfl ?_
    show Steps p.tables e below (s₁.setTop (mkF m 15 #[.val (.ref a3_0), .val (.int p3_1), .val (.int (p3_1 + (4 : Int32))), .val (.long x2), .second, .val (.int (p3_1 + (1 : Int32)))] [(.ref a3_0), (.long x2)])) _
    refine XS.iload X0.here hx rfl (hb hby d3_15) rfl ?_
    show Steps p.tables e below (s₁.setTop (mkF m 17 #[.val (.ref a3_0), .val (.int p3_1), .val (.int (p3_1 + (4 : Int32))), .val (.long x2), .second, .val (.int (p3_1 + (1 : Int32)))] [(.int (p3_1 + (1 : Int32))), (.ref a3_0), (.long x2)])) _
    refine X0.baloadBytes hx (j := (p3_1 + (1 : Int32))) (v := (.int (f_a3_0 (p3_1 + (1 : Int32))))) (by rw [e0]; exact Ar3.1) (State.isArrayOf_alike hZ.alike Ar3.2.1) Ar3.2.2 (inb_of Sz3 (own_ix hoff (c := (1 : Int32)) (by decide))) (Hh3 _ (own_ix hoff (c := (1 : Int32)) (by decide)).1 (own_ix hoff (c := (1 : Int32)) (by decide)).2) (g := (mkF m 17 #[.val (.ref a3_0), .val (.int p3_1), .val (.int (p3_1 + (4 : Int32))), .val (.long x2), .second, .val (.int (p3_1 + (1 : Int32)))] [(.int (p3_1 + (1 : Int32))), (.ref a3_0), (.long x2)])) rfl rfl (hb hby d3_17) _ ?_
    show Steps p.tables e below (s₁.setTop (mkF m 18 #[.val (.ref a3_0), .val (.int p3_1), .val (.int (p3_1 + (4 : Int32))), .val (.long x2), .second, .val (.int (p3_1 + (1 : Int32)))] [(.int (f_a3_0 (p3_1 + (1 : Int32)))), (.long x2)])) _
    refine XS.sipush X0.here hx rfl (hb hby d3_18) ?_
    show Steps p.tables e below (s₁.setTop (mkF m 21 #[.val (.ref a3_0), .val (.int p3_1), .val (.int (p3_1 + (4 : Int32))), .val (.long x2), .second, .val (.int (p3_1 + (1 : Int32)))] [(.int (255 : Int32)), (.int (f_a3_0 (p3_1 + (1 : Int32)))), (.long x2)])) _
    refine XS.iand X0.here hx rfl (hb hby d3_21) rfl ?_
    show Steps p.tables e below (s₁.setTop (mkF m 22 #[.val (.ref a3_0), .val (.int p3_1), .val (.int (p3_1 + (4 : Int32))), .val (.long x2), .second, .val (.int (p3_1 + (1 : Int32)))] [(.int ((f_a3_0 (p3_1 + (1 : Int32))) &&& (255 : Int32))), (.long x2)])) _
    refine XS.i2l X0.here hx rfl (hb hby d3_22) rfl ?_
    show Steps p.tables e below (s₁.setTop (mkF m 23 #[.val (.ref a3_0), .val (.int p3_1), .val (.int (p3_1 + (4 : Int32))), .val (.long x2), .second, .val (.int (p3_1 + (1 : Int32)))] [(.long (((f_a3_0 (p3_1 + (1 : Int32))) &&& (255 : Int32)).toInt64)), (.long x2)])) _
    refine XS.lxor X0.here hx rfl (hb hby d3_23) rfl ?_
    show Steps p.tables e below (s₁.setTop (mkF m 24 #[.val (.ref a3_0), .val (.int p3_1), .val (.int (p3_1 + (4 : Int32))), .val (.long x2), .second, .val (.int (p3_1 + (1 : Int32)))] [(.long (x2 ^^^ (((f_a3_0 (p3_1 + (1 : Int32))) &&& (255 : Int32)).toInt64)))])) _
    refine X0.ldc2Long hx hown (mvT hZ (ow14 hw)) (g := (mkF m 24 #[.val (.ref a3_0), .val (.int p3_1), .val (.int (p3_1 + (4 : Int32))), .val (.long x2), .second, .val (.int (p3_1 + (1 : Int32)))] [(.long (x2 ^^^ (((f_a3_0 (p3_1 + (1 : Int32))) &&& (255 : Int32)).toInt64)))])) rfl (hb hby d3_24) _ ?_
    show Steps p.tables e below (s₁.setTop (mkF m 27 #[.val (.ref a3_0), .val (.int p3_1), .val (.int (p3_1 + (4 : Int32))), .val (.long x2), .second, .val (.int (p3_1 + (1 : Int32)))] [(.long (1099511628211 : Int64)), (.long (x2 ^^^ (((f_a3_0 (p3_1 + (1 : Int32))) &&& (255 : Int32)).toInt64)))])) _
    refine XS.lmul X0.here hx rfl (hb hby d3_27) rfl ?_
    show Steps p.tables e below (s₁.setTop (mkF m 28 #[.val (.ref a3_0), .val (.int p3_1), .val (.int (p3_1 + (4 : Int32))), .val (.long x2), .second, .val (.int (p3_1 + (1 : Int32)))] [(.long ((x2 ^^^ (((f_a3_0 (p3_1 + (1 : Int32))) &&& (255 : Int32)).toInt64)) * (1099511628211 : Int64)))])) _
    refine XS.lstoreN X0.here hx rfl (hb hby d3_28) rfl (l' := #[.val (.ref a3_0), .val (.int p3_1), .val (.int (p3_1 + (4 : Int32))), .val (.long ((x2 ^^^ (((f_a3_0 (p3_1 + (1 : Int32))) &&& (255 : Int32)).toInt64)) * (1099511628211 : Int64))), .second, .val (.int (p3_1 + (1 : Int32)))]) rfl ?_
    show Steps p.tables e below (s₁.setTop (mkF m 29 #[.val (.ref a3_0), .val (.int p3_1), .val (.int (p3_1 + (4 : Int32))), .val (.long ((x2 ^^^ (((f_a3_0 (p3_1 + (1 : Int32))) &&& (255 : Int32)).toInt64)) * (1099511628211 : Int64))), .second, .val (.int (p3_1 + (1 : Int32)))] [])) _
    rw [← hx4]
    show Steps p.tables e below (s₁.setTop (mkF m 29 #[.val (.ref a3_0), .val (.int p3_1), .val (.int (p3_1 + (4 : Int32))), .val (.long x4), .second, .val (.int (p3_1 + (1 : Int32)))] [])) _
    refine XS.iinc X0.here hx rfl (hb hby d3_29) rfl (l' := #[.val (.ref a3_0), .val (.int p3_1), .val (.int (p3_1 + (4 : Int32))), .val (.long x4), .second, .val (.int ((p3_1 + (1 : Int32)) + (1 : Int32)))]) rfl ?_
    show Steps p.tables e below (s₁.setTop (mkF m 32 #[.val (.ref a3_0), .val (.int p3_1), .val (.int (p3_1 + (4 : Int32))), .val (.long x4), .second, .val (.int ((p3_1 + (1 : Int32)) + (1 : Int32)))] [])) _
    refine XS.goto X0.here hx rfl (pc0 := 32) (pc' := 7) rfl (hb hby d3_32) (by decide) (by decide) ?_
    show Steps p.tables e below (s₁.setTop (mkF m 7 #[.val (.ref a3_0), .val (.int p3_1), .val (.int (p3_1 + (4 : Int32))), .val (.long x4), .second, .val (.int ((p3_1 + (1 : Int32)) + (1 : Int32)))] [])) _
    rw [own_addc p3_1 (1 : Int32) (1 : Int32) (2 : Int32) rfl]
    show Steps p.tables e below (s₁.setTop (mkF m 7 #[.val (.ref a3_0), .val (.int p3_1), .val (.int (p3_1 + (4 : Int32))), .val (.long x4), .second, .val (.int (p3_1 + (2 : Int32)))] [])) _
    refine XS.iload X0.here hx rfl (hb hby d3_7) rfl ?_
    show Steps p.tables e below (s₁.setTop (mkF m 9 #[.val (.ref a3_0), .val (.int p3_1), .val (.int (p3_1 + (4 : Int32))), .val (.long x4), .second, .val (.int (p3_1 + (2 : Int32)))] [(.int (p3_1 + (2 : Int32)))])) _
    refine XS.iloadN X0.here hx rfl (hb hby d3_9) rfl ?_
    show Steps p.tables e below (s₁.setTop (mkF m 10 #[.val (.ref a3_0), .val (.int p3_1), .val (.int (p3_1 + (4 : Int32))), .val (.long x4), .second, .val (.int (p3_1 + (2 : Int32)))] [(.int (p3_1 + (4 : Int32))), (.int (p3_1 + (2 : Int32)))])) _
    refine XS.icmpNo X0.here hx rfl (hb hby d3_10) rfl (tlt (own_ltT hoff (c := (2 : Int32)) (d := (4 : Int32)) (by decide) (by decide) (by decide))).2.1 ?_
    show Steps p.tables e below (s₁.setTop (mkF m 13 #[.val (.ref a3_0), .val (.int p3_1), .val (.int (p3_1 + (4 : Int32))), .val (.long x4), .second, .val (.int (p3_1 + (2 : Int32)))] [])) _
    refine XS.lloadN X0.here hx rfl (hb hby d3_13) rfl ?_
    show Steps p.tables e below (s₁.setTop (mkF m 14 #[.val (.ref a3_0), .val (.int p3_1), .val (.int (p3_1 + (4 : Int32))), .val (.long x4), .second, .val (.int (p3_1 + (2 : Int32)))] [(.long x4)])) _
    refine XS.aloadN X0.here hx rfl (hb hby d3_14) rfl rfl ?_
    show Steps p.tables e below (s₁.setTop (mkF m 15 #[.val (.ref a3_0), .val (.int p3_1), .val (.int (p3_1 + (4 : Int32))), .val (.long x4), .second, .val (.int (p3_1 + (2 : Int32)))] [(.ref a3_0), (.long x4)])) _
    refine XS.iload X0.here hx rfl (hb hby d3_15) rfl ?_
    show Steps p.tables e below (s₁.setTop (mkF m 17 #[.val (.ref a3_0), .val (.int p3_1), .val (.int (p3_1 + (4 : Int32))), .val (.long x4), .second, .val (.int (p3_1 + (2 : Int32)))] [(.int (p3_1 + (2 : Int32))), (.ref a3_0), (.long x4)])) _
    refine X0.baloadBytes hx (j := (p3_1 + (2 : Int32))) (v := (.int (f_a3_0 (p3_1 + (2 : Int32))))) (by rw [e0]; exact Ar5.1) (State.isArrayOf_alike hZ.alike Ar5.2.1) Ar5.2.2 (inb_of Sz5 (own_ix hoff (c := (2 : Int32)) (by decide))) (Hh5 _ (own_ix hoff (c := (2 : Int32)) (by decide)).1 (own_ix hoff (c := (2 : Int32)) (by decide)).2) (g := (mkF m 17 #[.val (.ref a3_0), .val (.int p3_1), .val (.int (p3_1 + (4 : Int32))), .val (.long x4), .second, .val (.int (p3_1 + (2 : Int32)))] [(.int (p3_1 + (2 : Int32))), (.ref a3_0), (.long x4)])) rfl rfl (hb hby d3_17) _ ?_
    show Steps p.tables e below (s₁.setTop (mkF m 18 #[.val (.ref a3_0), .val (.int p3_1), .val (.int (p3_1 + (4 : Int32))), .val (.long x4), .second, .val (.int (p3_1 + (2 : Int32)))] [(.int (f_a3_0 (p3_1 + (2 : Int32)))), (.long x4)])) _
    refine XS.sipush X0.here hx rfl (hb hby d3_18) ?_
    show Steps p.tables e below (s₁.setTop (mkF m 21 #[.val (.ref a3_0), .val (.int p3_1), .val (.int (p3_1 + (4 : Int32))), .val (.long x4), .second, .val (.int (p3_1 + (2 : Int32)))] [(.int (255 : Int32)), (.int (f_a3_0 (p3_1 + (2 : Int32)))), (.long x4)])) _
    refine XS.iand X0.here hx rfl (hb hby d3_21) rfl ?_
    show Steps p.tables e below (s₁.setTop (mkF m 22 #[.val (.ref a3_0), .val (.int p3_1), .val (.int (p3_1 + (4 : Int32))), .val (.long x4), .second, .val (.int (p3_1 + (2 : Int32)))] [(.int ((f_a3_0 (p3_1 + (2 : Int32))) &&& (255 : Int32))), (.long x4)])) _
    refine XS.i2l X0.here hx rfl (hb hby d3_22) rfl ?_
    show Steps p.tables e below (s₁.setTop (mkF m 23 #[.val (.ref a3_0), .val (.int p3_1), .val (.int (p3_1 + (4 : Int32))), .val (.long x4), .second, .val (.int (p3_1 + (2 : Int32)))] [(.long (((f_a3_0 (p3_1 + (2 : Int32))) &&& (255 : Int32)).toInt64)), (.long x4)])) _
    refine XS.lxor X0.here hx rfl (hb hby d3_23) rfl ?_
    show Steps p.tables e below (s₁.setTop (mkF m 24 #[.val (.ref a3_0), .val (.int p3_1), .val (.int (p3_1 + (4 : Int32))), .val (.long x4), .second, .val (.int (p3_1 + (2 : Int32)))] [(.long (x4 ^^^ (((f_a3_0 (p3_1 + (2 : Int32))) &&& (255 : Int32)).toInt64)))])) _
    refine X0.ldc2Long hx hown (mvT hZ (ow14 hw)) (g := (mkF m 24 #[.val (.ref a3_0), .val (.int p3_1), .val (.int (p3_1 + (4 : Int32))), .val (.long x4), .second, .val (.int (p3_1 + (2 : Int32)))] [(.long (x4 ^^^ (((f_a3_0 (p3_1 + (2 : Int32))) &&& (255 : Int32)).toInt64)))])) rfl (hb hby d3_24) _ ?_
    show Steps p.tables e below (s₁.setTop (mkF m 27 #[.val (.ref a3_0), .val (.int p3_1), .val (.int (p3_1 + (4 : Int32))), .val (.long x4), .second, .val (.int (p3_1 + (2 : Int32)))] [(.long (1099511628211 : Int64)), (.long (x4 ^^^ (((f_a3_0 (p3_1 + (2 : Int32))) &&& (255 : Int32)).toInt64)))])) _
    refine XS.lmul X0.here hx rfl (hb hby d3_27) rfl ?_
    show Steps p.tables e below (s₁.setTop (mkF m 28 #[.val (.ref a3_0), .val (.int p3_1), .val (.int (p3_1 + (4 : Int32))), .val (.long x4), .second, .val (.int (p3_1 + (2 : Int32)))] [(.long ((x4 ^^^ (((f_a3_0 (p3_1 + (2 : Int32))) &&& (255 : Int32)).toInt64)) * (1099511628211 : Int64)))])) _
    refine XS.lstoreN X0.here hx rfl (hb hby d3_28) rfl (l' := #[.val (.ref a3_0), .val (.int p3_1), .val (.int (p3_1 + (4 : Int32))), .val (.long ((x4 ^^^ (((f_a3_0 (p3_1 + (2 : Int32))) &&& (255 : Int32)).toInt64)) * (1099511628211 : Int64))), .second, .val (.int (p3_1 + (2 : Int32)))]) rfl ?_
    show Steps p.tables e below (s₁.setTop (mkF m 29 #[.val (.ref a3_0), .val (.int p3_1), .val (.int (p3_1 + (4 : Int32))), .val (.long ((x4 ^^^ (((f_a3_0 (p3_1 + (2 : Int32))) &&& (255 : Int32)).toInt64)) * (1099511628211 : Int64))), .second, .val (.int (p3_1 + (2 : Int32)))] [])) _
    rw [← hx6]
    show Steps p.tables e below (s₁.setTop (mkF m 29 #[.val (.ref a3_0), .val (.int p3_1), .val (.int (p3_1 + (4 : Int32))), .val (.long x6), .second, .val (.int (p3_1 + (2 : Int32)))] [])) _
    refine XS.iinc X0.here hx rfl (hb hby d3_29) rfl (l' := #[.val (.ref a3_0), .val (.int p3_1), .val (.int (p3_1 + (4 : Int32))), .val (.long x6), .second, .val (.int ((p3_1 + (2 : Int32)) + (1 : Int32)))]) rfl ?_
    show Steps p.tables e below (s₁.setTop (mkF m 32 #[.val (.ref a3_0), .val (.int p3_1), .val (.int (p3_1 + (4 : Int32))), .val (.long x6), .second, .val (.int ((p3_1 + (2 : Int32)) + (1 : Int32)))] [])) _
    refine XS.goto X0.here hx rfl (pc0 := 32) (pc' := 7) rfl (hb hby d3_32) (by decide) (by decide) ?_
    show Steps p.tables e below (s₁.setTop (mkF m 7 #[.val (.ref a3_0), .val (.int p3_1), .val (.int (p3_1 + (4 : Int32))), .val (.long x6), .second, .val (.int ((p3_1 + (2 : Int32)) + (1 : Int32)))] [])) _
    rw [own_addc p3_1 (2 : Int32) (1 : Int32) (3 : Int32) rfl]
    show Steps p.tables e below (s₁.setTop (mkF m 7 #[.val (.ref a3_0), .val (.int p3_1), .val (.int (p3_1 + (4 : Int32))), .val (.long x6), .second, .val (.int (p3_1 + (3 : Int32)))] [])) _
    refine XS.iload X0.here hx rfl (hb hby d3_7) rfl ?_
    show Steps p.tables e below (s₁.setTop (mkF m 9 #[.val (.ref a3_0), .val (.int p3_1), .val (.int (p3_1 + (4 : Int32))), .val (.long x6), .second, .val (.int (p3_1 + (3 : Int32)))] [(.int (p3_1 + (3 : Int32)))])) _
    refine XS.iloadN X0.here hx rfl (hb hby d3_9) rfl ?_
    show Steps p.tables e below (s₁.setTop (mkF m 10 #[.val (.ref a3_0), .val (.int p3_1), .val (.int (p3_1 + (4 : Int32))), .val (.long x6), .second, .val (.int (p3_1 + (3 : Int32)))] [(.int (p3_1 + (4 : Int32))), (.int (p3_1 + (3 : Int32)))])) _
    refine XS.icmpNo X0.here hx rfl (hb hby d3_10) rfl (tlt (own_ltT hoff (c := (3 : Int32)) (d := (4 : Int32)) (by decide) (by decide) (by decide))).2.1 ?_
    show Steps p.tables e below (s₁.setTop (mkF m 13 #[.val (.ref a3_0), .val (.int p3_1), .val (.int (p3_1 + (4 : Int32))), .val (.long x6), .second, .val (.int (p3_1 + (3 : Int32)))] [])) _
    refine XS.lloadN X0.here hx rfl (hb hby d3_13) rfl ?_
    show Steps p.tables e below (s₁.setTop (mkF m 14 #[.val (.ref a3_0), .val (.int p3_1), .val (.int (p3_1 + (4 : Int32))), .val (.long x6), .second, .val (.int (p3_1 + (3 : Int32)))] [(.long x6)])) _
    refine XS.aloadN X0.here hx rfl (hb hby d3_14) rfl rfl ?_
    show Steps p.tables e below (s₁.setTop (mkF m 15 #[.val (.ref a3_0), .val (.int p3_1), .val (.int (p3_1 + (4 : Int32))), .val (.long x6), .second, .val (.int (p3_1 + (3 : Int32)))] [(.ref a3_0), (.long x6)])) _
    refine XS.iload X0.here hx rfl (hb hby d3_15) rfl ?_
    show Steps p.tables e below (s₁.setTop (mkF m 17 #[.val (.ref a3_0), .val (.int p3_1), .val (.int (p3_1 + (4 : Int32))), .val (.long x6), .second, .val (.int (p3_1 + (3 : Int32)))] [(.int (p3_1 + (3 : Int32))), (.ref a3_0), (.long x6)])) _
    refine X0.baloadBytes hx (j := (p3_1 + (3 : Int32))) (v := (.int (f_a3_0 (p3_1 + (3 : Int32))))) (by rw [e0]; exact Ar7.1) (State.isArrayOf_alike hZ.alike Ar7.2.1) Ar7.2.2 (inb_of Sz7 (own_ix hoff (c := (3 : Int32)) (by decide))) (Hh7 _ (own_ix hoff (c := (3 : Int32)) (by decide)).1 (own_ix hoff (c := (3 : Int32)) (by decide)).2) (g := (mkF m 17 #[.val (.ref a3_0), .val (.int p3_1), .val (.int (p3_1 + (4 : Int32))), .val (.long x6), .second, .val (.int (p3_1 + (3 : Int32)))] [(.int (p3_1 + (3 : Int32))), (.ref a3_0), (.long x6)])) rfl rfl (hb hby d3_17) _ ?_
    show Steps p.tables e below (s₁.setTop (mkF m 18 #[.val (.ref a3_0), .val (.int p3_1), .val (.int (p3_1 + (4 : Int32))), .val (.long x6), .second, .val (.int (p3_1 + (3 : Int32)))] [(.int (f_a3_0 (p3_1 + (3 : Int32)))), (.long x6)])) _
    refine XS.sipush X0.here hx rfl (hb hby d3_18) ?_
    show Steps p.tables e below (s₁.setTop (mkF m 21 #[.val (.ref a3_0), .val (.int p3_1), .val (.int (p3_1 + (4 : Int32))), .val (.long x6), .second, .val (.int (p3_1 + (3 : Int32)))] [(.int (255 : Int32)), (.int (f_a3_0 (p3_1 + (3 : Int32)))), (.long x6)])) _
    refine XS.iand X0.here hx rfl (hb hby d3_21) rfl ?_
    show Steps p.tables e below (s₁.setTop (mkF m 22 #[.val (.ref a3_0), .val (.int p3_1), .val (.int (p3_1 + (4 : Int32))), .val (.long x6), .second, .val (.int (p3_1 + (3 : Int32)))] [(.int ((f_a3_0 (p3_1 + (3 : Int32))) &&& (255 : Int32))), (.long x6)])) _
    refine XS.i2l X0.here hx rfl (hb hby d3_22) rfl ?_
    show Steps p.tables e below (s₁.setTop (mkF m 23 #[.val (.ref a3_0), .val (.int p3_1), .val (.int (p3_1 + (4 : Int32))), .val (.long x6), .second, .val (.int (p3_1 + (3 : Int32)))] [(.long (((f_a3_0 (p3_1 + (3 : Int32))) &&& (255 : Int32)).toInt64)), (.long x6)])) _
    refine XS.lxor X0.here hx rfl (hb hby d3_23) rfl ?_
    show Steps p.tables e below (s₁.setTop (mkF m 24 #[.val (.ref a3_0), .val (.int p3_1), .val (.int (p3_1 + (4 : Int32))), .val (.long x6), .second, .val (.int (p3_1 + (3 : Int32)))] [(.long (x6 ^^^ (((f_a3_0 (p3_1 + (3 : Int32))) &&& (255 : Int32)).toInt64)))])) _
    refine X0.ldc2Long hx hown (mvT hZ (ow14 hw)) (g := (mkF m 24 #[.val (.ref a3_0), .val (.int p3_1), .val (.int (p3_1 + (4 : Int32))), .val (.long x6), .second, .val (.int (p3_1 + (3 : Int32)))] [(.long (x6 ^^^ (((f_a3_0 (p3_1 + (3 : Int32))) &&& (255 : Int32)).toInt64)))])) rfl (hb hby d3_24) _ ?_
    show Steps p.tables e below (s₁.setTop (mkF m 27 #[.val (.ref a3_0), .val (.int p3_1), .val (.int (p3_1 + (4 : Int32))), .val (.long x6), .second, .val (.int (p3_1 + (3 : Int32)))] [(.long (1099511628211 : Int64)), (.long (x6 ^^^ (((f_a3_0 (p3_1 + (3 : Int32))) &&& (255 : Int32)).toInt64)))])) _
    refine XS.lmul X0.here hx rfl (hb hby d3_27) rfl ?_
    show Steps p.tables e below (s₁.setTop (mkF m 28 #[.val (.ref a3_0), .val (.int p3_1), .val (.int (p3_1 + (4 : Int32))), .val (.long x6), .second, .val (.int (p3_1 + (3 : Int32)))] [(.long ((x6 ^^^ (((f_a3_0 (p3_1 + (3 : Int32))) &&& (255 : Int32)).toInt64)) * (1099511628211 : Int64)))])) _
    refine XS.lstoreN X0.here hx rfl (hb hby d3_28) rfl (l' := #[.val (.ref a3_0), .val (.int p3_1), .val (.int (p3_1 + (4 : Int32))), .val (.long ((x6 ^^^ (((f_a3_0 (p3_1 + (3 : Int32))) &&& (255 : Int32)).toInt64)) * (1099511628211 : Int64))), .second, .val (.int (p3_1 + (3 : Int32)))]) rfl ?_
    show Steps p.tables e below (s₁.setTop (mkF m 29 #[.val (.ref a3_0), .val (.int p3_1), .val (.int (p3_1 + (4 : Int32))), .val (.long ((x6 ^^^ (((f_a3_0 (p3_1 + (3 : Int32))) &&& (255 : Int32)).toInt64)) * (1099511628211 : Int64))), .second, .val (.int (p3_1 + (3 : Int32)))] [])) _
    rw [← hx8]
    show Steps p.tables e below (s₁.setTop (mkF m 29 #[.val (.ref a3_0), .val (.int p3_1), .val (.int (p3_1 + (4 : Int32))), .val (.long x8), .second, .val (.int (p3_1 + (3 : Int32)))] [])) _
    refine XS.iinc X0.here hx rfl (hb hby d3_29) rfl (l' := #[.val (.ref a3_0), .val (.int p3_1), .val (.int (p3_1 + (4 : Int32))), .val (.long x8), .second, .val (.int ((p3_1 + (3 : Int32)) + (1 : Int32)))]) rfl ?_
    show Steps p.tables e below (s₁.setTop (mkF m 32 #[.val (.ref a3_0), .val (.int p3_1), .val (.int (p3_1 + (4 : Int32))), .val (.long x8), .second, .val (.int ((p3_1 + (3 : Int32)) + (1 : Int32)))] [])) _
    refine XS.goto X0.here hx rfl (pc0 := 32) (pc' := 7) rfl (hb hby d3_32) (by decide) (by decide) ?_
    show Steps p.tables e below (s₁.setTop (mkF m 7 #[.val (.ref a3_0), .val (.int p3_1), .val (.int (p3_1 + (4 : Int32))), .val (.long x8), .second, .val (.int ((p3_1 + (3 : Int32)) + (1 : Int32)))] [])) _
    rw [own_addc p3_1 (3 : Int32) (1 : Int32) (4 : Int32) rfl]
    show Steps p.tables e below (s₁.setTop (mkF m 7 #[.val (.ref a3_0), .val (.int p3_1), .val (.int (p3_1 + (4 : Int32))), .val (.long x8), .second, .val (.int (p3_1 + (4 : Int32)))] [])) _
    refine XS.iload X0.here hx rfl (hb hby d3_7) rfl ?_
    show Steps p.tables e below (s₁.setTop (mkF m 9 #[.val (.ref a3_0), .val (.int p3_1), .val (.int (p3_1 + (4 : Int32))), .val (.long x8), .second, .val (.int (p3_1 + (4 : Int32)))] [(.int (p3_1 + (4 : Int32)))])) _
    refine XS.iloadN X0.here hx rfl (hb hby d3_9) rfl ?_
    show Steps p.tables e below (s₁.setTop (mkF m 10 #[.val (.ref a3_0), .val (.int p3_1), .val (.int (p3_1 + (4 : Int32))), .val (.long x8), .second, .val (.int (p3_1 + (4 : Int32)))] [(.int (p3_1 + (4 : Int32))), (.int (p3_1 + (4 : Int32)))])) _
    refine XS.icmpYes X0.here hx rfl (pc0 := 10) (pc' := 35) rfl (hb hby d3_10) rfl (flt (own_ltF hoff (c := (4 : Int32)) (d := (4 : Int32)) (by decide) (by decide) (by decide))).2.1 (by decide) (by decide) ?_
    show Steps p.tables e below (s₁.setTop (mkF m 35 #[.val (.ref a3_0), .val (.int p3_1), .val (.int (p3_1 + (4 : Int32))), .val (.long x8), .second, .val (.int (p3_1 + (4 : Int32)))] [])) _
    refine XS.lloadN X0.here hx rfl (hb hby d3_35) rfl ?_
    show Steps p.tables e below (s₁.setTop (mkF m 36 #[.val (.ref a3_0), .val (.int p3_1), .val (.int (p3_1 + (4 : Int32))), .val (.long x8), .second, .val (.int (p3_1 + (4 : Int32)))] [(.long x8)])) _
    refine XS.lloadN X0.here hx rfl (hb hby d3_36) rfl ?_
    show Steps p.tables e below (s₁.setTop (mkF m 37 #[.val (.ref a3_0), .val (.int p3_1), .val (.int (p3_1 + (4 : Int32))), .val (.long x8), .second, .val (.int (p3_1 + (4 : Int32)))] [(.long x8), (.long x8)])) _
    refine XS.bipush X0.here hx rfl (hb hby d3_37) ?_
    show Steps p.tables e below (s₁.setTop (mkF m 39 #[.val (.ref a3_0), .val (.int p3_1), .val (.int (p3_1 + (4 : Int32))), .val (.long x8), .second, .val (.int (p3_1 + (4 : Int32)))] [(.int (33 : Int32)), (.long x8), (.long x8)])) _
    refine XS.lushr X0.here hx rfl (hb hby d3_39) rfl ?_
    show Steps p.tables e below (s₁.setTop (mkF m 40 #[.val (.ref a3_0), .val (.int p3_1), .val (.int (p3_1 + (4 : Int32))), .val (.long x8), .second, .val (.int (p3_1 + (4 : Int32)))] [(.long ((x8.toUInt64 >>> ((33 : Int32) &&& 0x3f).toInt64.toUInt64).toInt64)), (.long x8)])) _
    refine XS.lxor X0.here hx rfl (hb hby d3_40) rfl ?_
    show Steps p.tables e below (s₁.setTop (mkF m 41 #[.val (.ref a3_0), .val (.int p3_1), .val (.int (p3_1 + (4 : Int32))), .val (.long x8), .second, .val (.int (p3_1 + (4 : Int32)))] [(.long (x8 ^^^ ((x8.toUInt64 >>> ((33 : Int32) &&& 0x3f).toInt64.toUInt64).toInt64)))])) _
    refine XS.lstoreN X0.here hx rfl (hb hby d3_41) rfl (l' := #[.val (.ref a3_0), .val (.int p3_1), .val (.int (p3_1 + (4 : Int32))), .val (.long (x8 ^^^ ((x8.toUInt64 >>> ((33 : Int32) &&& 0x3f).toInt64.toUInt64).toInt64))), .second, .val (.int (p3_1 + (4 : Int32)))]) rfl ?_
    show Steps p.tables e below (s₁.setTop (mkF m 42 #[.val (.ref a3_0), .val (.int p3_1), .val (.int (p3_1 + (4 : Int32))), .val (.long (x8 ^^^ ((x8.toUInt64 >>> ((33 : Int32) &&& 0x3f).toInt64.toUInt64).toInt64))), .second, .val (.int (p3_1 + (4 : Int32)))] [])) _
    rw [← hx9]
    show Steps p.tables e below (s₁.setTop (mkF m 42 #[.val (.ref a3_0), .val (.int p3_1), .val (.int (p3_1 + (4 : Int32))), .val (.long x9), .second, .val (.int (p3_1 + (4 : Int32)))] [])) _
    refine XS.lloadN X0.here hx rfl (hb hby d3_42) rfl ?_
    show Steps p.tables e below (s₁.setTop (mkF m 43 #[.val (.ref a3_0), .val (.int p3_1), .val (.int (p3_1 + (4 : Int32))), .val (.long x9), .second, .val (.int (p3_1 + (4 : Int32)))] [(.long x9)])) _
    refine X0.ldc2Long hx hown (mvT hZ (ow15 hw)) (g := (mkF m 43 #[.val (.ref a3_0), .val (.int p3_1), .val (.int (p3_1 + (4 : Int32))), .val (.long x9), .second, .val (.int (p3_1 + (4 : Int32)))] [(.long x9)])) rfl (hb hby d3_43) _ ?_
    show Steps p.tables e below (s₁.setTop (mkF m 46 #[.val (.ref a3_0), .val (.int p3_1), .val (.int (p3_1 + (4 : Int32))), .val (.long x9), .second, .val (.int (p3_1 + (4 : Int32)))] [(.long (-49064778989728563 : Int64)), (.long x9)])) _
    refine XS.lmul X0.here hx rfl (hb hby d3_46) rfl ?_
    show Steps p.tables e below (s₁.setTop (mkF m 47 #[.val (.ref a3_0), .val (.int p3_1), .val (.int (p3_1 + (4 : Int32))), .val (.long x9), .second, .val (.int (p3_1 + (4 : Int32)))] [(.long (x9 * (-49064778989728563 : Int64)))])) _
    refine XS.lstoreN X0.here hx rfl (hb hby d3_47) rfl (l' := #[.val (.ref a3_0), .val (.int p3_1), .val (.int (p3_1 + (4 : Int32))), .val (.long (x9 * (-49064778989728563 : Int64))), .second, .val (.int (p3_1 + (4 : Int32)))]) rfl ?_
    show Steps p.tables e below (s₁.setTop (mkF m 48 #[.val (.ref a3_0), .val (.int p3_1), .val (.int (p3_1 + (4 : Int32))), .val (.long (x9 * (-49064778989728563 : Int64))), .second, .val (.int (p3_1 + (4 : Int32)))] [])) _
    rw [← hx10]
    show Steps p.tables e below (s₁.setTop (mkF m 48 #[.val (.ref a3_0), .val (.int p3_1), .val (.int (p3_1 + (4 : Int32))), .val (.long x10), .second, .val (.int (p3_1 + (4 : Int32)))] [])) _
    refine XS.lloadN X0.here hx rfl (hb hby d3_48) rfl ?_
    show Steps p.tables e below (s₁.setTop (mkF m 49 #[.val (.ref a3_0), .val (.int p3_1), .val (.int (p3_1 + (4 : Int32))), .val (.long x10), .second, .val (.int (p3_1 + (4 : Int32)))] [(.long x10)])) _
    refine XS.lloadN X0.here hx rfl (hb hby d3_49) rfl ?_
    show Steps p.tables e below (s₁.setTop (mkF m 50 #[.val (.ref a3_0), .val (.int p3_1), .val (.int (p3_1 + (4 : Int32))), .val (.long x10), .second, .val (.int (p3_1 + (4 : Int32)))] [(.long x10), (.long x10)])) _
    refine XS.bipush X0.here hx rfl (hb hby d3_50) ?_
    show Steps p.tables e below (s₁.setTop (mkF m 52 #[.val (.ref a3_0), .val (.int p3_1), .val (.int (p3_1 + (4 : Int32))), .val (.long x10), .second, .val (.int (p3_1 + (4 : Int32)))] [(.int (33 : Int32)), (.long x10), (.long x10)])) _
    refine XS.lushr X0.here hx rfl (hb hby d3_52) rfl ?_
    show Steps p.tables e below (s₁.setTop (mkF m 53 #[.val (.ref a3_0), .val (.int p3_1), .val (.int (p3_1 + (4 : Int32))), .val (.long x10), .second, .val (.int (p3_1 + (4 : Int32)))] [(.long ((x10.toUInt64 >>> ((33 : Int32) &&& 0x3f).toInt64.toUInt64).toInt64)), (.long x10)])) _
    refine XS.lxor X0.here hx rfl (hb hby d3_53) rfl ?_
    show Steps p.tables e below (s₁.setTop (mkF m 54 #[.val (.ref a3_0), .val (.int p3_1), .val (.int (p3_1 + (4 : Int32))), .val (.long x10), .second, .val (.int (p3_1 + (4 : Int32)))] [(.long (x10 ^^^ ((x10.toUInt64 >>> ((33 : Int32) &&& 0x3f).toInt64.toUInt64).toInt64)))])) _
    refine XS.lstoreN X0.here hx rfl (hb hby d3_54) rfl (l' := #[.val (.ref a3_0), .val (.int p3_1), .val (.int (p3_1 + (4 : Int32))), .val (.long (x10 ^^^ ((x10.toUInt64 >>> ((33 : Int32) &&& 0x3f).toInt64.toUInt64).toInt64))), .second, .val (.int (p3_1 + (4 : Int32)))]) rfl ?_
    show Steps p.tables e below (s₁.setTop (mkF m 55 #[.val (.ref a3_0), .val (.int p3_1), .val (.int (p3_1 + (4 : Int32))), .val (.long (x10 ^^^ ((x10.toUInt64 >>> ((33 : Int32) &&& 0x3f).toInt64.toUInt64).toInt64))), .second, .val (.int (p3_1 + (4 : Int32)))] [])) _
    rw [← hx11]
    show Steps p.tables e below (s₁.setTop (mkF m 55 #[.val (.ref a3_0), .val (.int p3_1), .val (.int (p3_1 + (4 : Int32))), .val (.long x11), .second, .val (.int (p3_1 + (4 : Int32)))] [])) _
    refine XS.lloadN X0.here hx rfl (hb hby d3_55) rfl ?_
    show Steps p.tables e below (s₁.setTop (mkF m 56 #[.val (.ref a3_0), .val (.int p3_1), .val (.int (p3_1 + (4 : Int32))), .val (.long x11), .second, .val (.int (p3_1 + (4 : Int32)))] [(.long x11)])) _
    refine X0.ldc2Long hx hown (mvT hZ (ow16 hw)) (g := (mkF m 56 #[.val (.ref a3_0), .val (.int p3_1), .val (.int (p3_1 + (4 : Int32))), .val (.long x11), .second, .val (.int (p3_1 + (4 : Int32)))] [(.long x11)])) rfl (hb hby d3_56) _ ?_
    show Steps p.tables e below (s₁.setTop (mkF m 59 #[.val (.ref a3_0), .val (.int p3_1), .val (.int (p3_1 + (4 : Int32))), .val (.long x11), .second, .val (.int (p3_1 + (4 : Int32)))] [(.long (-4265267296055464877 : Int64)), (.long x11)])) _
    refine XS.lmul X0.here hx rfl (hb hby d3_59) rfl ?_
    show Steps p.tables e below (s₁.setTop (mkF m 60 #[.val (.ref a3_0), .val (.int p3_1), .val (.int (p3_1 + (4 : Int32))), .val (.long x11), .second, .val (.int (p3_1 + (4 : Int32)))] [(.long (x11 * (-4265267296055464877 : Int64)))])) _
    refine XS.lstoreN X0.here hx rfl (hb hby d3_60) rfl (l' := #[.val (.ref a3_0), .val (.int p3_1), .val (.int (p3_1 + (4 : Int32))), .val (.long (x11 * (-4265267296055464877 : Int64))), .second, .val (.int (p3_1 + (4 : Int32)))]) rfl ?_
    show Steps p.tables e below (s₁.setTop (mkF m 61 #[.val (.ref a3_0), .val (.int p3_1), .val (.int (p3_1 + (4 : Int32))), .val (.long (x11 * (-4265267296055464877 : Int64))), .second, .val (.int (p3_1 + (4 : Int32)))] [])) _
    rw [← hx12]
    show Steps p.tables e below (s₁.setTop (mkF m 61 #[.val (.ref a3_0), .val (.int p3_1), .val (.int (p3_1 + (4 : Int32))), .val (.long x12), .second, .val (.int (p3_1 + (4 : Int32)))] [])) _
    refine XS.lloadN X0.here hx rfl (hb hby d3_61) rfl ?_
    show Steps p.tables e below (s₁.setTop (mkF m 62 #[.val (.ref a3_0), .val (.int p3_1), .val (.int (p3_1 + (4 : Int32))), .val (.long x12), .second, .val (.int (p3_1 + (4 : Int32)))] [(.long x12)])) _
    refine XS.lloadN X0.here hx rfl (hb hby d3_62) rfl ?_
    show Steps p.tables e below (s₁.setTop (mkF m 63 #[.val (.ref a3_0), .val (.int p3_1), .val (.int (p3_1 + (4 : Int32))), .val (.long x12), .second, .val (.int (p3_1 + (4 : Int32)))] [(.long x12), (.long x12)])) _
    refine XS.bipush X0.here hx rfl (hb hby d3_63) ?_
    show Steps p.tables e below (s₁.setTop (mkF m 65 #[.val (.ref a3_0), .val (.int p3_1), .val (.int (p3_1 + (4 : Int32))), .val (.long x12), .second, .val (.int (p3_1 + (4 : Int32)))] [(.int (33 : Int32)), (.long x12), (.long x12)])) _
    refine XS.lushr X0.here hx rfl (hb hby d3_65) rfl ?_
    show Steps p.tables e below (s₁.setTop (mkF m 66 #[.val (.ref a3_0), .val (.int p3_1), .val (.int (p3_1 + (4 : Int32))), .val (.long x12), .second, .val (.int (p3_1 + (4 : Int32)))] [(.long ((x12.toUInt64 >>> ((33 : Int32) &&& 0x3f).toInt64.toUInt64).toInt64)), (.long x12)])) _
    refine XS.lxor X0.here hx rfl (hb hby d3_66) rfl ?_
    show Steps p.tables e below (s₁.setTop (mkF m 67 #[.val (.ref a3_0), .val (.int p3_1), .val (.int (p3_1 + (4 : Int32))), .val (.long x12), .second, .val (.int (p3_1 + (4 : Int32)))] [(.long (x12 ^^^ ((x12.toUInt64 >>> ((33 : Int32) &&& 0x3f).toInt64.toUInt64).toInt64)))])) _
    refine XS.lstoreN X0.here hx rfl (hb hby d3_67) rfl (l' := #[.val (.ref a3_0), .val (.int p3_1), .val (.int (p3_1 + (4 : Int32))), .val (.long (x12 ^^^ ((x12.toUInt64 >>> ((33 : Int32) &&& 0x3f).toInt64.toUInt64).toInt64))), .second, .val (.int (p3_1 + (4 : Int32)))]) rfl ?_
    show Steps p.tables e below (s₁.setTop (mkF m 68 #[.val (.ref a3_0), .val (.int p3_1), .val (.int (p3_1 + (4 : Int32))), .val (.long (x12 ^^^ ((x12.toUInt64 >>> ((33 : Int32) &&& 0x3f).toInt64.toUInt64).toInt64))), .second, .val (.int (p3_1 + (4 : Int32)))] [])) _
    rw [← hx13]
    show Steps p.tables e below (s₁.setTop (mkF m 68 #[.val (.ref a3_0), .val (.int p3_1), .val (.int (p3_1 + (4 : Int32))), .val (.long x13), .second, .val (.int (p3_1 + (4 : Int32)))] [])) _
    refine XS.lloadN X0.here hx rfl (hb hby d3_68) rfl ?_
    show Steps p.tables e below (s₁.setTop (mkF m 69 #[.val (.ref a3_0), .val (.int p3_1), .val (.int (p3_1 + (4 : Int32))), .val (.long x13), .second, .val (.int (p3_1 + (4 : Int32)))] [(.long x13)])) _
    jvm_step X0.here [X0.here.top, hx, (hb hby d3_69), X0.method', Bd.returns, narrow]
    first | (intro acts; rw [hr _ acts rfl rfl rfl]) | rw [hr _ _ rfl rfl rfl]
    exact Steps.refl _
  · show Q_rm3_l4 Z a3_0 p3_1 f_a3_0 h0 n0 _ s₁.heap _
    rw [e0]
    subst hx13
    subst hx12
    subst hx11
    subst hx10
    subst hx9
    subst hx8
    subst hx6
    subst hx4
    subst hx2
    exact ⟨rfl, N0, rfl⟩
def own_xs (h : Int64) : Int64 := (h ^^^ ((h.toUInt64 >>> ((33 : Int32) &&& 0x3f).toInt64.toUInt64).toInt64))
def own_mix (h : Int64) : Int64 := own_xs ((own_xs ((own_xs h) * (-49064778989728563 : Int64))) * (-4265267296055464877 : Int64))
def own_st (h : Int64) (b : Int32) : Int64 := ((h ^^^ ((b &&& (255 : Int32)).toInt64)) * (1099511628211 : Int64))
def own_seed : Int64 := (-3750763034362895579 : Int64)
theorem own_u33 (x : Int64) : ((x.toUInt64 >>> ((33 : Int32) &&& 0x3f).toInt64.toUInt64).toInt64).toBitVec = x.toBitVec >>> 33 := rfl
theorem own_b33 (m : BitVec 64) : (m ^^^ (m >>> 33)) ^^^ ((m ^^^ (m >>> 33)) >>> 33) = m := by
  apply BitVec.eq_of_getLsbD_eq
  intro i hi
  have q : m.getLsbD (33 + (33 + i)) = false := BitVec.getLsbD_of_ge m _ (by omega)
  simp only [BitVec.getLsbD_xor, BitVec.getLsbD_ushiftRight, q]
  cases m.getLsbD i <;> cases m.getLsbD (33 + i) <;> rfl
theorem own_xs_inv (h : Int64) : own_xs (own_xs h) = h := by
  apply Int64.toBitVec_inj.mp
  unfold own_xs
  simp only [Int64.toBitVec_xor, own_u33]
  exact own_b33 h.toBitVec
theorem own_xs_inj {a b : Int64} (h : own_xs a = own_xs b) : a = b := by rw [← own_xs_inv a, ← own_xs_inv b, h]
theorem own_mul_inj {a b c d : Int64} (hd : c * d = 1) (h : a * c = b * c) : a = b := by
  have := congrArg (fun z => z * d) h
  simp only [Int64.mul_assoc, hd, Int64.mul_one] at this
  exact this
theorem own_mix_inj {a b : Int64} (h : own_mix a = own_mix b) : a = b :=
  own_xs_inj (own_mul_inj (d := 5725274745694666757) (by decide) (own_xs_inj (own_mul_inj (d := -7154897129451604005) (by decide) (own_xs_inj h))))
theorem own_st_inj {h : Int64} {a b : Int32} (e : own_st h a = own_st h b) : (a &&& (255 : Int32)) = (b &&& (255 : Int32)) := by
  have e1 := own_mul_inj (d := -3560570117845248645) (by decide) e
  have e2 := congrArg (fun z => h ^^^ z) e1
  simp only [← Int64.xor_assoc, Int64.xor_self, Int64.zero_xor] at e2
  apply Int32.toInt_inj.mp
  rw [← c_i2l, ← c_i2l, e2]
theorem own_bx (B D M : BitVec 32) (h : (B ^^^ D) &&& M = B &&& M) : D &&& M = 0#32 := by
  apply BitVec.eq_of_getLsbD_eq
  intro i hi
  have q := congrArg (fun z => z.getLsbD i) h
  simp only [BitVec.getLsbD_and, BitVec.getLsbD_xor] at q ⊢
  rw [BitVec.getLsbD_zero]
  revert q
  cases B.getLsbD i <;> cases D.getLsbD i <;> cases M.getLsbD i <;> decide
theorem own_flip (b d : Int32) (h1 : 1 ≤ d.toInt) (h2 : d.toInt ≤ 255) : ¬ ((nar .byte ((b ^^^ d).toInt8.toInt32)) &&& (255 : Int32)) = (b &&& (255 : Int32)) := by
  intro e
  have m1 := c_mask (nar .byte ((b ^^^ d).toInt8.toInt32)) (255 : Int32) 8 (by decide) (by decide)
  have m2 := c_mask (b ^^^ d) (255 : Int32) 8 (by decide) (by decide)
  have m3 := c_mask d (255 : Int32) 8 (by decide) (by decide)
  have i1 := c_i2b (b ^^^ d)
  have i2 := c_i2b ((b ^^^ d).toInt8.toInt32)
  have e1 : ((nar .byte ((b ^^^ d).toInt8.toInt32)) &&& (255 : Int32)) = ((b ^^^ d) &&& (255 : Int32)) := by
    apply Int32.toInt_inj.mp
    rw [m1, m2]
    show (((b ^^^ d).toInt8.toInt32).toInt8.toInt32).toInt % _ = _
    omega
  rw [e1] at e
  have z := own_bx b.toBitVec d.toBitVec (255 : Int32).toBitVec (congrArg Int32.toBitVec e)
  have z2 : (d &&& (255 : Int32)) = (0 : Int32) := Int32.toBitVec_inj.mp z
  rw [z2, show (0 : Int32).toInt = 0 from by decide] at m3
  omega
theorem own_ne {s c d : Int32} (h : c ≠ d) : ¬ (s + c) = (s + d) := by
  intro e
  apply h
  have := congrArg (fun z => -s + z) e
  simp only [← Int32.add_assoc, Int32.add_left_neg, Int32.zero_add] at this
  exact this
theorem own_ne0 {s d : Int32} (h : (0 : Int32) ≠ d) : ¬ s = (s + d) := by
  intro e
  exact own_ne (s := s) h (by rw [Int32.add_zero]; exact e)
theorem own_d (p x : Int32) (hx : x = (((p &&& (2147483647 : Int32)) % (255 : Int32)) + (1 : Int32))) : 1 ≤ x.toInt ∧ x.toInt ≤ 255 := by
  have h1 := c_and p (2147483647 : Int32) (by decide)
  have h2 := (c_iremV (p &&& (2147483647 : Int32)) (255 : Int32)).1 h1.1 (by decide)
  have h3 := c_iadd ((p &&& (2147483647 : Int32)) % (255 : Int32)) (1 : Int32)
  have r := rng32 x
  rw [← hx, show (1 : Int32).toInt = 1 from by decide] at h3
  rw [show (255 : Int32).toInt = 255 from by decide] at h2
  omega
theorem pd__J__B : parseMethodDescriptor "(J)[B" = some ⟨[.long], some (.array .byte)⟩ := by decide +kernel
theorem pd___BIJI_V : parseMethodDescriptor "([BIJI)V" = some ⟨[(.array .byte), .int, .long, .int], none⟩ := by decide +kernel
theorem pd___BII_J : parseMethodDescriptor "([BII)J" = some ⟨[(.array .byte), .int, .int], some .long⟩ := by decide +kernel
theorem own_fin1 (q0_0 : Int64) (q0_1 : Int64) (q0_2 : Int64) (p0_3 : Int32) (p0_4 : Int32) (p0_5 : Int32) (x2 : Int32) (hx2 : x2 = (p0_3 &&& (7 : Int32))) (x4 : Int32) (hx4 : x4 = (((p0_3.toUInt32 >>> ((3 : Int32) &&& 31).toUInt32).toInt32) &&& (7 : Int32))) (x6 : Int32) (hx6 : x6 = ((p0_4 &&& (2147483647 : Int32)) % (5 : Int32))) (x8 : Int32) (hx8 : x8 = (((p0_5 &&& (2147483647 : Int32)) % (255 : Int32)) + (1 : Int32))) (y70 : Int32) (hy70 : y70 = (nar .byte ((q0_1.toInt32).toInt8.toInt32))) (y71 : Int32) (hy71 : y71 = (nar .byte ((((q0_1.toUInt64 >>> ((8 : Int32) &&& 0x3f).toInt64.toUInt64).toInt64).toInt32).toInt8.toInt32))) (y72 : Int32) (hy72 : y72 = (nar .byte ((((q0_1.toUInt64 >>> ((16 : Int32) &&& 0x3f).toInt64.toUInt64).toInt64).toInt32).toInt8.toInt32))) (y73 : Int32) (hy73 : y73 = (nar .byte ((((q0_1.toUInt64 >>> ((24 : Int32) &&& 0x3f).toInt64.toUInt64).toInt64).toInt32).toInt8.toInt32))) (y74 : Int32) (hy74 : y74 = (nar .byte ((((q0_1.toUInt64 >>> ((32 : Int32) &&& 0x3f).toInt64.toUInt64).toInt64).toInt32).toInt8.toInt32))) (y75 : Int32) (hy75 : y75 = (nar .byte ((((q0_1.toUInt64 >>> ((40 : Int32) &&& 0x3f).toInt64.toUInt64).toInt64).toInt32).toInt8.toInt32))) (y76 : Int32) (hy76 : y76 = (nar .byte ((((q0_1.toUInt64 >>> ((48 : Int32) &&& 0x3f).toInt64.toUInt64).toInt64).toInt32).toInt8.toInt32))) (y77 : Int32) (hy77 : y77 = (nar .byte ((((q0_1.toUInt64 >>> ((56 : Int32) &&& 0x3f).toInt64.toUInt64).toInt64).toInt32).toInt8.toInt32))) (y78 : Int32) (hy78 : y78 = (nar .byte ((((q0_1.toUInt64 >>> ((4 : Int32) &&& 0x3f).toInt64.toUInt64).toInt64).toInt32).toInt8.toInt32))) (y79 : Int32) (hy79 : y79 = (nar .byte ((((q0_1.toUInt64 >>> ((12 : Int32) &&& 0x3f).toInt64.toUInt64).toInt64).toInt32).toInt8.toInt32))) (y80 : Int32) (hy80 : y80 = (nar .byte ((((q0_1.toUInt64 >>> ((20 : Int32) &&& 0x3f).toInt64.toUInt64).toInt64).toInt32).toInt8.toInt32))) (y81 : Int32) (hy81 : y81 = (nar .byte ((((q0_1.toUInt64 >>> ((28 : Int32) &&& 0x3f).toInt64.toUInt64).toInt64).toInt32).toInt8.toInt32))) (f83 : Int32 → Int32) (hf83 : f83 = (fun i => ([y70, y71, y72, y73, y74, y75, y76, y77, y78, y79, y80, y81] : List Int32).getD i.toNatClampNeg 0)) (f85 : Int32 → Int32) (hf85 : f85 = (fun i => if i = x2 then (nar .byte ((q0_0.toInt32).toInt8.toInt32)) else f83 i)) (y87 : Int32) (hy87 : y87 = (nar .byte ((q0_2.toInt32).toInt8.toInt32))) (y88 : Int32) (hy88 : y88 = (nar .byte ((((q0_2.toUInt64 >>> ((8 : Int32) &&& 0x3f).toInt64.toUInt64).toInt64).toInt32).toInt8.toInt32))) (y89 : Int32) (hy89 : y89 = (nar .byte ((((q0_2.toUInt64 >>> ((16 : Int32) &&& 0x3f).toInt64.toUInt64).toInt64).toInt32).toInt8.toInt32))) (y90 : Int32) (hy90 : y90 = (nar .byte ((((q0_2.toUInt64 >>> ((24 : Int32) &&& 0x3f).toInt64.toUInt64).toInt64).toInt32).toInt8.toInt32))) (y91 : Int32) (hy91 : y91 = (nar .byte ((((q0_2.toUInt64 >>> ((32 : Int32) &&& 0x3f).toInt64.toUInt64).toInt64).toInt32).toInt8.toInt32))) (y92 : Int32) (hy92 : y92 = (nar .byte ((((q0_2.toUInt64 >>> ((40 : Int32) &&& 0x3f).toInt64.toUInt64).toInt64).toInt32).toInt8.toInt32))) (y93 : Int32) (hy93 : y93 = (nar .byte ((((q0_2.toUInt64 >>> ((48 : Int32) &&& 0x3f).toInt64.toUInt64).toInt64).toInt32).toInt8.toInt32))) (y94 : Int32) (hy94 : y94 = (nar .byte ((((q0_2.toUInt64 >>> ((56 : Int32) &&& 0x3f).toInt64.toUInt64).toInt64).toInt32).toInt8.toInt32))) (y95 : Int32) (hy95 : y95 = (nar .byte ((((q0_2.toUInt64 >>> ((4 : Int32) &&& 0x3f).toInt64.toUInt64).toInt64).toInt32).toInt8.toInt32))) (y96 : Int32) (hy96 : y96 = (nar .byte ((((q0_2.toUInt64 >>> ((12 : Int32) &&& 0x3f).toInt64.toUInt64).toInt64).toInt32).toInt8.toInt32))) (y97 : Int32) (hy97 : y97 = (nar .byte ((((q0_2.toUInt64 >>> ((20 : Int32) &&& 0x3f).toInt64.toUInt64).toInt64).toInt32).toInt8.toInt32))) (y98 : Int32) (hy98 : y98 = (nar .byte ((((q0_2.toUInt64 >>> ((28 : Int32) &&& 0x3f).toInt64.toUInt64).toInt64).toInt32).toInt8.toInt32))) (f100 : Int32 → Int32) (hf100 : f100 = (fun i => ([y87, y88, y89, y90, y91, y92, y93, y94, y95, y96, y97, y98] : List Int32).getD i.toNatClampNeg 0)) (f102 : Int32 → Int32) (hf102 : f102 = (fun i => if i = x4 then (nar .byte ((q0_0.toInt32).toInt8.toInt32)) else f100 i)) (y105 : Int32) (hy105 : y105 = (nar .byte ((q0_2.toInt32).toInt8.toInt32))) (y106 : Int32) (hy106 : y106 = (nar .byte ((((q0_2.toUInt64 >>> ((8 : Int32) &&& 0x3f).toInt64.toUInt64).toInt64).toInt32).toInt8.toInt32))) (y107 : Int32) (hy107 : y107 = (nar .byte ((((q0_2.toUInt64 >>> ((16 : Int32) &&& 0x3f).toInt64.toUInt64).toInt64).toInt32).toInt8.toInt32))) (y108 : Int32) (hy108 : y108 = (nar .byte ((((q0_2.toUInt64 >>> ((24 : Int32) &&& 0x3f).toInt64.toUInt64).toInt64).toInt32).toInt8.toInt32))) (y109 : Int32) (hy109 : y109 = (nar .byte ((((q0_2.toUInt64 >>> ((32 : Int32) &&& 0x3f).toInt64.toUInt64).toInt64).toInt32).toInt8.toInt32))) (y110 : Int32) (hy110 : y110 = (nar .byte ((((q0_2.toUInt64 >>> ((40 : Int32) &&& 0x3f).toInt64.toUInt64).toInt64).toInt32).toInt8.toInt32))) (y111 : Int32) (hy111 : y111 = (nar .byte ((((q0_2.toUInt64 >>> ((48 : Int32) &&& 0x3f).toInt64.toUInt64).toInt64).toInt32).toInt8.toInt32))) (y112 : Int32) (hy112 : y112 = (nar .byte ((((q0_2.toUInt64 >>> ((56 : Int32) &&& 0x3f).toInt64.toUInt64).toInt64).toInt32).toInt8.toInt32))) (y113 : Int32) (hy113 : y113 = (nar .byte ((((q0_2.toUInt64 >>> ((4 : Int32) &&& 0x3f).toInt64.toUInt64).toInt64).toInt32).toInt8.toInt32))) (y114 : Int32) (hy114 : y114 = (nar .byte ((((q0_2.toUInt64 >>> ((12 : Int32) &&& 0x3f).toInt64.toUInt64).toInt64).toInt32).toInt8.toInt32))) (y115 : Int32) (hy115 : y115 = (nar .byte ((((q0_2.toUInt64 >>> ((20 : Int32) &&& 0x3f).toInt64.toUInt64).toInt64).toInt32).toInt8.toInt32))) (y116 : Int32) (hy116 : y116 = (nar .byte ((((q0_2.toUInt64 >>> ((28 : Int32) &&& 0x3f).toInt64.toUInt64).toInt64).toInt32).toInt8.toInt32))) (f118 : Int32 → Int32) (hf118 : f118 = (fun i => ([y105, y106, y107, y108, y109, y110, y111, y112, y113, y114, y115, y116] : List Int32).getD i.toNatClampNeg 0)) (f120 : Int32 → Int32) (hf120 : f120 = (fun i => if i = x4 then (nar .byte ((q0_0.toInt32).toInt8.toInt32)) else f118 i)) (x123 : Int64) (hx123 : x123 = ((((((((-3750763034362895579 : Int64) ^^^ (((f85 x2) &&& (255 : Int32)).toInt64)) * (1099511628211 : Int64)) ^^^ (((((-3750763034362895579 : Int64) ^^^ (((f85 x2) &&& (255 : Int32)).toInt64)) * (1099511628211 : Int64)).toUInt64 >>> ((33 : Int32) &&& 0x3f).toInt64.toUInt64).toInt64)) * (-49064778989728563 : Int64)) ^^^ (((((((-3750763034362895579 : Int64) ^^^ (((f85 x2) &&& (255 : Int32)).toInt64)) * (1099511628211 : Int64)) ^^^ (((((-3750763034362895579 : Int64) ^^^ (((f85 x2) &&& (255 : Int32)).toInt64)) * (1099511628211 : Int64)).toUInt64 >>> ((33 : Int32) &&& 0x3f).toInt64.toUInt64).toInt64)) * (-49064778989728563 : Int64)).toUInt64 >>> ((33 : Int32) &&& 0x3f).toInt64.toUInt64).toInt64)) * (-4265267296055464877 : Int64)) ^^^ (((((((((-3750763034362895579 : Int64) ^^^ (((f85 x2) &&& (255 : Int32)).toInt64)) * (1099511628211 : Int64)) ^^^ (((((-3750763034362895579 : Int64) ^^^ (((f85 x2) &&& (255 : Int32)).toInt64)) * (1099511628211 : Int64)).toUInt64 >>> ((33 : Int32) &&& 0x3f).toInt64.toUInt64).toInt64)) * (-49064778989728563 : Int64)) ^^^ (((((((-3750763034362895579 : Int64) ^^^ (((f85 x2) &&& (255 : Int32)).toInt64)) * (1099511628211 : Int64)) ^^^ (((((-3750763034362895579 : Int64) ^^^ (((f85 x2) &&& (255 : Int32)).toInt64)) * (1099511628211 : Int64)).toUInt64 >>> ((33 : Int32) &&& 0x3f).toInt64.toUInt64).toInt64)) * (-49064778989728563 : Int64)).toUInt64 >>> ((33 : Int32) &&& 0x3f).toInt64.toUInt64).toInt64)) * (-4265267296055464877 : Int64)).toUInt64 >>> ((33 : Int32) &&& 0x3f).toInt64.toUInt64).toInt64))) (x127 : Int64) (hx127 : x127 = ((((((((-3750763034362895579 : Int64) ^^^ (((f102 x4) &&& (255 : Int32)).toInt64)) * (1099511628211 : Int64)) ^^^ (((((-3750763034362895579 : Int64) ^^^ (((f102 x4) &&& (255 : Int32)).toInt64)) * (1099511628211 : Int64)).toUInt64 >>> ((33 : Int32) &&& 0x3f).toInt64.toUInt64).toInt64)) * (-49064778989728563 : Int64)) ^^^ (((((((-3750763034362895579 : Int64) ^^^ (((f102 x4) &&& (255 : Int32)).toInt64)) * (1099511628211 : Int64)) ^^^ (((((-3750763034362895579 : Int64) ^^^ (((f102 x4) &&& (255 : Int32)).toInt64)) * (1099511628211 : Int64)).toUInt64 >>> ((33 : Int32) &&& 0x3f).toInt64.toUInt64).toInt64)) * (-49064778989728563 : Int64)).toUInt64 >>> ((33 : Int32) &&& 0x3f).toInt64.toUInt64).toInt64)) * (-4265267296055464877 : Int64)) ^^^ (((((((((-3750763034362895579 : Int64) ^^^ (((f102 x4) &&& (255 : Int32)).toInt64)) * (1099511628211 : Int64)) ^^^ (((((-3750763034362895579 : Int64) ^^^ (((f102 x4) &&& (255 : Int32)).toInt64)) * (1099511628211 : Int64)).toUInt64 >>> ((33 : Int32) &&& 0x3f).toInt64.toUInt64).toInt64)) * (-49064778989728563 : Int64)) ^^^ (((((((-3750763034362895579 : Int64) ^^^ (((f102 x4) &&& (255 : Int32)).toInt64)) * (1099511628211 : Int64)) ^^^ (((((-3750763034362895579 : Int64) ^^^ (((f102 x4) &&& (255 : Int32)).toInt64)) * (1099511628211 : Int64)).toUInt64 >>> ((33 : Int32) &&& 0x3f).toInt64.toUInt64).toInt64)) * (-49064778989728563 : Int64)).toUInt64 >>> ((33 : Int32) &&& 0x3f).toInt64.toUInt64).toInt64)) * (-4265267296055464877 : Int64)).toUInt64 >>> ((33 : Int32) &&& 0x3f).toInt64.toUInt64).toInt64))) (v131 : Int32) (hv131 : v131 = (if x123 = x127 then (1 : Int32) else (0 : Int32))) (x134 : Int32) (hx134 : x134 = ((x4 + (1 : Int32)) - (1 : Int32))) (f139 : Int32 → Int32) (hf139 : f139 = (fun i => if i = x134 then (nar .byte (((f120 x134) ^^^ x8).toInt8.toInt32)) else f120 i)) (x141 : Int64) (hx141 : x141 = ((((((((-3750763034362895579 : Int64) ^^^ (((f139 x4) &&& (255 : Int32)).toInt64)) * (1099511628211 : Int64)) ^^^ (((((-3750763034362895579 : Int64) ^^^ (((f139 x4) &&& (255 : Int32)).toInt64)) * (1099511628211 : Int64)).toUInt64 >>> ((33 : Int32) &&& 0x3f).toInt64.toUInt64).toInt64)) * (-49064778989728563 : Int64)) ^^^ (((((((-3750763034362895579 : Int64) ^^^ (((f139 x4) &&& (255 : Int32)).toInt64)) * (1099511628211 : Int64)) ^^^ (((((-3750763034362895579 : Int64) ^^^ (((f139 x4) &&& (255 : Int32)).toInt64)) * (1099511628211 : Int64)).toUInt64 >>> ((33 : Int32) &&& 0x3f).toInt64.toUInt64).toInt64)) * (-49064778989728563 : Int64)).toUInt64 >>> ((33 : Int32) &&& 0x3f).toInt64.toUInt64).toInt64)) * (-4265267296055464877 : Int64)) ^^^ (((((((((-3750763034362895579 : Int64) ^^^ (((f139 x4) &&& (255 : Int32)).toInt64)) * (1099511628211 : Int64)) ^^^ (((((-3750763034362895579 : Int64) ^^^ (((f139 x4) &&& (255 : Int32)).toInt64)) * (1099511628211 : Int64)).toUInt64 >>> ((33 : Int32) &&& 0x3f).toInt64.toUInt64).toInt64)) * (-49064778989728563 : Int64)) ^^^ (((((((-3750763034362895579 : Int64) ^^^ (((f139 x4) &&& (255 : Int32)).toInt64)) * (1099511628211 : Int64)) ^^^ (((((-3750763034362895579 : Int64) ^^^ (((f139 x4) &&& (255 : Int32)).toInt64)) * (1099511628211 : Int64)).toUInt64 >>> ((33 : Int32) &&& 0x3f).toInt64.toUInt64).toInt64)) * (-49064778989728563 : Int64)).toUInt64 >>> ((33 : Int32) &&& 0x3f).toInt64.toUInt64).toInt64)) * (-4265267296055464877 : Int64)).toUInt64 >>> ((33 : Int32) &&& 0x3f).toInt64.toUInt64).toInt64))) (v147 : Int32) (hv147 : v147 = (if v131 = (0 : Int32) then (0 : Int32) else (if x141 = x127 then (0 : Int32) else (1 : Int32)))) (hc12 : x6 = (1 : Int32)) : v147 = (1 : Int32) := by
  have ka0 : f85 x2 = (nar .byte ((q0_0.toInt32).toInt8.toInt32)) := by rw [hf85]; exact (if_pos rfl)
  have kb0 : f102 x4 = (nar .byte ((q0_0.toInt32).toInt8.toInt32)) := by rw [hf102]; exact (if_pos rfl)
  have kc0 : f120 x4 = (nar .byte ((q0_0.toInt32).toInt8.toInt32)) := by rw [hf120]; exact (if_pos rfl)
  have ea : x123 = own_mix (own_st own_seed (f85 x2)) := hx123
  rw [ka0] at ea
  have eb : x127 = own_mix (own_st own_seed (f102 x4)) := hx127
  rw [kb0] at eb
  have el : x134 = x4 := by rw [hx134]; exact (own_asa _ _ _).trans (Int32.add_zero _)
  have kf0 : f139 x4 = (nar .byte (((nar .byte ((q0_0.toInt32).toInt8.toInt32)) ^^^ x8).toInt8.toInt32)) := by rw [hf139]; refine (if_pos el.symm).trans ?_; rw [el, kc0]
  have ec : x141 = own_mix (own_st own_seed (f139 x4)) := hx141
  rw [kf0] at ec
  have hd := own_d p0_5 x8 hx8
  have es : v131 = 1 := by rw [hv131, if_pos (ea.trans eb.symm)]
  have en : ¬ x141 = x127 := by
    rw [ec, eb]
    intro q
    exact own_flip _ _ hd.1 hd.2 (own_st_inj (own_mix_inj q))
  rw [hv147, if_neg (by rw [es]; decide), if_neg en]
theorem own_fin2 (q0_0 : Int64) (q0_1 : Int64) (q0_2 : Int64) (p0_3 : Int32) (p0_4 : Int32) (p0_5 : Int32) (x2 : Int32) (hx2 : x2 = (p0_3 &&& (7 : Int32))) (x4 : Int32) (hx4 : x4 = (((p0_3.toUInt32 >>> ((3 : Int32) &&& 31).toUInt32).toInt32) &&& (7 : Int32))) (x6 : Int32) (hx6 : x6 = ((p0_4 &&& (2147483647 : Int32)) % (5 : Int32))) (x8 : Int32) (hx8 : x8 = (((p0_5 &&& (2147483647 : Int32)) % (255 : Int32)) + (1 : Int32))) (y151 : Int32) (hy151 : y151 = (nar .byte ((q0_1.toInt32).toInt8.toInt32))) (y152 : Int32) (hy152 : y152 = (nar .byte ((((q0_1.toUInt64 >>> ((8 : Int32) &&& 0x3f).toInt64.toUInt64).toInt64).toInt32).toInt8.toInt32))) (y153 : Int32) (hy153 : y153 = (nar .byte ((((q0_1.toUInt64 >>> ((16 : Int32) &&& 0x3f).toInt64.toUInt64).toInt64).toInt32).toInt8.toInt32))) (y154 : Int32) (hy154 : y154 = (nar .byte ((((q0_1.toUInt64 >>> ((24 : Int32) &&& 0x3f).toInt64.toUInt64).toInt64).toInt32).toInt8.toInt32))) (y155 : Int32) (hy155 : y155 = (nar .byte ((((q0_1.toUInt64 >>> ((32 : Int32) &&& 0x3f).toInt64.toUInt64).toInt64).toInt32).toInt8.toInt32))) (y156 : Int32) (hy156 : y156 = (nar .byte ((((q0_1.toUInt64 >>> ((40 : Int32) &&& 0x3f).toInt64.toUInt64).toInt64).toInt32).toInt8.toInt32))) (y157 : Int32) (hy157 : y157 = (nar .byte ((((q0_1.toUInt64 >>> ((48 : Int32) &&& 0x3f).toInt64.toUInt64).toInt64).toInt32).toInt8.toInt32))) (y158 : Int32) (hy158 : y158 = (nar .byte ((((q0_1.toUInt64 >>> ((56 : Int32) &&& 0x3f).toInt64.toUInt64).toInt64).toInt32).toInt8.toInt32))) (y159 : Int32) (hy159 : y159 = (nar .byte ((((q0_1.toUInt64 >>> ((4 : Int32) &&& 0x3f).toInt64.toUInt64).toInt64).toInt32).toInt8.toInt32))) (y160 : Int32) (hy160 : y160 = (nar .byte ((((q0_1.toUInt64 >>> ((12 : Int32) &&& 0x3f).toInt64.toUInt64).toInt64).toInt32).toInt8.toInt32))) (y161 : Int32) (hy161 : y161 = (nar .byte ((((q0_1.toUInt64 >>> ((20 : Int32) &&& 0x3f).toInt64.toUInt64).toInt64).toInt32).toInt8.toInt32))) (y162 : Int32) (hy162 : y162 = (nar .byte ((((q0_1.toUInt64 >>> ((28 : Int32) &&& 0x3f).toInt64.toUInt64).toInt64).toInt32).toInt8.toInt32))) (f164 : Int32 → Int32) (hf164 : f164 = (fun i => ([y151, y152, y153, y154, y155, y156, y157, y158, y159, y160, y161, y162] : List Int32).getD i.toNatClampNeg 0)) (f166 : Int32 → Int32) (hf166 : f166 = (fun i => if i = (x2 + (1 : Int32)) then (nar .byte ((((q0_0.toUInt64 >>> ((8 : Int32) &&& 0x3f).toInt64.toUInt64).toInt64).toInt32).toInt8.toInt32)) else (fun i => if i = x2 then (nar .byte ((q0_0.toInt32).toInt8.toInt32)) else f164 i) i)) (y168 : Int32) (hy168 : y168 = (nar .byte ((q0_2.toInt32).toInt8.toInt32))) (y169 : Int32) (hy169 : y169 = (nar .byte ((((q0_2.toUInt64 >>> ((8 : Int32) &&& 0x3f).toInt64.toUInt64).toInt64).toInt32).toInt8.toInt32))) (y170 : Int32) (hy170 : y170 = (nar .byte ((((q0_2.toUInt64 >>> ((16 : Int32) &&& 0x3f).toInt64.toUInt64).toInt64).toInt32).toInt8.toInt32))) (y171 : Int32) (hy171 : y171 = (nar .byte ((((q0_2.toUInt64 >>> ((24 : Int32) &&& 0x3f).toInt64.toUInt64).toInt64).toInt32).toInt8.toInt32))) (y172 : Int32) (hy172 : y172 = (nar .byte ((((q0_2.toUInt64 >>> ((32 : Int32) &&& 0x3f).toInt64.toUInt64).toInt64).toInt32).toInt8.toInt32))) (y173 : Int32) (hy173 : y173 = (nar .byte ((((q0_2.toUInt64 >>> ((40 : Int32) &&& 0x3f).toInt64.toUInt64).toInt64).toInt32).toInt8.toInt32))) (y174 : Int32) (hy174 : y174 = (nar .byte ((((q0_2.toUInt64 >>> ((48 : Int32) &&& 0x3f).toInt64.toUInt64).toInt64).toInt32).toInt8.toInt32))) (y175 : Int32) (hy175 : y175 = (nar .byte ((((q0_2.toUInt64 >>> ((56 : Int32) &&& 0x3f).toInt64.toUInt64).toInt64).toInt32).toInt8.toInt32))) (y176 : Int32) (hy176 : y176 = (nar .byte ((((q0_2.toUInt64 >>> ((4 : Int32) &&& 0x3f).toInt64.toUInt64).toInt64).toInt32).toInt8.toInt32))) (y177 : Int32) (hy177 : y177 = (nar .byte ((((q0_2.toUInt64 >>> ((12 : Int32) &&& 0x3f).toInt64.toUInt64).toInt64).toInt32).toInt8.toInt32))) (y178 : Int32) (hy178 : y178 = (nar .byte ((((q0_2.toUInt64 >>> ((20 : Int32) &&& 0x3f).toInt64.toUInt64).toInt64).toInt32).toInt8.toInt32))) (y179 : Int32) (hy179 : y179 = (nar .byte ((((q0_2.toUInt64 >>> ((28 : Int32) &&& 0x3f).toInt64.toUInt64).toInt64).toInt32).toInt8.toInt32))) (f181 : Int32 → Int32) (hf181 : f181 = (fun i => ([y168, y169, y170, y171, y172, y173, y174, y175, y176, y177, y178, y179] : List Int32).getD i.toNatClampNeg 0)) (f183 : Int32 → Int32) (hf183 : f183 = (fun i => if i = (x4 + (1 : Int32)) then (nar .byte ((((q0_0.toUInt64 >>> ((8 : Int32) &&& 0x3f).toInt64.toUInt64).toInt64).toInt32).toInt8.toInt32)) else (fun i => if i = x4 then (nar .byte ((q0_0.toInt32).toInt8.toInt32)) else f181 i) i)) (y186 : Int32) (hy186 : y186 = (nar .byte ((q0_2.toInt32).toInt8.toInt32))) (y187 : Int32) (hy187 : y187 = (nar .byte ((((q0_2.toUInt64 >>> ((8 : Int32) &&& 0x3f).toInt64.toUInt64).toInt64).toInt32).toInt8.toInt32))) (y188 : Int32) (hy188 : y188 = (nar .byte ((((q0_2.toUInt64 >>> ((16 : Int32) &&& 0x3f).toInt64.toUInt64).toInt64).toInt32).toInt8.toInt32))) (y189 : Int32) (hy189 : y189 = (nar .byte ((((q0_2.toUInt64 >>> ((24 : Int32) &&& 0x3f).toInt64.toUInt64).toInt64).toInt32).toInt8.toInt32))) (y190 : Int32) (hy190 : y190 = (nar .byte ((((q0_2.toUInt64 >>> ((32 : Int32) &&& 0x3f).toInt64.toUInt64).toInt64).toInt32).toInt8.toInt32))) (y191 : Int32) (hy191 : y191 = (nar .byte ((((q0_2.toUInt64 >>> ((40 : Int32) &&& 0x3f).toInt64.toUInt64).toInt64).toInt32).toInt8.toInt32))) (y192 : Int32) (hy192 : y192 = (nar .byte ((((q0_2.toUInt64 >>> ((48 : Int32) &&& 0x3f).toInt64.toUInt64).toInt64).toInt32).toInt8.toInt32))) (y193 : Int32) (hy193 : y193 = (nar .byte ((((q0_2.toUInt64 >>> ((56 : Int32) &&& 0x3f).toInt64.toUInt64).toInt64).toInt32).toInt8.toInt32))) (y194 : Int32) (hy194 : y194 = (nar .byte ((((q0_2.toUInt64 >>> ((4 : Int32) &&& 0x3f).toInt64.toUInt64).toInt64).toInt32).toInt8.toInt32))) (y195 : Int32) (hy195 : y195 = (nar .byte ((((q0_2.toUInt64 >>> ((12 : Int32) &&& 0x3f).toInt64.toUInt64).toInt64).toInt32).toInt8.toInt32))) (y196 : Int32) (hy196 : y196 = (nar .byte ((((q0_2.toUInt64 >>> ((20 : Int32) &&& 0x3f).toInt64.toUInt64).toInt64).toInt32).toInt8.toInt32))) (y197 : Int32) (hy197 : y197 = (nar .byte ((((q0_2.toUInt64 >>> ((28 : Int32) &&& 0x3f).toInt64.toUInt64).toInt64).toInt32).toInt8.toInt32))) (f199 : Int32 → Int32) (hf199 : f199 = (fun i => ([y186, y187, y188, y189, y190, y191, y192, y193, y194, y195, y196, y197] : List Int32).getD i.toNatClampNeg 0)) (f201 : Int32 → Int32) (hf201 : f201 = (fun i => if i = (x4 + (1 : Int32)) then (nar .byte ((((q0_0.toUInt64 >>> ((8 : Int32) &&& 0x3f).toInt64.toUInt64).toInt64).toInt32).toInt8.toInt32)) else (fun i => if i = x4 then (nar .byte ((q0_0.toInt32).toInt8.toInt32)) else f199 i) i)) (x204 : Int64) (hx204 : x204 = ((((((((((-3750763034362895579 : Int64) ^^^ (((f166 x2) &&& (255 : Int32)).toInt64)) * (1099511628211 : Int64)) ^^^ (((f166 (x2 + (1 : Int32))) &&& (255 : Int32)).toInt64)) * (1099511628211 : Int64)) ^^^ (((((((-3750763034362895579 : Int64) ^^^ (((f166 x2) &&& (255 : Int32)).toInt64)) * (1099511628211 : Int64)) ^^^ (((f166 (x2 + (1 : Int32))) &&& (255 : Int32)).toInt64)) * (1099511628211 : Int64)).toUInt64 >>> ((33 : Int32) &&& 0x3f).toInt64.toUInt64).toInt64)) * (-49064778989728563 : Int64)) ^^^ (((((((((-3750763034362895579 : Int64) ^^^ (((f166 x2) &&& (255 : Int32)).toInt64)) * (1099511628211 : Int64)) ^^^ (((f166 (x2 + (1 : Int32))) &&& (255 : Int32)).toInt64)) * (1099511628211 : Int64)) ^^^ (((((((-3750763034362895579 : Int64) ^^^ (((f166 x2) &&& (255 : Int32)).toInt64)) * (1099511628211 : Int64)) ^^^ (((f166 (x2 + (1 : Int32))) &&& (255 : Int32)).toInt64)) * (1099511628211 : Int64)).toUInt64 >>> ((33 : Int32) &&& 0x3f).toInt64.toUInt64).toInt64)) * (-49064778989728563 : Int64)).toUInt64 >>> ((33 : Int32) &&& 0x3f).toInt64.toUInt64).toInt64)) * (-4265267296055464877 : Int64)) ^^^ (((((((((((-3750763034362895579 : Int64) ^^^ (((f166 x2) &&& (255 : Int32)).toInt64)) * (1099511628211 : Int64)) ^^^ (((f166 (x2 + (1 : Int32))) &&& (255 : Int32)).toInt64)) * (1099511628211 : Int64)) ^^^ (((((((-3750763034362895579 : Int64) ^^^ (((f166 x2) &&& (255 : Int32)).toInt64)) * (1099511628211 : Int64)) ^^^ (((f166 (x2 + (1 : Int32))) &&& (255 : Int32)).toInt64)) * (1099511628211 : Int64)).toUInt64 >>> ((33 : Int32) &&& 0x3f).toInt64.toUInt64).toInt64)) * (-49064778989728563 : Int64)) ^^^ (((((((((-3750763034362895579 : Int64) ^^^ (((f166 x2) &&& (255 : Int32)).toInt64)) * (1099511628211 : Int64)) ^^^ (((f166 (x2 + (1 : Int32))) &&& (255 : Int32)).toInt64)) * (1099511628211 : Int64)) ^^^ (((((((-3750763034362895579 : Int64) ^^^ (((f166 x2) &&& (255 : Int32)).toInt64)) * (1099511628211 : Int64)) ^^^ (((f166 (x2 + (1 : Int32))) &&& (255 : Int32)).toInt64)) * (1099511628211 : Int64)).toUInt64 >>> ((33 : Int32) &&& 0x3f).toInt64.toUInt64).toInt64)) * (-49064778989728563 : Int64)).toUInt64 >>> ((33 : Int32) &&& 0x3f).toInt64.toUInt64).toInt64)) * (-4265267296055464877 : Int64)).toUInt64 >>> ((33 : Int32) &&& 0x3f).toInt64.toUInt64).toInt64))) (x208 : Int64) (hx208 : x208 = ((((((((((-3750763034362895579 : Int64) ^^^ (((f183 x4) &&& (255 : Int32)).toInt64)) * (1099511628211 : Int64)) ^^^ (((f183 (x4 + (1 : Int32))) &&& (255 : Int32)).toInt64)) * (1099511628211 : Int64)) ^^^ (((((((-3750763034362895579 : Int64) ^^^ (((f183 x4) &&& (255 : Int32)).toInt64)) * (1099511628211 : Int64)) ^^^ (((f183 (x4 + (1 : Int32))) &&& (255 : Int32)).toInt64)) * (1099511628211 : Int64)).toUInt64 >>> ((33 : Int32) &&& 0x3f).toInt64.toUInt64).toInt64)) * (-49064778989728563 : Int64)) ^^^ (((((((((-3750763034362895579 : Int64) ^^^ (((f183 x4) &&& (255 : Int32)).toInt64)) * (1099511628211 : Int64)) ^^^ (((f183 (x4 + (1 : Int32))) &&& (255 : Int32)).toInt64)) * (1099511628211 : Int64)) ^^^ (((((((-3750763034362895579 : Int64) ^^^ (((f183 x4) &&& (255 : Int32)).toInt64)) * (1099511628211 : Int64)) ^^^ (((f183 (x4 + (1 : Int32))) &&& (255 : Int32)).toInt64)) * (1099511628211 : Int64)).toUInt64 >>> ((33 : Int32) &&& 0x3f).toInt64.toUInt64).toInt64)) * (-49064778989728563 : Int64)).toUInt64 >>> ((33 : Int32) &&& 0x3f).toInt64.toUInt64).toInt64)) * (-4265267296055464877 : Int64)) ^^^ (((((((((((-3750763034362895579 : Int64) ^^^ (((f183 x4) &&& (255 : Int32)).toInt64)) * (1099511628211 : Int64)) ^^^ (((f183 (x4 + (1 : Int32))) &&& (255 : Int32)).toInt64)) * (1099511628211 : Int64)) ^^^ (((((((-3750763034362895579 : Int64) ^^^ (((f183 x4) &&& (255 : Int32)).toInt64)) * (1099511628211 : Int64)) ^^^ (((f183 (x4 + (1 : Int32))) &&& (255 : Int32)).toInt64)) * (1099511628211 : Int64)).toUInt64 >>> ((33 : Int32) &&& 0x3f).toInt64.toUInt64).toInt64)) * (-49064778989728563 : Int64)) ^^^ (((((((((-3750763034362895579 : Int64) ^^^ (((f183 x4) &&& (255 : Int32)).toInt64)) * (1099511628211 : Int64)) ^^^ (((f183 (x4 + (1 : Int32))) &&& (255 : Int32)).toInt64)) * (1099511628211 : Int64)) ^^^ (((((((-3750763034362895579 : Int64) ^^^ (((f183 x4) &&& (255 : Int32)).toInt64)) * (1099511628211 : Int64)) ^^^ (((f183 (x4 + (1 : Int32))) &&& (255 : Int32)).toInt64)) * (1099511628211 : Int64)).toUInt64 >>> ((33 : Int32) &&& 0x3f).toInt64.toUInt64).toInt64)) * (-49064778989728563 : Int64)).toUInt64 >>> ((33 : Int32) &&& 0x3f).toInt64.toUInt64).toInt64)) * (-4265267296055464877 : Int64)).toUInt64 >>> ((33 : Int32) &&& 0x3f).toInt64.toUInt64).toInt64))) (v212 : Int32) (hv212 : v212 = (if x204 = x208 then (1 : Int32) else (0 : Int32))) (x215 : Int32) (hx215 : x215 = ((x4 + (2 : Int32)) - (1 : Int32))) (f220 : Int32 → Int32) (hf220 : f220 = (fun i => if i = x215 then (nar .byte (((f201 x215) ^^^ x8).toInt8.toInt32)) else f201 i)) (x222 : Int64) (hx222 : x222 = ((((((((((-3750763034362895579 : Int64) ^^^ (((f220 x4) &&& (255 : Int32)).toInt64)) * (1099511628211 : Int64)) ^^^ (((f220 (x4 + (1 : Int32))) &&& (255 : Int32)).toInt64)) * (1099511628211 : Int64)) ^^^ (((((((-3750763034362895579 : Int64) ^^^ (((f220 x4) &&& (255 : Int32)).toInt64)) * (1099511628211 : Int64)) ^^^ (((f220 (x4 + (1 : Int32))) &&& (255 : Int32)).toInt64)) * (1099511628211 : Int64)).toUInt64 >>> ((33 : Int32) &&& 0x3f).toInt64.toUInt64).toInt64)) * (-49064778989728563 : Int64)) ^^^ (((((((((-3750763034362895579 : Int64) ^^^ (((f220 x4) &&& (255 : Int32)).toInt64)) * (1099511628211 : Int64)) ^^^ (((f220 (x4 + (1 : Int32))) &&& (255 : Int32)).toInt64)) * (1099511628211 : Int64)) ^^^ (((((((-3750763034362895579 : Int64) ^^^ (((f220 x4) &&& (255 : Int32)).toInt64)) * (1099511628211 : Int64)) ^^^ (((f220 (x4 + (1 : Int32))) &&& (255 : Int32)).toInt64)) * (1099511628211 : Int64)).toUInt64 >>> ((33 : Int32) &&& 0x3f).toInt64.toUInt64).toInt64)) * (-49064778989728563 : Int64)).toUInt64 >>> ((33 : Int32) &&& 0x3f).toInt64.toUInt64).toInt64)) * (-4265267296055464877 : Int64)) ^^^ (((((((((((-3750763034362895579 : Int64) ^^^ (((f220 x4) &&& (255 : Int32)).toInt64)) * (1099511628211 : Int64)) ^^^ (((f220 (x4 + (1 : Int32))) &&& (255 : Int32)).toInt64)) * (1099511628211 : Int64)) ^^^ (((((((-3750763034362895579 : Int64) ^^^ (((f220 x4) &&& (255 : Int32)).toInt64)) * (1099511628211 : Int64)) ^^^ (((f220 (x4 + (1 : Int32))) &&& (255 : Int32)).toInt64)) * (1099511628211 : Int64)).toUInt64 >>> ((33 : Int32) &&& 0x3f).toInt64.toUInt64).toInt64)) * (-49064778989728563 : Int64)) ^^^ (((((((((-3750763034362895579 : Int64) ^^^ (((f220 x4) &&& (255 : Int32)).toInt64)) * (1099511628211 : Int64)) ^^^ (((f220 (x4 + (1 : Int32))) &&& (255 : Int32)).toInt64)) * (1099511628211 : Int64)) ^^^ (((((((-3750763034362895579 : Int64) ^^^ (((f220 x4) &&& (255 : Int32)).toInt64)) * (1099511628211 : Int64)) ^^^ (((f220 (x4 + (1 : Int32))) &&& (255 : Int32)).toInt64)) * (1099511628211 : Int64)).toUInt64 >>> ((33 : Int32) &&& 0x3f).toInt64.toUInt64).toInt64)) * (-49064778989728563 : Int64)).toUInt64 >>> ((33 : Int32) &&& 0x3f).toInt64.toUInt64).toInt64)) * (-4265267296055464877 : Int64)).toUInt64 >>> ((33 : Int32) &&& 0x3f).toInt64.toUInt64).toInt64))) (v228 : Int32) (hv228 : v228 = (if v212 = (0 : Int32) then (0 : Int32) else (if x222 = x208 then (0 : Int32) else (1 : Int32)))) (hc13 : x6 = (2 : Int32)) : v228 = (1 : Int32) := by
  have ka0 : f166 x2 = (nar .byte ((q0_0.toInt32).toInt8.toInt32)) := by rw [hf166]; exact ((if_neg (own_ne0 (by decide))).trans (if_pos rfl))
  have ka1 : f166 (x2 + (1 : Int32)) = (nar .byte ((((q0_0.toUInt64 >>> ((8 : Int32) &&& 0x3f).toInt64.toUInt64).toInt64).toInt32).toInt8.toInt32)) := by rw [hf166]; exact (if_pos rfl)
  have kb0 : f183 x4 = (nar .byte ((q0_0.toInt32).toInt8.toInt32)) := by rw [hf183]; exact ((if_neg (own_ne0 (by decide))).trans (if_pos rfl))
  have kb1 : f183 (x4 + (1 : Int32)) = (nar .byte ((((q0_0.toUInt64 >>> ((8 : Int32) &&& 0x3f).toInt64.toUInt64).toInt64).toInt32).toInt8.toInt32)) := by rw [hf183]; exact (if_pos rfl)
  have kc0 : f201 x4 = (nar .byte ((q0_0.toInt32).toInt8.toInt32)) := by rw [hf201]; exact ((if_neg (own_ne0 (by decide))).trans (if_pos rfl))
  have kc1 : f201 (x4 + (1 : Int32)) = (nar .byte ((((q0_0.toUInt64 >>> ((8 : Int32) &&& 0x3f).toInt64.toUInt64).toInt64).toInt32).toInt8.toInt32)) := by rw [hf201]; exact (if_pos rfl)
  have ea : x204 = own_mix (own_st (own_st own_seed (f166 x2)) (f166 (x2 + (1 : Int32)))) := hx204
  rw [ka0, ka1] at ea
  have eb : x208 = own_mix (own_st (own_st own_seed (f183 x4)) (f183 (x4 + (1 : Int32)))) := hx208
  rw [kb0, kb1] at eb
  have el : x215 = (x4 + (1 : Int32)) := by rw [hx215]; exact (own_asa _ _ _).trans (congrArg (fun z => x4 + z) (by decide : (2 : Int32) - 1 = 1))
  have kf0 : f220 x4 = (nar .byte ((q0_0.toInt32).toInt8.toInt32)) := by rw [hf220]; refine (if_neg (by rw [el]; exact (own_ne0 (by decide)))).trans ?_; exact kc0
  have kf1 : f220 (x4 + (1 : Int32)) = (nar .byte (((nar .byte ((((q0_0.toUInt64 >>> ((8 : Int32) &&& 0x3f).toInt64.toUInt64).toInt64).toInt32).toInt8.toInt32)) ^^^ x8).toInt8.toInt32)) := by rw [hf220]; refine (if_pos el.symm).trans ?_; rw [el, kc1]
  have ec : x222 = own_mix (own_st (own_st own_seed (f220 x4)) (f220 (x4 + (1 : Int32)))) := hx222
  rw [kf0, kf1] at ec
  have hd := own_d p0_5 x8 hx8
  have es : v212 = 1 := by rw [hv212, if_pos (ea.trans eb.symm)]
  have en : ¬ x222 = x208 := by
    rw [ec, eb]
    intro q
    exact own_flip _ _ hd.1 hd.2 (own_st_inj (own_mix_inj q))
  rw [hv228, if_neg (by rw [es]; decide), if_neg en]
theorem own_fin3 (q0_0 : Int64) (q0_1 : Int64) (q0_2 : Int64) (p0_3 : Int32) (p0_4 : Int32) (p0_5 : Int32) (x2 : Int32) (hx2 : x2 = (p0_3 &&& (7 : Int32))) (x4 : Int32) (hx4 : x4 = (((p0_3.toUInt32 >>> ((3 : Int32) &&& 31).toUInt32).toInt32) &&& (7 : Int32))) (x6 : Int32) (hx6 : x6 = ((p0_4 &&& (2147483647 : Int32)) % (5 : Int32))) (x8 : Int32) (hx8 : x8 = (((p0_5 &&& (2147483647 : Int32)) % (255 : Int32)) + (1 : Int32))) (y232 : Int32) (hy232 : y232 = (nar .byte ((q0_1.toInt32).toInt8.toInt32))) (y233 : Int32) (hy233 : y233 = (nar .byte ((((q0_1.toUInt64 >>> ((8 : Int32) &&& 0x3f).toInt64.toUInt64).toInt64).toInt32).toInt8.toInt32))) (y234 : Int32) (hy234 : y234 = (nar .byte ((((q0_1.toUInt64 >>> ((16 : Int32) &&& 0x3f).toInt64.toUInt64).toInt64).toInt32).toInt8.toInt32))) (y235 : Int32) (hy235 : y235 = (nar .byte ((((q0_1.toUInt64 >>> ((24 : Int32) &&& 0x3f).toInt64.toUInt64).toInt64).toInt32).toInt8.toInt32))) (y236 : Int32) (hy236 : y236 = (nar .byte ((((q0_1.toUInt64 >>> ((32 : Int32) &&& 0x3f).toInt64.toUInt64).toInt64).toInt32).toInt8.toInt32))) (y237 : Int32) (hy237 : y237 = (nar .byte ((((q0_1.toUInt64 >>> ((40 : Int32) &&& 0x3f).toInt64.toUInt64).toInt64).toInt32).toInt8.toInt32))) (y238 : Int32) (hy238 : y238 = (nar .byte ((((q0_1.toUInt64 >>> ((48 : Int32) &&& 0x3f).toInt64.toUInt64).toInt64).toInt32).toInt8.toInt32))) (y239 : Int32) (hy239 : y239 = (nar .byte ((((q0_1.toUInt64 >>> ((56 : Int32) &&& 0x3f).toInt64.toUInt64).toInt64).toInt32).toInt8.toInt32))) (y240 : Int32) (hy240 : y240 = (nar .byte ((((q0_1.toUInt64 >>> ((4 : Int32) &&& 0x3f).toInt64.toUInt64).toInt64).toInt32).toInt8.toInt32))) (y241 : Int32) (hy241 : y241 = (nar .byte ((((q0_1.toUInt64 >>> ((12 : Int32) &&& 0x3f).toInt64.toUInt64).toInt64).toInt32).toInt8.toInt32))) (y242 : Int32) (hy242 : y242 = (nar .byte ((((q0_1.toUInt64 >>> ((20 : Int32) &&& 0x3f).toInt64.toUInt64).toInt64).toInt32).toInt8.toInt32))) (y243 : Int32) (hy243 : y243 = (nar .byte ((((q0_1.toUInt64 >>> ((28 : Int32) &&& 0x3f).toInt64.toUInt64).toInt64).toInt32).toInt8.toInt32))) (f245 : Int32 → Int32) (hf245 : f245 = (fun i => ([y232, y233, y234, y235, y236, y237, y238, y239, y240, y241, y242, y243] : List Int32).getD i.toNatClampNeg 0)) (f247 : Int32 → Int32) (hf247 : f247 = (fun i => if i = (x2 + (2 : Int32)) then (nar .byte ((((q0_0.toUInt64 >>> ((16 : Int32) &&& 0x3f).toInt64.toUInt64).toInt64).toInt32).toInt8.toInt32)) else (fun i => if i = (x2 + (1 : Int32)) then (nar .byte ((((q0_0.toUInt64 >>> ((8 : Int32) &&& 0x3f).toInt64.toUInt64).toInt64).toInt32).toInt8.toInt32)) else (fun i => if i = x2 then (nar .byte ((q0_0.toInt32).toInt8.toInt32)) else f245 i) i) i)) (y249 : Int32) (hy249 : y249 = (nar .byte ((q0_2.toInt32).toInt8.toInt32))) (y250 : Int32) (hy250 : y250 = (nar .byte ((((q0_2.toUInt64 >>> ((8 : Int32) &&& 0x3f).toInt64.toUInt64).toInt64).toInt32).toInt8.toInt32))) (y251 : Int32) (hy251 : y251 = (nar .byte ((((q0_2.toUInt64 >>> ((16 : Int32) &&& 0x3f).toInt64.toUInt64).toInt64).toInt32).toInt8.toInt32))) (y252 : Int32) (hy252 : y252 = (nar .byte ((((q0_2.toUInt64 >>> ((24 : Int32) &&& 0x3f).toInt64.toUInt64).toInt64).toInt32).toInt8.toInt32))) (y253 : Int32) (hy253 : y253 = (nar .byte ((((q0_2.toUInt64 >>> ((32 : Int32) &&& 0x3f).toInt64.toUInt64).toInt64).toInt32).toInt8.toInt32))) (y254 : Int32) (hy254 : y254 = (nar .byte ((((q0_2.toUInt64 >>> ((40 : Int32) &&& 0x3f).toInt64.toUInt64).toInt64).toInt32).toInt8.toInt32))) (y255 : Int32) (hy255 : y255 = (nar .byte ((((q0_2.toUInt64 >>> ((48 : Int32) &&& 0x3f).toInt64.toUInt64).toInt64).toInt32).toInt8.toInt32))) (y256 : Int32) (hy256 : y256 = (nar .byte ((((q0_2.toUInt64 >>> ((56 : Int32) &&& 0x3f).toInt64.toUInt64).toInt64).toInt32).toInt8.toInt32))) (y257 : Int32) (hy257 : y257 = (nar .byte ((((q0_2.toUInt64 >>> ((4 : Int32) &&& 0x3f).toInt64.toUInt64).toInt64).toInt32).toInt8.toInt32))) (y258 : Int32) (hy258 : y258 = (nar .byte ((((q0_2.toUInt64 >>> ((12 : Int32) &&& 0x3f).toInt64.toUInt64).toInt64).toInt32).toInt8.toInt32))) (y259 : Int32) (hy259 : y259 = (nar .byte ((((q0_2.toUInt64 >>> ((20 : Int32) &&& 0x3f).toInt64.toUInt64).toInt64).toInt32).toInt8.toInt32))) (y260 : Int32) (hy260 : y260 = (nar .byte ((((q0_2.toUInt64 >>> ((28 : Int32) &&& 0x3f).toInt64.toUInt64).toInt64).toInt32).toInt8.toInt32))) (f262 : Int32 → Int32) (hf262 : f262 = (fun i => ([y249, y250, y251, y252, y253, y254, y255, y256, y257, y258, y259, y260] : List Int32).getD i.toNatClampNeg 0)) (f264 : Int32 → Int32) (hf264 : f264 = (fun i => if i = (x4 + (2 : Int32)) then (nar .byte ((((q0_0.toUInt64 >>> ((16 : Int32) &&& 0x3f).toInt64.toUInt64).toInt64).toInt32).toInt8.toInt32)) else (fun i => if i = (x4 + (1 : Int32)) then (nar .byte ((((q0_0.toUInt64 >>> ((8 : Int32) &&& 0x3f).toInt64.toUInt64).toInt64).toInt32).toInt8.toInt32)) else (fun i => if i = x4 then (nar .byte ((q0_0.toInt32).toInt8.toInt32)) else f262 i) i) i)) (y267 : Int32) (hy267 : y267 = (nar .byte ((q0_2.toInt32).toInt8.toInt32))) (y268 : Int32) (hy268 : y268 = (nar .byte ((((q0_2.toUInt64 >>> ((8 : Int32) &&& 0x3f).toInt64.toUInt64).toInt64).toInt32).toInt8.toInt32))) (y269 : Int32) (hy269 : y269 = (nar .byte ((((q0_2.toUInt64 >>> ((16 : Int32) &&& 0x3f).toInt64.toUInt64).toInt64).toInt32).toInt8.toInt32))) (y270 : Int32) (hy270 : y270 = (nar .byte ((((q0_2.toUInt64 >>> ((24 : Int32) &&& 0x3f).toInt64.toUInt64).toInt64).toInt32).toInt8.toInt32))) (y271 : Int32) (hy271 : y271 = (nar .byte ((((q0_2.toUInt64 >>> ((32 : Int32) &&& 0x3f).toInt64.toUInt64).toInt64).toInt32).toInt8.toInt32))) (y272 : Int32) (hy272 : y272 = (nar .byte ((((q0_2.toUInt64 >>> ((40 : Int32) &&& 0x3f).toInt64.toUInt64).toInt64).toInt32).toInt8.toInt32))) (y273 : Int32) (hy273 : y273 = (nar .byte ((((q0_2.toUInt64 >>> ((48 : Int32) &&& 0x3f).toInt64.toUInt64).toInt64).toInt32).toInt8.toInt32))) (y274 : Int32) (hy274 : y274 = (nar .byte ((((q0_2.toUInt64 >>> ((56 : Int32) &&& 0x3f).toInt64.toUInt64).toInt64).toInt32).toInt8.toInt32))) (y275 : Int32) (hy275 : y275 = (nar .byte ((((q0_2.toUInt64 >>> ((4 : Int32) &&& 0x3f).toInt64.toUInt64).toInt64).toInt32).toInt8.toInt32))) (y276 : Int32) (hy276 : y276 = (nar .byte ((((q0_2.toUInt64 >>> ((12 : Int32) &&& 0x3f).toInt64.toUInt64).toInt64).toInt32).toInt8.toInt32))) (y277 : Int32) (hy277 : y277 = (nar .byte ((((q0_2.toUInt64 >>> ((20 : Int32) &&& 0x3f).toInt64.toUInt64).toInt64).toInt32).toInt8.toInt32))) (y278 : Int32) (hy278 : y278 = (nar .byte ((((q0_2.toUInt64 >>> ((28 : Int32) &&& 0x3f).toInt64.toUInt64).toInt64).toInt32).toInt8.toInt32))) (f280 : Int32 → Int32) (hf280 : f280 = (fun i => ([y267, y268, y269, y270, y271, y272, y273, y274, y275, y276, y277, y278] : List Int32).getD i.toNatClampNeg 0)) (f282 : Int32 → Int32) (hf282 : f282 = (fun i => if i = (x4 + (2 : Int32)) then (nar .byte ((((q0_0.toUInt64 >>> ((16 : Int32) &&& 0x3f).toInt64.toUInt64).toInt64).toInt32).toInt8.toInt32)) else (fun i => if i = (x4 + (1 : Int32)) then (nar .byte ((((q0_0.toUInt64 >>> ((8 : Int32) &&& 0x3f).toInt64.toUInt64).toInt64).toInt32).toInt8.toInt32)) else (fun i => if i = x4 then (nar .byte ((q0_0.toInt32).toInt8.toInt32)) else f280 i) i) i)) (x285 : Int64) (hx285 : x285 = ((((((((((((-3750763034362895579 : Int64) ^^^ (((f247 x2) &&& (255 : Int32)).toInt64)) * (1099511628211 : Int64)) ^^^ (((f247 (x2 + (1 : Int32))) &&& (255 : Int32)).toInt64)) * (1099511628211 : Int64)) ^^^ (((f247 (x2 + (2 : Int32))) &&& (255 : Int32)).toInt64)) * (1099511628211 : Int64)) ^^^ (((((((((-3750763034362895579 : Int64) ^^^ (((f247 x2) &&& (255 : Int32)).toInt64)) * (1099511628211 : Int64)) ^^^ (((f247 (x2 + (1 : Int32))) &&& (255 : Int32)).toInt64)) * (1099511628211 : Int64)) ^^^ (((f247 (x2 + (2 : Int32))) &&& (255 : Int32)).toInt64)) * (1099511628211 : Int64)).toUInt64 >>> ((33 : Int32) &&& 0x3f).toInt64.toUInt64).toInt64)) * (-49064778989728563 : Int64)) ^^^ (((((((((((-3750763034362895579 : Int64) ^^^ (((f247 x2) &&& (255 : Int32)).toInt64)) * (1099511628211 : Int64)) ^^^ (((f247 (x2 + (1 : Int32))) &&& (255 : Int32)).toInt64)) * (1099511628211 : Int64)) ^^^ (((f247 (x2 + (2 : Int32))) &&& (255 : Int32)).toInt64)) * (1099511628211 : Int64)) ^^^ (((((((((-3750763034362895579 : Int64) ^^^ (((f247 x2) &&& (255 : Int32)).toInt64)) * (1099511628211 : Int64)) ^^^ (((f247 (x2 + (1 : Int32))) &&& (255 : Int32)).toInt64)) * (1099511628211 : Int64)) ^^^ (((f247 (x2 + (2 : Int32))) &&& (255 : Int32)).toInt64)) * (1099511628211 : Int64)).toUInt64 >>> ((33 : Int32) &&& 0x3f).toInt64.toUInt64).toInt64)) * (-49064778989728563 : Int64)).toUInt64 >>> ((33 : Int32) &&& 0x3f).toInt64.toUInt64).toInt64)) * (-4265267296055464877 : Int64)) ^^^ (((((((((((((-3750763034362895579 : Int64) ^^^ (((f247 x2) &&& (255 : Int32)).toInt64)) * (1099511628211 : Int64)) ^^^ (((f247 (x2 + (1 : Int32))) &&& (255 : Int32)).toInt64)) * (1099511628211 : Int64)) ^^^ (((f247 (x2 + (2 : Int32))) &&& (255 : Int32)).toInt64)) * (1099511628211 : Int64)) ^^^ (((((((((-3750763034362895579 : Int64) ^^^ (((f247 x2) &&& (255 : Int32)).toInt64)) * (1099511628211 : Int64)) ^^^ (((f247 (x2 + (1 : Int32))) &&& (255 : Int32)).toInt64)) * (1099511628211 : Int64)) ^^^ (((f247 (x2 + (2 : Int32))) &&& (255 : Int32)).toInt64)) * (1099511628211 : Int64)).toUInt64 >>> ((33 : Int32) &&& 0x3f).toInt64.toUInt64).toInt64)) * (-49064778989728563 : Int64)) ^^^ (((((((((((-3750763034362895579 : Int64) ^^^ (((f247 x2) &&& (255 : Int32)).toInt64)) * (1099511628211 : Int64)) ^^^ (((f247 (x2 + (1 : Int32))) &&& (255 : Int32)).toInt64)) * (1099511628211 : Int64)) ^^^ (((f247 (x2 + (2 : Int32))) &&& (255 : Int32)).toInt64)) * (1099511628211 : Int64)) ^^^ (((((((((-3750763034362895579 : Int64) ^^^ (((f247 x2) &&& (255 : Int32)).toInt64)) * (1099511628211 : Int64)) ^^^ (((f247 (x2 + (1 : Int32))) &&& (255 : Int32)).toInt64)) * (1099511628211 : Int64)) ^^^ (((f247 (x2 + (2 : Int32))) &&& (255 : Int32)).toInt64)) * (1099511628211 : Int64)).toUInt64 >>> ((33 : Int32) &&& 0x3f).toInt64.toUInt64).toInt64)) * (-49064778989728563 : Int64)).toUInt64 >>> ((33 : Int32) &&& 0x3f).toInt64.toUInt64).toInt64)) * (-4265267296055464877 : Int64)).toUInt64 >>> ((33 : Int32) &&& 0x3f).toInt64.toUInt64).toInt64))) (x289 : Int64) (hx289 : x289 = ((((((((((((-3750763034362895579 : Int64) ^^^ (((f264 x4) &&& (255 : Int32)).toInt64)) * (1099511628211 : Int64)) ^^^ (((f264 (x4 + (1 : Int32))) &&& (255 : Int32)).toInt64)) * (1099511628211 : Int64)) ^^^ (((f264 (x4 + (2 : Int32))) &&& (255 : Int32)).toInt64)) * (1099511628211 : Int64)) ^^^ (((((((((-3750763034362895579 : Int64) ^^^ (((f264 x4) &&& (255 : Int32)).toInt64)) * (1099511628211 : Int64)) ^^^ (((f264 (x4 + (1 : Int32))) &&& (255 : Int32)).toInt64)) * (1099511628211 : Int64)) ^^^ (((f264 (x4 + (2 : Int32))) &&& (255 : Int32)).toInt64)) * (1099511628211 : Int64)).toUInt64 >>> ((33 : Int32) &&& 0x3f).toInt64.toUInt64).toInt64)) * (-49064778989728563 : Int64)) ^^^ (((((((((((-3750763034362895579 : Int64) ^^^ (((f264 x4) &&& (255 : Int32)).toInt64)) * (1099511628211 : Int64)) ^^^ (((f264 (x4 + (1 : Int32))) &&& (255 : Int32)).toInt64)) * (1099511628211 : Int64)) ^^^ (((f264 (x4 + (2 : Int32))) &&& (255 : Int32)).toInt64)) * (1099511628211 : Int64)) ^^^ (((((((((-3750763034362895579 : Int64) ^^^ (((f264 x4) &&& (255 : Int32)).toInt64)) * (1099511628211 : Int64)) ^^^ (((f264 (x4 + (1 : Int32))) &&& (255 : Int32)).toInt64)) * (1099511628211 : Int64)) ^^^ (((f264 (x4 + (2 : Int32))) &&& (255 : Int32)).toInt64)) * (1099511628211 : Int64)).toUInt64 >>> ((33 : Int32) &&& 0x3f).toInt64.toUInt64).toInt64)) * (-49064778989728563 : Int64)).toUInt64 >>> ((33 : Int32) &&& 0x3f).toInt64.toUInt64).toInt64)) * (-4265267296055464877 : Int64)) ^^^ (((((((((((((-3750763034362895579 : Int64) ^^^ (((f264 x4) &&& (255 : Int32)).toInt64)) * (1099511628211 : Int64)) ^^^ (((f264 (x4 + (1 : Int32))) &&& (255 : Int32)).toInt64)) * (1099511628211 : Int64)) ^^^ (((f264 (x4 + (2 : Int32))) &&& (255 : Int32)).toInt64)) * (1099511628211 : Int64)) ^^^ (((((((((-3750763034362895579 : Int64) ^^^ (((f264 x4) &&& (255 : Int32)).toInt64)) * (1099511628211 : Int64)) ^^^ (((f264 (x4 + (1 : Int32))) &&& (255 : Int32)).toInt64)) * (1099511628211 : Int64)) ^^^ (((f264 (x4 + (2 : Int32))) &&& (255 : Int32)).toInt64)) * (1099511628211 : Int64)).toUInt64 >>> ((33 : Int32) &&& 0x3f).toInt64.toUInt64).toInt64)) * (-49064778989728563 : Int64)) ^^^ (((((((((((-3750763034362895579 : Int64) ^^^ (((f264 x4) &&& (255 : Int32)).toInt64)) * (1099511628211 : Int64)) ^^^ (((f264 (x4 + (1 : Int32))) &&& (255 : Int32)).toInt64)) * (1099511628211 : Int64)) ^^^ (((f264 (x4 + (2 : Int32))) &&& (255 : Int32)).toInt64)) * (1099511628211 : Int64)) ^^^ (((((((((-3750763034362895579 : Int64) ^^^ (((f264 x4) &&& (255 : Int32)).toInt64)) * (1099511628211 : Int64)) ^^^ (((f264 (x4 + (1 : Int32))) &&& (255 : Int32)).toInt64)) * (1099511628211 : Int64)) ^^^ (((f264 (x4 + (2 : Int32))) &&& (255 : Int32)).toInt64)) * (1099511628211 : Int64)).toUInt64 >>> ((33 : Int32) &&& 0x3f).toInt64.toUInt64).toInt64)) * (-49064778989728563 : Int64)).toUInt64 >>> ((33 : Int32) &&& 0x3f).toInt64.toUInt64).toInt64)) * (-4265267296055464877 : Int64)).toUInt64 >>> ((33 : Int32) &&& 0x3f).toInt64.toUInt64).toInt64))) (v293 : Int32) (hv293 : v293 = (if x285 = x289 then (1 : Int32) else (0 : Int32))) (x296 : Int32) (hx296 : x296 = ((x4 + (3 : Int32)) - (1 : Int32))) (f301 : Int32 → Int32) (hf301 : f301 = (fun i => if i = x296 then (nar .byte (((f282 x296) ^^^ x8).toInt8.toInt32)) else f282 i)) (x303 : Int64) (hx303 : x303 = ((((((((((((-3750763034362895579 : Int64) ^^^ (((f301 x4) &&& (255 : Int32)).toInt64)) * (1099511628211 : Int64)) ^^^ (((f301 (x4 + (1 : Int32))) &&& (255 : Int32)).toInt64)) * (1099511628211 : Int64)) ^^^ (((f301 (x4 + (2 : Int32))) &&& (255 : Int32)).toInt64)) * (1099511628211 : Int64)) ^^^ (((((((((-3750763034362895579 : Int64) ^^^ (((f301 x4) &&& (255 : Int32)).toInt64)) * (1099511628211 : Int64)) ^^^ (((f301 (x4 + (1 : Int32))) &&& (255 : Int32)).toInt64)) * (1099511628211 : Int64)) ^^^ (((f301 (x4 + (2 : Int32))) &&& (255 : Int32)).toInt64)) * (1099511628211 : Int64)).toUInt64 >>> ((33 : Int32) &&& 0x3f).toInt64.toUInt64).toInt64)) * (-49064778989728563 : Int64)) ^^^ (((((((((((-3750763034362895579 : Int64) ^^^ (((f301 x4) &&& (255 : Int32)).toInt64)) * (1099511628211 : Int64)) ^^^ (((f301 (x4 + (1 : Int32))) &&& (255 : Int32)).toInt64)) * (1099511628211 : Int64)) ^^^ (((f301 (x4 + (2 : Int32))) &&& (255 : Int32)).toInt64)) * (1099511628211 : Int64)) ^^^ (((((((((-3750763034362895579 : Int64) ^^^ (((f301 x4) &&& (255 : Int32)).toInt64)) * (1099511628211 : Int64)) ^^^ (((f301 (x4 + (1 : Int32))) &&& (255 : Int32)).toInt64)) * (1099511628211 : Int64)) ^^^ (((f301 (x4 + (2 : Int32))) &&& (255 : Int32)).toInt64)) * (1099511628211 : Int64)).toUInt64 >>> ((33 : Int32) &&& 0x3f).toInt64.toUInt64).toInt64)) * (-49064778989728563 : Int64)).toUInt64 >>> ((33 : Int32) &&& 0x3f).toInt64.toUInt64).toInt64)) * (-4265267296055464877 : Int64)) ^^^ (((((((((((((-3750763034362895579 : Int64) ^^^ (((f301 x4) &&& (255 : Int32)).toInt64)) * (1099511628211 : Int64)) ^^^ (((f301 (x4 + (1 : Int32))) &&& (255 : Int32)).toInt64)) * (1099511628211 : Int64)) ^^^ (((f301 (x4 + (2 : Int32))) &&& (255 : Int32)).toInt64)) * (1099511628211 : Int64)) ^^^ (((((((((-3750763034362895579 : Int64) ^^^ (((f301 x4) &&& (255 : Int32)).toInt64)) * (1099511628211 : Int64)) ^^^ (((f301 (x4 + (1 : Int32))) &&& (255 : Int32)).toInt64)) * (1099511628211 : Int64)) ^^^ (((f301 (x4 + (2 : Int32))) &&& (255 : Int32)).toInt64)) * (1099511628211 : Int64)).toUInt64 >>> ((33 : Int32) &&& 0x3f).toInt64.toUInt64).toInt64)) * (-49064778989728563 : Int64)) ^^^ (((((((((((-3750763034362895579 : Int64) ^^^ (((f301 x4) &&& (255 : Int32)).toInt64)) * (1099511628211 : Int64)) ^^^ (((f301 (x4 + (1 : Int32))) &&& (255 : Int32)).toInt64)) * (1099511628211 : Int64)) ^^^ (((f301 (x4 + (2 : Int32))) &&& (255 : Int32)).toInt64)) * (1099511628211 : Int64)) ^^^ (((((((((-3750763034362895579 : Int64) ^^^ (((f301 x4) &&& (255 : Int32)).toInt64)) * (1099511628211 : Int64)) ^^^ (((f301 (x4 + (1 : Int32))) &&& (255 : Int32)).toInt64)) * (1099511628211 : Int64)) ^^^ (((f301 (x4 + (2 : Int32))) &&& (255 : Int32)).toInt64)) * (1099511628211 : Int64)).toUInt64 >>> ((33 : Int32) &&& 0x3f).toInt64.toUInt64).toInt64)) * (-49064778989728563 : Int64)).toUInt64 >>> ((33 : Int32) &&& 0x3f).toInt64.toUInt64).toInt64)) * (-4265267296055464877 : Int64)).toUInt64 >>> ((33 : Int32) &&& 0x3f).toInt64.toUInt64).toInt64))) (v309 : Int32) (hv309 : v309 = (if v293 = (0 : Int32) then (0 : Int32) else (if x303 = x289 then (0 : Int32) else (1 : Int32)))) (hc14 : x6 = (3 : Int32)) : v309 = (1 : Int32) := by
  have ka0 : f247 x2 = (nar .byte ((q0_0.toInt32).toInt8.toInt32)) := by rw [hf247]; exact ((if_neg (own_ne0 (by decide))).trans ((if_neg (own_ne0 (by decide))).trans (if_pos rfl)))
  have ka1 : f247 (x2 + (1 : Int32)) = (nar .byte ((((q0_0.toUInt64 >>> ((8 : Int32) &&& 0x3f).toInt64.toUInt64).toInt64).toInt32).toInt8.toInt32)) := by rw [hf247]; exact ((if_neg (own_ne (by decide))).trans (if_pos rfl))
  have ka2 : f247 (x2 + (2 : Int32)) = (nar .byte ((((q0_0.toUInt64 >>> ((16 : Int32) &&& 0x3f).toInt64.toUInt64).toInt64).toInt32).toInt8.toInt32)) := by rw [hf247]; exact (if_pos rfl)
  have kb0 : f264 x4 = (nar .byte ((q0_0.toInt32).toInt8.toInt32)) := by rw [hf264]; exact ((if_neg (own_ne0 (by decide))).trans ((if_neg (own_ne0 (by decide))).trans (if_pos rfl)))
  have kb1 : f264 (x4 + (1 : Int32)) = (nar .byte ((((q0_0.toUInt64 >>> ((8 : Int32) &&& 0x3f).toInt64.toUInt64).toInt64).toInt32).toInt8.toInt32)) := by rw [hf264]; exact ((if_neg (own_ne (by decide))).trans (if_pos rfl))
  have kb2 : f264 (x4 + (2 : Int32)) = (nar .byte ((((q0_0.toUInt64 >>> ((16 : Int32) &&& 0x3f).toInt64.toUInt64).toInt64).toInt32).toInt8.toInt32)) := by rw [hf264]; exact (if_pos rfl)
  have kc0 : f282 x4 = (nar .byte ((q0_0.toInt32).toInt8.toInt32)) := by rw [hf282]; exact ((if_neg (own_ne0 (by decide))).trans ((if_neg (own_ne0 (by decide))).trans (if_pos rfl)))
  have kc1 : f282 (x4 + (1 : Int32)) = (nar .byte ((((q0_0.toUInt64 >>> ((8 : Int32) &&& 0x3f).toInt64.toUInt64).toInt64).toInt32).toInt8.toInt32)) := by rw [hf282]; exact ((if_neg (own_ne (by decide))).trans (if_pos rfl))
  have kc2 : f282 (x4 + (2 : Int32)) = (nar .byte ((((q0_0.toUInt64 >>> ((16 : Int32) &&& 0x3f).toInt64.toUInt64).toInt64).toInt32).toInt8.toInt32)) := by rw [hf282]; exact (if_pos rfl)
  have ea : x285 = own_mix (own_st (own_st (own_st own_seed (f247 x2)) (f247 (x2 + (1 : Int32)))) (f247 (x2 + (2 : Int32)))) := hx285
  rw [ka0, ka1, ka2] at ea
  have eb : x289 = own_mix (own_st (own_st (own_st own_seed (f264 x4)) (f264 (x4 + (1 : Int32)))) (f264 (x4 + (2 : Int32)))) := hx289
  rw [kb0, kb1, kb2] at eb
  have el : x296 = (x4 + (2 : Int32)) := by rw [hx296]; exact (own_asa _ _ _).trans (congrArg (fun z => x4 + z) (by decide : (3 : Int32) - 1 = 2))
  have kf0 : f301 x4 = (nar .byte ((q0_0.toInt32).toInt8.toInt32)) := by rw [hf301]; refine (if_neg (by rw [el]; exact (own_ne0 (by decide)))).trans ?_; exact kc0
  have kf1 : f301 (x4 + (1 : Int32)) = (nar .byte ((((q0_0.toUInt64 >>> ((8 : Int32) &&& 0x3f).toInt64.toUInt64).toInt64).toInt32).toInt8.toInt32)) := by rw [hf301]; refine (if_neg (by rw [el]; exact (own_ne (by decide)))).trans ?_; exact kc1
  have kf2 : f301 (x4 + (2 : Int32)) = (nar .byte (((nar .byte ((((q0_0.toUInt64 >>> ((16 : Int32) &&& 0x3f).toInt64.toUInt64).toInt64).toInt32).toInt8.toInt32)) ^^^ x8).toInt8.toInt32)) := by rw [hf301]; refine (if_pos el.symm).trans ?_; rw [el, kc2]
  have ec : x303 = own_mix (own_st (own_st (own_st own_seed (f301 x4)) (f301 (x4 + (1 : Int32)))) (f301 (x4 + (2 : Int32)))) := hx303
  rw [kf0, kf1, kf2] at ec
  have hd := own_d p0_5 x8 hx8
  have es : v293 = 1 := by rw [hv293, if_pos (ea.trans eb.symm)]
  have en : ¬ x303 = x289 := by
    rw [ec, eb]
    intro q
    exact own_flip _ _ hd.1 hd.2 (own_st_inj (own_mix_inj q))
  rw [hv309, if_neg (by rw [es]; decide), if_neg en]
theorem own_fin4 (q0_0 : Int64) (q0_1 : Int64) (q0_2 : Int64) (p0_3 : Int32) (p0_4 : Int32) (p0_5 : Int32) (x2 : Int32) (hx2 : x2 = (p0_3 &&& (7 : Int32))) (x4 : Int32) (hx4 : x4 = (((p0_3.toUInt32 >>> ((3 : Int32) &&& 31).toUInt32).toInt32) &&& (7 : Int32))) (x6 : Int32) (hx6 : x6 = ((p0_4 &&& (2147483647 : Int32)) % (5 : Int32))) (x8 : Int32) (hx8 : x8 = (((p0_5 &&& (2147483647 : Int32)) % (255 : Int32)) + (1 : Int32))) (y313 : Int32) (hy313 : y313 = (nar .byte ((q0_1.toInt32).toInt8.toInt32))) (y314 : Int32) (hy314 : y314 = (nar .byte ((((q0_1.toUInt64 >>> ((8 : Int32) &&& 0x3f).toInt64.toUInt64).toInt64).toInt32).toInt8.toInt32))) (y315 : Int32) (hy315 : y315 = (nar .byte ((((q0_1.toUInt64 >>> ((16 : Int32) &&& 0x3f).toInt64.toUInt64).toInt64).toInt32).toInt8.toInt32))) (y316 : Int32) (hy316 : y316 = (nar .byte ((((q0_1.toUInt64 >>> ((24 : Int32) &&& 0x3f).toInt64.toUInt64).toInt64).toInt32).toInt8.toInt32))) (y317 : Int32) (hy317 : y317 = (nar .byte ((((q0_1.toUInt64 >>> ((32 : Int32) &&& 0x3f).toInt64.toUInt64).toInt64).toInt32).toInt8.toInt32))) (y318 : Int32) (hy318 : y318 = (nar .byte ((((q0_1.toUInt64 >>> ((40 : Int32) &&& 0x3f).toInt64.toUInt64).toInt64).toInt32).toInt8.toInt32))) (y319 : Int32) (hy319 : y319 = (nar .byte ((((q0_1.toUInt64 >>> ((48 : Int32) &&& 0x3f).toInt64.toUInt64).toInt64).toInt32).toInt8.toInt32))) (y320 : Int32) (hy320 : y320 = (nar .byte ((((q0_1.toUInt64 >>> ((56 : Int32) &&& 0x3f).toInt64.toUInt64).toInt64).toInt32).toInt8.toInt32))) (y321 : Int32) (hy321 : y321 = (nar .byte ((((q0_1.toUInt64 >>> ((4 : Int32) &&& 0x3f).toInt64.toUInt64).toInt64).toInt32).toInt8.toInt32))) (y322 : Int32) (hy322 : y322 = (nar .byte ((((q0_1.toUInt64 >>> ((12 : Int32) &&& 0x3f).toInt64.toUInt64).toInt64).toInt32).toInt8.toInt32))) (y323 : Int32) (hy323 : y323 = (nar .byte ((((q0_1.toUInt64 >>> ((20 : Int32) &&& 0x3f).toInt64.toUInt64).toInt64).toInt32).toInt8.toInt32))) (y324 : Int32) (hy324 : y324 = (nar .byte ((((q0_1.toUInt64 >>> ((28 : Int32) &&& 0x3f).toInt64.toUInt64).toInt64).toInt32).toInt8.toInt32))) (f326 : Int32 → Int32) (hf326 : f326 = (fun i => ([y313, y314, y315, y316, y317, y318, y319, y320, y321, y322, y323, y324] : List Int32).getD i.toNatClampNeg 0)) (f328 : Int32 → Int32) (hf328 : f328 = (fun i => if i = (x2 + (3 : Int32)) then (nar .byte ((((q0_0.toUInt64 >>> ((24 : Int32) &&& 0x3f).toInt64.toUInt64).toInt64).toInt32).toInt8.toInt32)) else (fun i => if i = (x2 + (2 : Int32)) then (nar .byte ((((q0_0.toUInt64 >>> ((16 : Int32) &&& 0x3f).toInt64.toUInt64).toInt64).toInt32).toInt8.toInt32)) else (fun i => if i = (x2 + (1 : Int32)) then (nar .byte ((((q0_0.toUInt64 >>> ((8 : Int32) &&& 0x3f).toInt64.toUInt64).toInt64).toInt32).toInt8.toInt32)) else (fun i => if i = x2 then (nar .byte ((q0_0.toInt32).toInt8.toInt32)) else f326 i) i) i) i)) (y330 : Int32) (hy330 : y330 = (nar .byte ((q0_2.toInt32).toInt8.toInt32))) (y331 : Int32) (hy331 : y331 = (nar .byte ((((q0_2.toUInt64 >>> ((8 : Int32) &&& 0x3f).toInt64.toUInt64).toInt64).toInt32).toInt8.toInt32))) (y332 : Int32) (hy332 : y332 = (nar .byte ((((q0_2.toUInt64 >>> ((16 : Int32) &&& 0x3f).toInt64.toUInt64).toInt64).toInt32).toInt8.toInt32))) (y333 : Int32) (hy333 : y333 = (nar .byte ((((q0_2.toUInt64 >>> ((24 : Int32) &&& 0x3f).toInt64.toUInt64).toInt64).toInt32).toInt8.toInt32))) (y334 : Int32) (hy334 : y334 = (nar .byte ((((q0_2.toUInt64 >>> ((32 : Int32) &&& 0x3f).toInt64.toUInt64).toInt64).toInt32).toInt8.toInt32))) (y335 : Int32) (hy335 : y335 = (nar .byte ((((q0_2.toUInt64 >>> ((40 : Int32) &&& 0x3f).toInt64.toUInt64).toInt64).toInt32).toInt8.toInt32))) (y336 : Int32) (hy336 : y336 = (nar .byte ((((q0_2.toUInt64 >>> ((48 : Int32) &&& 0x3f).toInt64.toUInt64).toInt64).toInt32).toInt8.toInt32))) (y337 : Int32) (hy337 : y337 = (nar .byte ((((q0_2.toUInt64 >>> ((56 : Int32) &&& 0x3f).toInt64.toUInt64).toInt64).toInt32).toInt8.toInt32))) (y338 : Int32) (hy338 : y338 = (nar .byte ((((q0_2.toUInt64 >>> ((4 : Int32) &&& 0x3f).toInt64.toUInt64).toInt64).toInt32).toInt8.toInt32))) (y339 : Int32) (hy339 : y339 = (nar .byte ((((q0_2.toUInt64 >>> ((12 : Int32) &&& 0x3f).toInt64.toUInt64).toInt64).toInt32).toInt8.toInt32))) (y340 : Int32) (hy340 : y340 = (nar .byte ((((q0_2.toUInt64 >>> ((20 : Int32) &&& 0x3f).toInt64.toUInt64).toInt64).toInt32).toInt8.toInt32))) (y341 : Int32) (hy341 : y341 = (nar .byte ((((q0_2.toUInt64 >>> ((28 : Int32) &&& 0x3f).toInt64.toUInt64).toInt64).toInt32).toInt8.toInt32))) (f343 : Int32 → Int32) (hf343 : f343 = (fun i => ([y330, y331, y332, y333, y334, y335, y336, y337, y338, y339, y340, y341] : List Int32).getD i.toNatClampNeg 0)) (f345 : Int32 → Int32) (hf345 : f345 = (fun i => if i = (x4 + (3 : Int32)) then (nar .byte ((((q0_0.toUInt64 >>> ((24 : Int32) &&& 0x3f).toInt64.toUInt64).toInt64).toInt32).toInt8.toInt32)) else (fun i => if i = (x4 + (2 : Int32)) then (nar .byte ((((q0_0.toUInt64 >>> ((16 : Int32) &&& 0x3f).toInt64.toUInt64).toInt64).toInt32).toInt8.toInt32)) else (fun i => if i = (x4 + (1 : Int32)) then (nar .byte ((((q0_0.toUInt64 >>> ((8 : Int32) &&& 0x3f).toInt64.toUInt64).toInt64).toInt32).toInt8.toInt32)) else (fun i => if i = x4 then (nar .byte ((q0_0.toInt32).toInt8.toInt32)) else f343 i) i) i) i)) (y348 : Int32) (hy348 : y348 = (nar .byte ((q0_2.toInt32).toInt8.toInt32))) (y349 : Int32) (hy349 : y349 = (nar .byte ((((q0_2.toUInt64 >>> ((8 : Int32) &&& 0x3f).toInt64.toUInt64).toInt64).toInt32).toInt8.toInt32))) (y350 : Int32) (hy350 : y350 = (nar .byte ((((q0_2.toUInt64 >>> ((16 : Int32) &&& 0x3f).toInt64.toUInt64).toInt64).toInt32).toInt8.toInt32))) (y351 : Int32) (hy351 : y351 = (nar .byte ((((q0_2.toUInt64 >>> ((24 : Int32) &&& 0x3f).toInt64.toUInt64).toInt64).toInt32).toInt8.toInt32))) (y352 : Int32) (hy352 : y352 = (nar .byte ((((q0_2.toUInt64 >>> ((32 : Int32) &&& 0x3f).toInt64.toUInt64).toInt64).toInt32).toInt8.toInt32))) (y353 : Int32) (hy353 : y353 = (nar .byte ((((q0_2.toUInt64 >>> ((40 : Int32) &&& 0x3f).toInt64.toUInt64).toInt64).toInt32).toInt8.toInt32))) (y354 : Int32) (hy354 : y354 = (nar .byte ((((q0_2.toUInt64 >>> ((48 : Int32) &&& 0x3f).toInt64.toUInt64).toInt64).toInt32).toInt8.toInt32))) (y355 : Int32) (hy355 : y355 = (nar .byte ((((q0_2.toUInt64 >>> ((56 : Int32) &&& 0x3f).toInt64.toUInt64).toInt64).toInt32).toInt8.toInt32))) (y356 : Int32) (hy356 : y356 = (nar .byte ((((q0_2.toUInt64 >>> ((4 : Int32) &&& 0x3f).toInt64.toUInt64).toInt64).toInt32).toInt8.toInt32))) (y357 : Int32) (hy357 : y357 = (nar .byte ((((q0_2.toUInt64 >>> ((12 : Int32) &&& 0x3f).toInt64.toUInt64).toInt64).toInt32).toInt8.toInt32))) (y358 : Int32) (hy358 : y358 = (nar .byte ((((q0_2.toUInt64 >>> ((20 : Int32) &&& 0x3f).toInt64.toUInt64).toInt64).toInt32).toInt8.toInt32))) (y359 : Int32) (hy359 : y359 = (nar .byte ((((q0_2.toUInt64 >>> ((28 : Int32) &&& 0x3f).toInt64.toUInt64).toInt64).toInt32).toInt8.toInt32))) (f361 : Int32 → Int32) (hf361 : f361 = (fun i => ([y348, y349, y350, y351, y352, y353, y354, y355, y356, y357, y358, y359] : List Int32).getD i.toNatClampNeg 0)) (f363 : Int32 → Int32) (hf363 : f363 = (fun i => if i = (x4 + (3 : Int32)) then (nar .byte ((((q0_0.toUInt64 >>> ((24 : Int32) &&& 0x3f).toInt64.toUInt64).toInt64).toInt32).toInt8.toInt32)) else (fun i => if i = (x4 + (2 : Int32)) then (nar .byte ((((q0_0.toUInt64 >>> ((16 : Int32) &&& 0x3f).toInt64.toUInt64).toInt64).toInt32).toInt8.toInt32)) else (fun i => if i = (x4 + (1 : Int32)) then (nar .byte ((((q0_0.toUInt64 >>> ((8 : Int32) &&& 0x3f).toInt64.toUInt64).toInt64).toInt32).toInt8.toInt32)) else (fun i => if i = x4 then (nar .byte ((q0_0.toInt32).toInt8.toInt32)) else f361 i) i) i) i)) (x366 : Int64) (hx366 : x366 = ((((((((((((((-3750763034362895579 : Int64) ^^^ (((f328 x2) &&& (255 : Int32)).toInt64)) * (1099511628211 : Int64)) ^^^ (((f328 (x2 + (1 : Int32))) &&& (255 : Int32)).toInt64)) * (1099511628211 : Int64)) ^^^ (((f328 (x2 + (2 : Int32))) &&& (255 : Int32)).toInt64)) * (1099511628211 : Int64)) ^^^ (((f328 (x2 + (3 : Int32))) &&& (255 : Int32)).toInt64)) * (1099511628211 : Int64)) ^^^ (((((((((((-3750763034362895579 : Int64) ^^^ (((f328 x2) &&& (255 : Int32)).toInt64)) * (1099511628211 : Int64)) ^^^ (((f328 (x2 + (1 : Int32))) &&& (255 : Int32)).toInt64)) * (1099511628211 : Int64)) ^^^ (((f328 (x2 + (2 : Int32))) &&& (255 : Int32)).toInt64)) * (1099511628211 : Int64)) ^^^ (((f328 (x2 + (3 : Int32))) &&& (255 : Int32)).toInt64)) * (1099511628211 : Int64)).toUInt64 >>> ((33 : Int32) &&& 0x3f).toInt64.toUInt64).toInt64)) * (-49064778989728563 : Int64)) ^^^ (((((((((((((-3750763034362895579 : Int64) ^^^ (((f328 x2) &&& (255 : Int32)).toInt64)) * (1099511628211 : Int64)) ^^^ (((f328 (x2 + (1 : Int32))) &&& (255 : Int32)).toInt64)) * (1099511628211 : Int64)) ^^^ (((f328 (x2 + (2 : Int32))) &&& (255 : Int32)).toInt64)) * (1099511628211 : Int64)) ^^^ (((f328 (x2 + (3 : Int32))) &&& (255 : Int32)).toInt64)) * (1099511628211 : Int64)) ^^^ (((((((((((-3750763034362895579 : Int64) ^^^ (((f328 x2) &&& (255 : Int32)).toInt64)) * (1099511628211 : Int64)) ^^^ (((f328 (x2 + (1 : Int32))) &&& (255 : Int32)).toInt64)) * (1099511628211 : Int64)) ^^^ (((f328 (x2 + (2 : Int32))) &&& (255 : Int32)).toInt64)) * (1099511628211 : Int64)) ^^^ (((f328 (x2 + (3 : Int32))) &&& (255 : Int32)).toInt64)) * (1099511628211 : Int64)).toUInt64 >>> ((33 : Int32) &&& 0x3f).toInt64.toUInt64).toInt64)) * (-49064778989728563 : Int64)).toUInt64 >>> ((33 : Int32) &&& 0x3f).toInt64.toUInt64).toInt64)) * (-4265267296055464877 : Int64)) ^^^ (((((((((((((((-3750763034362895579 : Int64) ^^^ (((f328 x2) &&& (255 : Int32)).toInt64)) * (1099511628211 : Int64)) ^^^ (((f328 (x2 + (1 : Int32))) &&& (255 : Int32)).toInt64)) * (1099511628211 : Int64)) ^^^ (((f328 (x2 + (2 : Int32))) &&& (255 : Int32)).toInt64)) * (1099511628211 : Int64)) ^^^ (((f328 (x2 + (3 : Int32))) &&& (255 : Int32)).toInt64)) * (1099511628211 : Int64)) ^^^ (((((((((((-3750763034362895579 : Int64) ^^^ (((f328 x2) &&& (255 : Int32)).toInt64)) * (1099511628211 : Int64)) ^^^ (((f328 (x2 + (1 : Int32))) &&& (255 : Int32)).toInt64)) * (1099511628211 : Int64)) ^^^ (((f328 (x2 + (2 : Int32))) &&& (255 : Int32)).toInt64)) * (1099511628211 : Int64)) ^^^ (((f328 (x2 + (3 : Int32))) &&& (255 : Int32)).toInt64)) * (1099511628211 : Int64)).toUInt64 >>> ((33 : Int32) &&& 0x3f).toInt64.toUInt64).toInt64)) * (-49064778989728563 : Int64)) ^^^ (((((((((((((-3750763034362895579 : Int64) ^^^ (((f328 x2) &&& (255 : Int32)).toInt64)) * (1099511628211 : Int64)) ^^^ (((f328 (x2 + (1 : Int32))) &&& (255 : Int32)).toInt64)) * (1099511628211 : Int64)) ^^^ (((f328 (x2 + (2 : Int32))) &&& (255 : Int32)).toInt64)) * (1099511628211 : Int64)) ^^^ (((f328 (x2 + (3 : Int32))) &&& (255 : Int32)).toInt64)) * (1099511628211 : Int64)) ^^^ (((((((((((-3750763034362895579 : Int64) ^^^ (((f328 x2) &&& (255 : Int32)).toInt64)) * (1099511628211 : Int64)) ^^^ (((f328 (x2 + (1 : Int32))) &&& (255 : Int32)).toInt64)) * (1099511628211 : Int64)) ^^^ (((f328 (x2 + (2 : Int32))) &&& (255 : Int32)).toInt64)) * (1099511628211 : Int64)) ^^^ (((f328 (x2 + (3 : Int32))) &&& (255 : Int32)).toInt64)) * (1099511628211 : Int64)).toUInt64 >>> ((33 : Int32) &&& 0x3f).toInt64.toUInt64).toInt64)) * (-49064778989728563 : Int64)).toUInt64 >>> ((33 : Int32) &&& 0x3f).toInt64.toUInt64).toInt64)) * (-4265267296055464877 : Int64)).toUInt64 >>> ((33 : Int32) &&& 0x3f).toInt64.toUInt64).toInt64))) (x370 : Int64) (hx370 : x370 = ((((((((((((((-3750763034362895579 : Int64) ^^^ (((f345 x4) &&& (255 : Int32)).toInt64)) * (1099511628211 : Int64)) ^^^ (((f345 (x4 + (1 : Int32))) &&& (255 : Int32)).toInt64)) * (1099511628211 : Int64)) ^^^ (((f345 (x4 + (2 : Int32))) &&& (255 : Int32)).toInt64)) * (1099511628211 : Int64)) ^^^ (((f345 (x4 + (3 : Int32))) &&& (255 : Int32)).toInt64)) * (1099511628211 : Int64)) ^^^ (((((((((((-3750763034362895579 : Int64) ^^^ (((f345 x4) &&& (255 : Int32)).toInt64)) * (1099511628211 : Int64)) ^^^ (((f345 (x4 + (1 : Int32))) &&& (255 : Int32)).toInt64)) * (1099511628211 : Int64)) ^^^ (((f345 (x4 + (2 : Int32))) &&& (255 : Int32)).toInt64)) * (1099511628211 : Int64)) ^^^ (((f345 (x4 + (3 : Int32))) &&& (255 : Int32)).toInt64)) * (1099511628211 : Int64)).toUInt64 >>> ((33 : Int32) &&& 0x3f).toInt64.toUInt64).toInt64)) * (-49064778989728563 : Int64)) ^^^ (((((((((((((-3750763034362895579 : Int64) ^^^ (((f345 x4) &&& (255 : Int32)).toInt64)) * (1099511628211 : Int64)) ^^^ (((f345 (x4 + (1 : Int32))) &&& (255 : Int32)).toInt64)) * (1099511628211 : Int64)) ^^^ (((f345 (x4 + (2 : Int32))) &&& (255 : Int32)).toInt64)) * (1099511628211 : Int64)) ^^^ (((f345 (x4 + (3 : Int32))) &&& (255 : Int32)).toInt64)) * (1099511628211 : Int64)) ^^^ (((((((((((-3750763034362895579 : Int64) ^^^ (((f345 x4) &&& (255 : Int32)).toInt64)) * (1099511628211 : Int64)) ^^^ (((f345 (x4 + (1 : Int32))) &&& (255 : Int32)).toInt64)) * (1099511628211 : Int64)) ^^^ (((f345 (x4 + (2 : Int32))) &&& (255 : Int32)).toInt64)) * (1099511628211 : Int64)) ^^^ (((f345 (x4 + (3 : Int32))) &&& (255 : Int32)).toInt64)) * (1099511628211 : Int64)).toUInt64 >>> ((33 : Int32) &&& 0x3f).toInt64.toUInt64).toInt64)) * (-49064778989728563 : Int64)).toUInt64 >>> ((33 : Int32) &&& 0x3f).toInt64.toUInt64).toInt64)) * (-4265267296055464877 : Int64)) ^^^ (((((((((((((((-3750763034362895579 : Int64) ^^^ (((f345 x4) &&& (255 : Int32)).toInt64)) * (1099511628211 : Int64)) ^^^ (((f345 (x4 + (1 : Int32))) &&& (255 : Int32)).toInt64)) * (1099511628211 : Int64)) ^^^ (((f345 (x4 + (2 : Int32))) &&& (255 : Int32)).toInt64)) * (1099511628211 : Int64)) ^^^ (((f345 (x4 + (3 : Int32))) &&& (255 : Int32)).toInt64)) * (1099511628211 : Int64)) ^^^ (((((((((((-3750763034362895579 : Int64) ^^^ (((f345 x4) &&& (255 : Int32)).toInt64)) * (1099511628211 : Int64)) ^^^ (((f345 (x4 + (1 : Int32))) &&& (255 : Int32)).toInt64)) * (1099511628211 : Int64)) ^^^ (((f345 (x4 + (2 : Int32))) &&& (255 : Int32)).toInt64)) * (1099511628211 : Int64)) ^^^ (((f345 (x4 + (3 : Int32))) &&& (255 : Int32)).toInt64)) * (1099511628211 : Int64)).toUInt64 >>> ((33 : Int32) &&& 0x3f).toInt64.toUInt64).toInt64)) * (-49064778989728563 : Int64)) ^^^ (((((((((((((-3750763034362895579 : Int64) ^^^ (((f345 x4) &&& (255 : Int32)).toInt64)) * (1099511628211 : Int64)) ^^^ (((f345 (x4 + (1 : Int32))) &&& (255 : Int32)).toInt64)) * (1099511628211 : Int64)) ^^^ (((f345 (x4 + (2 : Int32))) &&& (255 : Int32)).toInt64)) * (1099511628211 : Int64)) ^^^ (((f345 (x4 + (3 : Int32))) &&& (255 : Int32)).toInt64)) * (1099511628211 : Int64)) ^^^ (((((((((((-3750763034362895579 : Int64) ^^^ (((f345 x4) &&& (255 : Int32)).toInt64)) * (1099511628211 : Int64)) ^^^ (((f345 (x4 + (1 : Int32))) &&& (255 : Int32)).toInt64)) * (1099511628211 : Int64)) ^^^ (((f345 (x4 + (2 : Int32))) &&& (255 : Int32)).toInt64)) * (1099511628211 : Int64)) ^^^ (((f345 (x4 + (3 : Int32))) &&& (255 : Int32)).toInt64)) * (1099511628211 : Int64)).toUInt64 >>> ((33 : Int32) &&& 0x3f).toInt64.toUInt64).toInt64)) * (-49064778989728563 : Int64)).toUInt64 >>> ((33 : Int32) &&& 0x3f).toInt64.toUInt64).toInt64)) * (-4265267296055464877 : Int64)).toUInt64 >>> ((33 : Int32) &&& 0x3f).toInt64.toUInt64).toInt64))) (v374 : Int32) (hv374 : v374 = (if x366 = x370 then (1 : Int32) else (0 : Int32))) (x377 : Int32) (hx377 : x377 = ((x4 + (4 : Int32)) - (1 : Int32))) (f382 : Int32 → Int32) (hf382 : f382 = (fun i => if i = x377 then (nar .byte (((f363 x377) ^^^ x8).toInt8.toInt32)) else f363 i)) (x384 : Int64) (hx384 : x384 = ((((((((((((((-3750763034362895579 : Int64) ^^^ (((f382 x4) &&& (255 : Int32)).toInt64)) * (1099511628211 : Int64)) ^^^ (((f382 (x4 + (1 : Int32))) &&& (255 : Int32)).toInt64)) * (1099511628211 : Int64)) ^^^ (((f382 (x4 + (2 : Int32))) &&& (255 : Int32)).toInt64)) * (1099511628211 : Int64)) ^^^ (((f382 (x4 + (3 : Int32))) &&& (255 : Int32)).toInt64)) * (1099511628211 : Int64)) ^^^ (((((((((((-3750763034362895579 : Int64) ^^^ (((f382 x4) &&& (255 : Int32)).toInt64)) * (1099511628211 : Int64)) ^^^ (((f382 (x4 + (1 : Int32))) &&& (255 : Int32)).toInt64)) * (1099511628211 : Int64)) ^^^ (((f382 (x4 + (2 : Int32))) &&& (255 : Int32)).toInt64)) * (1099511628211 : Int64)) ^^^ (((f382 (x4 + (3 : Int32))) &&& (255 : Int32)).toInt64)) * (1099511628211 : Int64)).toUInt64 >>> ((33 : Int32) &&& 0x3f).toInt64.toUInt64).toInt64)) * (-49064778989728563 : Int64)) ^^^ (((((((((((((-3750763034362895579 : Int64) ^^^ (((f382 x4) &&& (255 : Int32)).toInt64)) * (1099511628211 : Int64)) ^^^ (((f382 (x4 + (1 : Int32))) &&& (255 : Int32)).toInt64)) * (1099511628211 : Int64)) ^^^ (((f382 (x4 + (2 : Int32))) &&& (255 : Int32)).toInt64)) * (1099511628211 : Int64)) ^^^ (((f382 (x4 + (3 : Int32))) &&& (255 : Int32)).toInt64)) * (1099511628211 : Int64)) ^^^ (((((((((((-3750763034362895579 : Int64) ^^^ (((f382 x4) &&& (255 : Int32)).toInt64)) * (1099511628211 : Int64)) ^^^ (((f382 (x4 + (1 : Int32))) &&& (255 : Int32)).toInt64)) * (1099511628211 : Int64)) ^^^ (((f382 (x4 + (2 : Int32))) &&& (255 : Int32)).toInt64)) * (1099511628211 : Int64)) ^^^ (((f382 (x4 + (3 : Int32))) &&& (255 : Int32)).toInt64)) * (1099511628211 : Int64)).toUInt64 >>> ((33 : Int32) &&& 0x3f).toInt64.toUInt64).toInt64)) * (-49064778989728563 : Int64)).toUInt64 >>> ((33 : Int32) &&& 0x3f).toInt64.toUInt64).toInt64)) * (-4265267296055464877 : Int64)) ^^^ (((((((((((((((-3750763034362895579 : Int64) ^^^ (((f382 x4) &&& (255 : Int32)).toInt64)) * (1099511628211 : Int64)) ^^^ (((f382 (x4 + (1 : Int32))) &&& (255 : Int32)).toInt64)) * (1099511628211 : Int64)) ^^^ (((f382 (x4 + (2 : Int32))) &&& (255 : Int32)).toInt64)) * (1099511628211 : Int64)) ^^^ (((f382 (x4 + (3 : Int32))) &&& (255 : Int32)).toInt64)) * (1099511628211 : Int64)) ^^^ (((((((((((-3750763034362895579 : Int64) ^^^ (((f382 x4) &&& (255 : Int32)).toInt64)) * (1099511628211 : Int64)) ^^^ (((f382 (x4 + (1 : Int32))) &&& (255 : Int32)).toInt64)) * (1099511628211 : Int64)) ^^^ (((f382 (x4 + (2 : Int32))) &&& (255 : Int32)).toInt64)) * (1099511628211 : Int64)) ^^^ (((f382 (x4 + (3 : Int32))) &&& (255 : Int32)).toInt64)) * (1099511628211 : Int64)).toUInt64 >>> ((33 : Int32) &&& 0x3f).toInt64.toUInt64).toInt64)) * (-49064778989728563 : Int64)) ^^^ (((((((((((((-3750763034362895579 : Int64) ^^^ (((f382 x4) &&& (255 : Int32)).toInt64)) * (1099511628211 : Int64)) ^^^ (((f382 (x4 + (1 : Int32))) &&& (255 : Int32)).toInt64)) * (1099511628211 : Int64)) ^^^ (((f382 (x4 + (2 : Int32))) &&& (255 : Int32)).toInt64)) * (1099511628211 : Int64)) ^^^ (((f382 (x4 + (3 : Int32))) &&& (255 : Int32)).toInt64)) * (1099511628211 : Int64)) ^^^ (((((((((((-3750763034362895579 : Int64) ^^^ (((f382 x4) &&& (255 : Int32)).toInt64)) * (1099511628211 : Int64)) ^^^ (((f382 (x4 + (1 : Int32))) &&& (255 : Int32)).toInt64)) * (1099511628211 : Int64)) ^^^ (((f382 (x4 + (2 : Int32))) &&& (255 : Int32)).toInt64)) * (1099511628211 : Int64)) ^^^ (((f382 (x4 + (3 : Int32))) &&& (255 : Int32)).toInt64)) * (1099511628211 : Int64)).toUInt64 >>> ((33 : Int32) &&& 0x3f).toInt64.toUInt64).toInt64)) * (-49064778989728563 : Int64)).toUInt64 >>> ((33 : Int32) &&& 0x3f).toInt64.toUInt64).toInt64)) * (-4265267296055464877 : Int64)).toUInt64 >>> ((33 : Int32) &&& 0x3f).toInt64.toUInt64).toInt64))) (v390 : Int32) (hv390 : v390 = (if v374 = (0 : Int32) then (0 : Int32) else (if x384 = x370 then (0 : Int32) else (1 : Int32)))) (hc15 : x6 = (4 : Int32)) : v390 = (1 : Int32) := by
  have ka0 : f328 x2 = (nar .byte ((q0_0.toInt32).toInt8.toInt32)) := by rw [hf328]; exact ((if_neg (own_ne0 (by decide))).trans ((if_neg (own_ne0 (by decide))).trans ((if_neg (own_ne0 (by decide))).trans (if_pos rfl))))
  have ka1 : f328 (x2 + (1 : Int32)) = (nar .byte ((((q0_0.toUInt64 >>> ((8 : Int32) &&& 0x3f).toInt64.toUInt64).toInt64).toInt32).toInt8.toInt32)) := by rw [hf328]; exact ((if_neg (own_ne (by decide))).trans ((if_neg (own_ne (by decide))).trans (if_pos rfl)))
  have ka2 : f328 (x2 + (2 : Int32)) = (nar .byte ((((q0_0.toUInt64 >>> ((16 : Int32) &&& 0x3f).toInt64.toUInt64).toInt64).toInt32).toInt8.toInt32)) := by rw [hf328]; exact ((if_neg (own_ne (by decide))).trans (if_pos rfl))
  have ka3 : f328 (x2 + (3 : Int32)) = (nar .byte ((((q0_0.toUInt64 >>> ((24 : Int32) &&& 0x3f).toInt64.toUInt64).toInt64).toInt32).toInt8.toInt32)) := by rw [hf328]; exact (if_pos rfl)
  have kb0 : f345 x4 = (nar .byte ((q0_0.toInt32).toInt8.toInt32)) := by rw [hf345]; exact ((if_neg (own_ne0 (by decide))).trans ((if_neg (own_ne0 (by decide))).trans ((if_neg (own_ne0 (by decide))).trans (if_pos rfl))))
  have kb1 : f345 (x4 + (1 : Int32)) = (nar .byte ((((q0_0.toUInt64 >>> ((8 : Int32) &&& 0x3f).toInt64.toUInt64).toInt64).toInt32).toInt8.toInt32)) := by rw [hf345]; exact ((if_neg (own_ne (by decide))).trans ((if_neg (own_ne (by decide))).trans (if_pos rfl)))
  have kb2 : f345 (x4 + (2 : Int32)) = (nar .byte ((((q0_0.toUInt64 >>> ((16 : Int32) &&& 0x3f).toInt64.toUInt64).toInt64).toInt32).toInt8.toInt32)) := by rw [hf345]; exact ((if_neg (own_ne (by decide))).trans (if_pos rfl))
  have kb3 : f345 (x4 + (3 : Int32)) = (nar .byte ((((q0_0.toUInt64 >>> ((24 : Int32) &&& 0x3f).toInt64.toUInt64).toInt64).toInt32).toInt8.toInt32)) := by rw [hf345]; exact (if_pos rfl)
  have kc0 : f363 x4 = (nar .byte ((q0_0.toInt32).toInt8.toInt32)) := by rw [hf363]; exact ((if_neg (own_ne0 (by decide))).trans ((if_neg (own_ne0 (by decide))).trans ((if_neg (own_ne0 (by decide))).trans (if_pos rfl))))
  have kc1 : f363 (x4 + (1 : Int32)) = (nar .byte ((((q0_0.toUInt64 >>> ((8 : Int32) &&& 0x3f).toInt64.toUInt64).toInt64).toInt32).toInt8.toInt32)) := by rw [hf363]; exact ((if_neg (own_ne (by decide))).trans ((if_neg (own_ne (by decide))).trans (if_pos rfl)))
  have kc2 : f363 (x4 + (2 : Int32)) = (nar .byte ((((q0_0.toUInt64 >>> ((16 : Int32) &&& 0x3f).toInt64.toUInt64).toInt64).toInt32).toInt8.toInt32)) := by rw [hf363]; exact ((if_neg (own_ne (by decide))).trans (if_pos rfl))
  have kc3 : f363 (x4 + (3 : Int32)) = (nar .byte ((((q0_0.toUInt64 >>> ((24 : Int32) &&& 0x3f).toInt64.toUInt64).toInt64).toInt32).toInt8.toInt32)) := by rw [hf363]; exact (if_pos rfl)
  have ea : x366 = own_mix (own_st (own_st (own_st (own_st own_seed (f328 x2)) (f328 (x2 + (1 : Int32)))) (f328 (x2 + (2 : Int32)))) (f328 (x2 + (3 : Int32)))) := hx366
  rw [ka0, ka1, ka2, ka3] at ea
  have eb : x370 = own_mix (own_st (own_st (own_st (own_st own_seed (f345 x4)) (f345 (x4 + (1 : Int32)))) (f345 (x4 + (2 : Int32)))) (f345 (x4 + (3 : Int32)))) := hx370
  rw [kb0, kb1, kb2, kb3] at eb
  have el : x377 = (x4 + (3 : Int32)) := by rw [hx377]; exact (own_asa _ _ _).trans (congrArg (fun z => x4 + z) (by decide : (4 : Int32) - 1 = 3))
  have kf0 : f382 x4 = (nar .byte ((q0_0.toInt32).toInt8.toInt32)) := by rw [hf382]; refine (if_neg (by rw [el]; exact (own_ne0 (by decide)))).trans ?_; exact kc0
  have kf1 : f382 (x4 + (1 : Int32)) = (nar .byte ((((q0_0.toUInt64 >>> ((8 : Int32) &&& 0x3f).toInt64.toUInt64).toInt64).toInt32).toInt8.toInt32)) := by rw [hf382]; refine (if_neg (by rw [el]; exact (own_ne (by decide)))).trans ?_; exact kc1
  have kf2 : f382 (x4 + (2 : Int32)) = (nar .byte ((((q0_0.toUInt64 >>> ((16 : Int32) &&& 0x3f).toInt64.toUInt64).toInt64).toInt32).toInt8.toInt32)) := by rw [hf382]; refine (if_neg (by rw [el]; exact (own_ne (by decide)))).trans ?_; exact kc2
  have kf3 : f382 (x4 + (3 : Int32)) = (nar .byte (((nar .byte ((((q0_0.toUInt64 >>> ((24 : Int32) &&& 0x3f).toInt64.toUInt64).toInt64).toInt32).toInt8.toInt32)) ^^^ x8).toInt8.toInt32)) := by rw [hf382]; refine (if_pos el.symm).trans ?_; rw [el, kc3]
  have ec : x384 = own_mix (own_st (own_st (own_st (own_st own_seed (f382 x4)) (f382 (x4 + (1 : Int32)))) (f382 (x4 + (2 : Int32)))) (f382 (x4 + (3 : Int32)))) := hx384
  rw [kf0, kf1, kf2, kf3] at ec
  have hd := own_d p0_5 x8 hx8
  have es : v374 = 1 := by rw [hv374, if_pos (ea.trans eb.symm)]
  have en : ¬ x384 = x370 := by
    rw [ec, eb]
    intro q
    exact own_flip _ _ hd.1 hd.2 (own_st_inj (own_mix_inj q))
  rw [hv390, if_neg (by rw [es]; decide), if_neg en]
theorem pn_0 : plainName "com/example/mortise/mortise/join/RecordKeyHashPinLaw" = true := by first | (simp [plainName, overriddenIn]; done) | decide +kernel
theorem ef_rm0 (m : MethodId) (y0 : Int64) (y1 : Int64) (y2 : Int64) (y3 : Int32) (y4 : Int32) (y5 : Int32) : entryFrame m #[(.long y0), (.long y1), (.long y2), (.int y3), (.int y4), (.int y5)] maxLocals = mkF m 0 #[.val (.long y0), .second, .val (.long y1), .second, .val (.long y2), .second, .val (.int y3), .val (.int y4), .val (.int y5), .unset, .unset, .unset, .unset, .unset, .unset, .unset, .unset, .unset, .unset, .unset, .unset, .unset, .unset, .unset] [] := by first | (simp [entryFrame, mkF, argsToLocals, Value.category, maxLocals]; done) | rfl
def Q_rm0 (Z : State) (q0_0 : Int64) (q0_1 : Int64) (q0_2 : Int64) (p0_3 : Int32) (p0_4 : Int32) (p0_5 : Int32) (h0 : Heap) (n0 : Nat) (v : Option Value) (h : Heap) (L : List Loc) : Prop := v = some (.int (1 : Int32)) ∧ Fr n0 L
set_option maxRecDepth 65536 in
set_option maxHeartbeats 40000000 in
theorem rm0 (l : Launch) (Z : State) (a0 : Array Value) (hw : ∀ d ∈ tables_1, d.before a0 Z = true) (ws : List Jvm.Cond) (q0_0 : Int64) (q0_1 : Int64) (q0_2 : Int64) (p0_3 : Int32) (p0_4 : Int32) (p0_5 : Int32) (h0 : Heap) (n0 : Nat) (Z0 : n0 ≤ h0.size) :
    MetFree l x (head1 (Jvm.Cond.code x code maxLocals ret :: ws) room_1) (fun a U => a = #[(.long q0_0), (.long q0_1), (.long q0_2), (.int p0_3), (.int p0_4), (.int p0_5)] ∧ Z.Warmed39 U.vm ∧ U.heap = h0) (fun _ _ _ _ _ => True) (fun _ U o U' => ∃ v L, o = .returned v ∧ Q_rm0 Z q0_0 q0_1 q0_2 p0_3 p0_4 p0_5 h0 n0 v U'.heap L ∧ FrameEnd U o U' L 16 192) := by
  refine MetFree.of_bodySF (plainFor_of_name pn_0) hisR ?_
  intro p e s m args below meth c s₁ Bd hml0 hP hK
  obtain ⟨rfl, hZ, hh⟩ := hP
  have hx := Bd.exec
  have hby := Bd.bytes
  have hml : c.maxLocals = 24 := hml0
  have hown : s.vm.findClass "com/example/mortise/mortise/join/RecordKeyHashPinLaw" = some m.cls := findClass_of_methodNamed Bd.named
  have hnm := (name_of_methodNamed Bd.named Bd.method).1
  have X0 : Stand p l e room_1 s m #[(.long q0_0), (.long q0_1), (.long q0_2), (.int p0_3), (.int p0_4), (.int p0_5)] below meth c s₁ [] 0 0 := Stand.of_body Bd
  have e0 : s₁.heap = h0 := by rw [← hh, Bd.state]; rfl
  have N0 := Fr.nil n0
  have pre0 : ∀ t, Steps p.tables e below (s₁.setTop (mkF m 0 #[.val (.long q0_0), .second, .val (.long q0_1), .second, .val (.long q0_2), .second, .val (.int p0_3), .val (.int p0_4), .val (.int p0_5), .unset, .unset, .unset, .unset, .unset, .unset, .unset, .unset, .unset, .unset, .unset, .unset, .unset, .unset, .unset] [])) t → Steps p.tables e below (s₁.setTop (entryFrame m #[(.long q0_0), (.long q0_1), (.long q0_2), (.int p0_3), (.int p0_4), (.int p0_5)] maxLocals)) t := fun t k => castTop (ef_rm0 m q0_0 q0_1 q0_2 p0_3 p0_4 p0_5) k
  let A1 : Array Slot := #[.val (.long q0_0), .second, .val (.long q0_1), .second, .val (.long q0_2), .second, .val (.int p0_3), .val (.int p0_4), .val (.int p0_5), .unset, .unset, .unset, .unset, .unset, .unset, .unset, .unset, .unset, .unset, .unset, .unset, .unset, .unset, .unset]
  obtain ⟨x2, hx2⟩ : ∃ z : Int32, z = (p0_3 &&& (7 : Int32)) := ⟨_, rfl⟩
  let A3 : Array Slot := #[.val (.long q0_0), .second, .val (.long q0_1), .second, .val (.long q0_2), .second, .val (.int p0_3), .val (.int p0_4), .val (.int p0_5), .val (.int x2), .unset, .unset, .unset, .unset, .unset, .unset, .unset, .unset, .unset, .unset, .unset, .unset, .unset, .unset]
  obtain ⟨x4, hx4⟩ : ∃ z : Int32, z = (((p0_3.toUInt32 >>> ((3 : Int32) &&& 31).toUInt32).toInt32) &&& (7 : Int32)) := ⟨_, rfl⟩
  let A5 : Array Slot := #[.val (.long q0_0), .second, .val (.long q0_1), .second, .val (.long q0_2), .second, .val (.int p0_3), .val (.int p0_4), .val (.int p0_5), .val (.int x2), .val (.int x4), .unset, .unset, .unset, .unset, .unset, .unset, .unset, .unset, .unset, .unset, .unset, .unset, .unset]
  obtain ⟨x6, hx6⟩ : ∃ z : Int32, z = ((p0_4 &&& (2147483647 : Int32)) % (5 : Int32)) := ⟨_, rfl⟩
  let A7 : Array Slot := #[.val (.long q0_0), .second, .val (.long q0_1), .second, .val (.long q0_2), .second, .val (.int p0_3), .val (.int p0_4), .val (.int p0_5), .val (.int x2), .val (.int x4), .val (.int x6), .unset, .unset, .unset, .unset, .unset, .unset, .unset, .unset, .unset, .unset, .unset, .unset]
  obtain ⟨x8, hx8⟩ : ∃ z : Int32, z = (((p0_5 &&& (2147483647 : Int32)) % (255 : Int32)) + (1 : Int32)) := ⟨_, rfl⟩
  let A9 : Array Slot := #[.val (.long q0_0), .second, .val (.long q0_1), .second, .val (.long q0_2), .second, .val (.int p0_3), .val (.int p0_4), .val (.int p0_5), .val (.int x2), .val (.int x4), .val (.int x6), .val (.int x8), .unset, .unset, .unset, .unset, .unset, .unset, .unset, .unset, .unset, .unset, .unset]
  have G10 : ∀ t, Steps p.tables e below (s₁.setTop (mkF m 38 A9 [])) t → Steps p.tables e below (s₁.setTop (mkF m 0 A1 [])) t := by
    intro t k
    show Steps p.tables e below (s₁.setTop (mkF m 0 A1 [])) _
    refine XS.iload X0.here hx rfl (hb hby at_0) rfl ?_
    show Steps p.tables e below (s₁.setTop (mkF m 2 A1 [(.int p0_3)])) _
    refine XS.bipush X0.here hx rfl (hb hby at_2) ?_
    show Steps p.tables e below (s₁.setTop (mkF m 4 A1 [(.int (7 : Int32)), (.int p0_3)])) _
    refine XS.iand X0.here hx rfl (hb hby at_4) rfl ?_
    show Steps p.tables e below (s₁.setTop (mkF m 5 A1 [(.int (p0_3 &&& (7 : Int32)))])) _
    refine XS.istore X0.here hx rfl (hb hby at_5) rfl (l' := #[.val (.long q0_0), .second, .val (.long q0_1), .second, .val (.long q0_2), .second, .val (.int p0_3), .val (.int p0_4), .val (.int p0_5), .val (.int (p0_3 &&& (7 : Int32))), .unset, .unset, .unset, .unset, .unset, .unset, .unset, .unset, .unset, .unset, .unset, .unset, .unset, .unset]) rfl ?_
    show Steps p.tables e below (s₁.setTop (mkF m 7 #[.val (.long q0_0), .second, .val (.long q0_1), .second, .val (.long q0_2), .second, .val (.int p0_3), .val (.int p0_4), .val (.int p0_5), .val (.int (p0_3 &&& (7 : Int32))), .unset, .unset, .unset, .unset, .unset, .unset, .unset, .unset, .unset, .unset, .unset, .unset, .unset, .unset] [])) _
    rw [← hx2]
    show Steps p.tables e below (s₁.setTop (mkF m 7 A3 [])) _
    refine XS.iload X0.here hx rfl (hb hby at_7) rfl ?_
    show Steps p.tables e below (s₁.setTop (mkF m 9 A3 [(.int p0_3)])) _
    refine XS.iconst X0.here hx rfl (hb hby at_9) ?_
    show Steps p.tables e below (s₁.setTop (mkF m 10 A3 [(.int (3 : Int32)), (.int p0_3)])) _
    refine XS.iushr X0.here hx rfl (hb hby at_10) rfl ?_
    show Steps p.tables e below (s₁.setTop (mkF m 11 A3 [(.int ((p0_3.toUInt32 >>> ((3 : Int32) &&& 31).toUInt32).toInt32))])) _
    refine XS.bipush X0.here hx rfl (hb hby at_11) ?_
    show Steps p.tables e below (s₁.setTop (mkF m 13 A3 [(.int (7 : Int32)), (.int ((p0_3.toUInt32 >>> ((3 : Int32) &&& 31).toUInt32).toInt32))])) _
    refine XS.iand X0.here hx rfl (hb hby at_13) rfl ?_
    show Steps p.tables e below (s₁.setTop (mkF m 14 A3 [(.int (((p0_3.toUInt32 >>> ((3 : Int32) &&& 31).toUInt32).toInt32) &&& (7 : Int32)))])) _
    refine XS.istore X0.here hx rfl (hb hby at_14) rfl (l' := #[.val (.long q0_0), .second, .val (.long q0_1), .second, .val (.long q0_2), .second, .val (.int p0_3), .val (.int p0_4), .val (.int p0_5), .val (.int x2), .val (.int (((p0_3.toUInt32 >>> ((3 : Int32) &&& 31).toUInt32).toInt32) &&& (7 : Int32))), .unset, .unset, .unset, .unset, .unset, .unset, .unset, .unset, .unset, .unset, .unset, .unset, .unset]) rfl ?_
    show Steps p.tables e below (s₁.setTop (mkF m 16 #[.val (.long q0_0), .second, .val (.long q0_1), .second, .val (.long q0_2), .second, .val (.int p0_3), .val (.int p0_4), .val (.int p0_5), .val (.int x2), .val (.int (((p0_3.toUInt32 >>> ((3 : Int32) &&& 31).toUInt32).toInt32) &&& (7 : Int32))), .unset, .unset, .unset, .unset, .unset, .unset, .unset, .unset, .unset, .unset, .unset, .unset, .unset] [])) _
    rw [← hx4]
    show Steps p.tables e below (s₁.setTop (mkF m 16 A5 [])) _
    refine XS.iload X0.here hx rfl (hb hby at_16) rfl ?_
    show Steps p.tables e below (s₁.setTop (mkF m 18 A5 [(.int p0_4)])) _
    refine X0.ldcInt hx hown (mvT hZ (ow0 hw)) (g := (mkF m 18 A5 [(.int p0_4)])) rfl (hb hby at_18) _ ?_
    show Steps p.tables e below (s₁.setTop (mkF m 20 A5 [(.int (2147483647 : Int32)), (.int p0_4)])) _
    refine XS.iand X0.here hx rfl (hb hby at_20) rfl ?_
    show Steps p.tables e below (s₁.setTop (mkF m 21 A5 [(.int (p0_4 &&& (2147483647 : Int32)))])) _
    refine XS.iconst X0.here hx rfl (hb hby at_21) ?_
    show Steps p.tables e below (s₁.setTop (mkF m 22 A5 [(.int (5 : Int32)), (.int (p0_4 &&& (2147483647 : Int32)))])) _
    refine iremM X0 hx rfl (hb hby at_22) rfl (by decide : ¬ ((5 : Int32) = (0 : Int32))) ?_
    show Steps p.tables e below (s₁.setTop (mkF m 23 A5 [(.int ((p0_4 &&& (2147483647 : Int32)) % (5 : Int32)))])) _
    refine XS.istore X0.here hx rfl (hb hby at_23) rfl (l' := #[.val (.long q0_0), .second, .val (.long q0_1), .second, .val (.long q0_2), .second, .val (.int p0_3), .val (.int p0_4), .val (.int p0_5), .val (.int x2), .val (.int x4), .val (.int ((p0_4 &&& (2147483647 : Int32)) % (5 : Int32))), .unset, .unset, .unset, .unset, .unset, .unset, .unset, .unset, .unset, .unset, .unset, .unset]) rfl ?_
    show Steps p.tables e below (s₁.setTop (mkF m 25 #[.val (.long q0_0), .second, .val (.long q0_1), .second, .val (.long q0_2), .second, .val (.int p0_3), .val (.int p0_4), .val (.int p0_5), .val (.int x2), .val (.int x4), .val (.int ((p0_4 &&& (2147483647 : Int32)) % (5 : Int32))), .unset, .unset, .unset, .unset, .unset, .unset, .unset, .unset, .unset, .unset, .unset, .unset] [])) _
    rw [← hx6]
    show Steps p.tables e below (s₁.setTop (mkF m 25 A7 [])) _
    refine XS.iload X0.here hx rfl (hb hby at_25) rfl ?_
    show Steps p.tables e below (s₁.setTop (mkF m 27 A7 [(.int p0_5)])) _
    refine X0.ldcInt hx hown (mvT hZ (ow0 hw)) (g := (mkF m 27 A7 [(.int p0_5)])) rfl (hb hby at_27) _ ?_
    show Steps p.tables e below (s₁.setTop (mkF m 29 A7 [(.int (2147483647 : Int32)), (.int p0_5)])) _
    refine XS.iand X0.here hx rfl (hb hby at_29) rfl ?_
    show Steps p.tables e below (s₁.setTop (mkF m 30 A7 [(.int (p0_5 &&& (2147483647 : Int32)))])) _
    refine XS.sipush X0.here hx rfl (hb hby at_30) ?_
    show Steps p.tables e below (s₁.setTop (mkF m 33 A7 [(.int (255 : Int32)), (.int (p0_5 &&& (2147483647 : Int32)))])) _
    refine iremM X0 hx rfl (hb hby at_33) rfl (by decide : ¬ ((255 : Int32) = (0 : Int32))) ?_
    show Steps p.tables e below (s₁.setTop (mkF m 34 A7 [(.int ((p0_5 &&& (2147483647 : Int32)) % (255 : Int32)))])) _
    refine XS.iconst X0.here hx rfl (hb hby at_34) ?_
    show Steps p.tables e below (s₁.setTop (mkF m 35 A7 [(.int (1 : Int32)), (.int ((p0_5 &&& (2147483647 : Int32)) % (255 : Int32)))])) _
    refine XS.iadd X0.here hx rfl (hb hby at_35) rfl ?_
    show Steps p.tables e below (s₁.setTop (mkF m 36 A7 [(.int (((p0_5 &&& (2147483647 : Int32)) % (255 : Int32)) + (1 : Int32)))])) _
    refine XS.istore X0.here hx rfl (hb hby at_36) rfl (l' := #[.val (.long q0_0), .second, .val (.long q0_1), .second, .val (.long q0_2), .second, .val (.int p0_3), .val (.int p0_4), .val (.int p0_5), .val (.int x2), .val (.int x4), .val (.int x6), .val (.int (((p0_5 &&& (2147483647 : Int32)) % (255 : Int32)) + (1 : Int32))), .unset, .unset, .unset, .unset, .unset, .unset, .unset, .unset, .unset, .unset, .unset]) rfl ?_
    show Steps p.tables e below (s₁.setTop (mkF m 38 #[.val (.long q0_0), .second, .val (.long q0_1), .second, .val (.long q0_2), .second, .val (.int p0_3), .val (.int p0_4), .val (.int p0_5), .val (.int x2), .val (.int x4), .val (.int x6), .val (.int (((p0_5 &&& (2147483647 : Int32)) % (255 : Int32)) + (1 : Int32))), .unset, .unset, .unset, .unset, .unset, .unset, .unset, .unset, .unset, .unset, .unset] [])) _
    rw [← hx8]
    exact k
  rcases own_len p0_4 x6 hx6 with hc11 | hc12 | hc13 | hc14 | hc15
  · let A16 : Array Slot := #[.val (.long q0_0), .second, .val (.long q0_1), .second, .val (.long q0_2), .second, .val (.int p0_3), .val (.int p0_4), .val (.int p0_5), .val (.int x2), .val (.int x4), .val (.int (0 : Int32)), .val (.int x8), .unset, .unset, .unset, .unset, .unset, .unset, .unset, .unset, .unset, .unset, .unset]
    have own_t11 : True := trivial
    obtain ⟨_, _, ⟨T17, L17, k17, n17⟩, -, X17, ⟨Lc17, hQ17, l17, y17, z17⟩, st17⟩ := Jvm.LawKit.callS X0 hx (y := (⟨"com/example/mortise/mortise/join/RecordKeyHashPinLaw", "fill", "(J)[B"⟩ : MethodName)) hown (mvT hZ (ow1 hw)) (mvT hZ (ow2 hw)) (mvT hZ (ow3 hw)) (mvT hZ (ow4 hw)) (by decide) (backOf (W := 0) (rm1 l Z a0 hw [] q0_1 h0 n0 Z0 ) hZ (ow4 hw) (ow3 hw) (by decide) (by decide)) (g := (mkF m 39 A16 [(.long q0_1)])) rfl (by rw [hml]; rfl) (argsL := [(.long q0_1)]) (rest := []) (lenOf pd__J__B rfl) rfl (by show 2 * 0 + _ ≤ _; exact Nat.le_of_eq rfl) (hb hby at_39) (fun _ _ => ⟨rfl, e0, (by decide : 0 + 1 ≤ _), (by decide : 0 + 12 ≤ _)⟩)
    dsimp only [Pt.U, Pt.locs, Pt.cells, Pt.slots] at X17 l17 y17 z17 st17 hQ17
    subst l17 y17 z17
    obtain ⟨bx1_0_17, kx1_0_17, rfl, Nq17, Kc17, P17_0, P17_1⟩ := hQ17
    have K17 : Keep h0 T17.heap [] := Keep.trans (Keep.refl h0 []) Kc17 all0
    have Z17 : n0 ≤ T17.heap.size := Nat.le_trans Z0 K17.1
    have g_bx1_0_17 : n0 ≤ bx1_0_17 := Nat.le_trans Z0 P17_0
    have sz_bx1_0_17 : h0.size ≤ bx1_0_17 := Nat.le_trans (Nat.le_refl _) P17_0
    obtain ⟨y18, hy18⟩ : ∃ z : Int32, z = (nar .byte ((q0_1.toInt32).toInt8.toInt32)) := ⟨_, rfl⟩
    rw [← hy18] at P17_1
    obtain ⟨y19, hy19⟩ : ∃ z : Int32, z = (nar .byte ((((q0_1.toUInt64 >>> ((8 : Int32) &&& 0x3f).toInt64.toUInt64).toInt64).toInt32).toInt8.toInt32)) := ⟨_, rfl⟩
    rw [← hy19] at P17_1
    obtain ⟨y20, hy20⟩ : ∃ z : Int32, z = (nar .byte ((((q0_1.toUInt64 >>> ((16 : Int32) &&& 0x3f).toInt64.toUInt64).toInt64).toInt32).toInt8.toInt32)) := ⟨_, rfl⟩
    rw [← hy20] at P17_1
    obtain ⟨y21, hy21⟩ : ∃ z : Int32, z = (nar .byte ((((q0_1.toUInt64 >>> ((24 : Int32) &&& 0x3f).toInt64.toUInt64).toInt64).toInt32).toInt8.toInt32)) := ⟨_, rfl⟩
    rw [← hy21] at P17_1
    obtain ⟨y22, hy22⟩ : ∃ z : Int32, z = (nar .byte ((((q0_1.toUInt64 >>> ((32 : Int32) &&& 0x3f).toInt64.toUInt64).toInt64).toInt32).toInt8.toInt32)) := ⟨_, rfl⟩
    rw [← hy22] at P17_1
    obtain ⟨y23, hy23⟩ : ∃ z : Int32, z = (nar .byte ((((q0_1.toUInt64 >>> ((40 : Int32) &&& 0x3f).toInt64.toUInt64).toInt64).toInt32).toInt8.toInt32)) := ⟨_, rfl⟩
    rw [← hy23] at P17_1
    obtain ⟨y24, hy24⟩ : ∃ z : Int32, z = (nar .byte ((((q0_1.toUInt64 >>> ((48 : Int32) &&& 0x3f).toInt64.toUInt64).toInt64).toInt32).toInt8.toInt32)) := ⟨_, rfl⟩
    rw [← hy24] at P17_1
    obtain ⟨y25, hy25⟩ : ∃ z : Int32, z = (nar .byte ((((q0_1.toUInt64 >>> ((56 : Int32) &&& 0x3f).toInt64.toUInt64).toInt64).toInt32).toInt8.toInt32)) := ⟨_, rfl⟩
    rw [← hy25] at P17_1
    obtain ⟨y26, hy26⟩ : ∃ z : Int32, z = (nar .byte ((((q0_1.toUInt64 >>> ((4 : Int32) &&& 0x3f).toInt64.toUInt64).toInt64).toInt32).toInt8.toInt32)) := ⟨_, rfl⟩
    rw [← hy26] at P17_1
    obtain ⟨y27, hy27⟩ : ∃ z : Int32, z = (nar .byte ((((q0_1.toUInt64 >>> ((12 : Int32) &&& 0x3f).toInt64.toUInt64).toInt64).toInt32).toInt8.toInt32)) := ⟨_, rfl⟩
    rw [← hy27] at P17_1
    obtain ⟨y28, hy28⟩ : ∃ z : Int32, z = (nar .byte ((((q0_1.toUInt64 >>> ((20 : Int32) &&& 0x3f).toInt64.toUInt64).toInt64).toInt32).toInt8.toInt32)) := ⟨_, rfl⟩
    rw [← hy28] at P17_1
    obtain ⟨y29, hy29⟩ : ∃ z : Int32, z = (nar .byte ((((q0_1.toUInt64 >>> ((28 : Int32) &&& 0x3f).toInt64.toUInt64).toInt64).toInt32).toInt8.toInt32)) := ⟨_, rfl⟩
    rw [← hy29] at P17_1
    have N17 := Fr.app N0 Nq17
    let A30 : Array Slot := #[.val (.long q0_0), .second, .val (.long q0_1), .second, .val (.long q0_2), .second, .val (.int p0_3), .val (.int p0_4), .val (.int p0_5), .val (.int x2), .val (.int x4), .val (.int (0 : Int32)), .val (.int x8), .val (.ref bx1_0_17), .unset, .unset, .unset, .unset, .unset, .unset, .unset, .unset, .unset, .unset]
    obtain ⟨_, _, ⟨T31, L31, k31, n31⟩, -, X31, ⟨Lc31, hQ31, l31, y31, z31⟩, st31⟩ := Jvm.LawKit.callS X17 hx (y := (⟨"com/example/mortise/mortise/join/RecordKeyHashPinLaw", "place", "([BIJI)V"⟩ : MethodName)) hown (mvT hZ (ow6 hw)) (mvT hZ (ow7 hw)) (mvT hZ (ow3 hw)) (mvT hZ (ow8 hw)) (by decide) (backOf (W := 0) (rm2_l0 l Z a0 hw [] bx1_0_17 x2 q0_0 T17.heap n0 Z17 (hx2 ▸ own_m7 p0_3)) hZ (ow8 hw) (ow3 hw) (by decide) (by decide)) (g := (mkF m 51 A30 [(.int (0 : Int32)), (.long q0_0), (.int x2), (.ref bx1_0_17)])) rfl (by rw [hml]; rfl) (argsL := [(.ref bx1_0_17), (.int x2), (.long q0_0), (.int (0 : Int32))]) (rest := []) (lenOf pd___BIJI_V rfl) rfl (by show 2 * 0 + _ ≤ _; exact Nat.le_of_eq rfl) (hb hby at_51) (fun _ _ => ⟨rfl, rfl, (by decide : 1 + 0 ≤ _), (by decide : 12 + 0 ≤ _)⟩)
    dsimp only [Pt.U, Pt.locs, Pt.cells, Pt.slots] at X31 l31 y31 z31 st31 hQ31
    subst l31 y31 z31
    obtain ⟨rfl, Nq31, e31⟩ := hQ31
    have N31 := Fr.app N17 Nq31
    obtain ⟨_, _, ⟨T32, L32, k32, n32⟩, -, X32, ⟨Lc32, hQ32, l32, y32, z32⟩, st32⟩ := Jvm.LawKit.callS X31 hx (y := (⟨"com/example/mortise/mortise/join/RecordKeyHashPinLaw", "fill", "(J)[B"⟩ : MethodName)) hown (mvT hZ (ow1 hw)) (mvT hZ (ow2 hw)) (mvT hZ (ow3 hw)) (mvT hZ (ow4 hw)) (by decide) (backOf (W := 0) (rm1 l Z a0 hw [] q0_2 T17.heap n0 Z17 ) hZ (ow4 hw) (ow3 hw) (by decide) (by decide)) (g := (mkF m 56 A30 [(.long q0_2)])) rfl (by rw [hml]; rfl) (argsL := [(.long q0_2)]) (rest := []) (lenOf pd__J__B rfl) rfl (by show 2 * 0 + _ ≤ _; exact Nat.le_of_eq rfl) (hb hby at_56) (fun _ _ => ⟨rfl, e31, (by decide : 1 + 1 ≤ _), (by decide : 12 + 12 ≤ _)⟩)
    dsimp only [Pt.U, Pt.locs, Pt.cells, Pt.slots] at X32 l32 y32 z32 st32 hQ32
    subst l32 y32 z32
    obtain ⟨bx1_0_32, kx1_0_32, rfl, Nq32, Kc32, P32_0, P32_1⟩ := hQ32
    have K32 : Keep h0 T32.heap [] := Keep.trans K17 Kc32 all0
    have Z32 : n0 ≤ T32.heap.size := Nat.le_trans Z0 K32.1
    have g_bx1_0_32 : n0 ≤ bx1_0_32 := Nat.le_trans Z17 P32_0
    have sz_bx1_0_32 : h0.size ≤ bx1_0_32 := Nat.le_trans K17.1 P32_0
    have ne_bx1_0_17_bx1_0_32 : bx1_0_17 ≠ bx1_0_32 := Nat.ne_of_lt (Nat.lt_of_lt_of_le P17_1.lt P32_0)
    obtain ⟨y33, hy33⟩ : ∃ z : Int32, z = (nar .byte ((q0_2.toInt32).toInt8.toInt32)) := ⟨_, rfl⟩
    rw [← hy33] at P32_1
    obtain ⟨y34, hy34⟩ : ∃ z : Int32, z = (nar .byte ((((q0_2.toUInt64 >>> ((8 : Int32) &&& 0x3f).toInt64.toUInt64).toInt64).toInt32).toInt8.toInt32)) := ⟨_, rfl⟩
    rw [← hy34] at P32_1
    obtain ⟨y35, hy35⟩ : ∃ z : Int32, z = (nar .byte ((((q0_2.toUInt64 >>> ((16 : Int32) &&& 0x3f).toInt64.toUInt64).toInt64).toInt32).toInt8.toInt32)) := ⟨_, rfl⟩
    rw [← hy35] at P32_1
    obtain ⟨y36, hy36⟩ : ∃ z : Int32, z = (nar .byte ((((q0_2.toUInt64 >>> ((24 : Int32) &&& 0x3f).toInt64.toUInt64).toInt64).toInt32).toInt8.toInt32)) := ⟨_, rfl⟩
    rw [← hy36] at P32_1
    obtain ⟨y37, hy37⟩ : ∃ z : Int32, z = (nar .byte ((((q0_2.toUInt64 >>> ((32 : Int32) &&& 0x3f).toInt64.toUInt64).toInt64).toInt32).toInt8.toInt32)) := ⟨_, rfl⟩
    rw [← hy37] at P32_1
    obtain ⟨y38, hy38⟩ : ∃ z : Int32, z = (nar .byte ((((q0_2.toUInt64 >>> ((40 : Int32) &&& 0x3f).toInt64.toUInt64).toInt64).toInt32).toInt8.toInt32)) := ⟨_, rfl⟩
    rw [← hy38] at P32_1
    obtain ⟨y39, hy39⟩ : ∃ z : Int32, z = (nar .byte ((((q0_2.toUInt64 >>> ((48 : Int32) &&& 0x3f).toInt64.toUInt64).toInt64).toInt32).toInt8.toInt32)) := ⟨_, rfl⟩
    rw [← hy39] at P32_1
    obtain ⟨y40, hy40⟩ : ∃ z : Int32, z = (nar .byte ((((q0_2.toUInt64 >>> ((56 : Int32) &&& 0x3f).toInt64.toUInt64).toInt64).toInt32).toInt8.toInt32)) := ⟨_, rfl⟩
    rw [← hy40] at P32_1
    obtain ⟨y41, hy41⟩ : ∃ z : Int32, z = (nar .byte ((((q0_2.toUInt64 >>> ((4 : Int32) &&& 0x3f).toInt64.toUInt64).toInt64).toInt32).toInt8.toInt32)) := ⟨_, rfl⟩
    rw [← hy41] at P32_1
    obtain ⟨y42, hy42⟩ : ∃ z : Int32, z = (nar .byte ((((q0_2.toUInt64 >>> ((12 : Int32) &&& 0x3f).toInt64.toUInt64).toInt64).toInt32).toInt8.toInt32)) := ⟨_, rfl⟩
    rw [← hy42] at P32_1
    obtain ⟨y43, hy43⟩ : ∃ z : Int32, z = (nar .byte ((((q0_2.toUInt64 >>> ((20 : Int32) &&& 0x3f).toInt64.toUInt64).toInt64).toInt32).toInt8.toInt32)) := ⟨_, rfl⟩
    rw [← hy43] at P32_1
    obtain ⟨y44, hy44⟩ : ∃ z : Int32, z = (nar .byte ((((q0_2.toUInt64 >>> ((28 : Int32) &&& 0x3f).toInt64.toUInt64).toInt64).toInt32).toInt8.toInt32)) := ⟨_, rfl⟩
    rw [← hy44] at P32_1
    have N32 := Fr.app N31 Nq32
    let A45 : Array Slot := #[.val (.long q0_0), .second, .val (.long q0_1), .second, .val (.long q0_2), .second, .val (.int p0_3), .val (.int p0_4), .val (.int p0_5), .val (.int x2), .val (.int x4), .val (.int (0 : Int32)), .val (.int x8), .val (.ref bx1_0_17), .val (.ref bx1_0_32), .unset, .unset, .unset, .unset, .unset, .unset, .unset, .unset, .unset]
    obtain ⟨_, _, ⟨T46, L46, k46, n46⟩, -, X46, ⟨Lc46, hQ46, l46, y46, z46⟩, st46⟩ := Jvm.LawKit.callS X32 hx (y := (⟨"com/example/mortise/mortise/join/RecordKeyHashPinLaw", "place", "([BIJI)V"⟩ : MethodName)) hown (mvT hZ (ow6 hw)) (mvT hZ (ow7 hw)) (mvT hZ (ow3 hw)) (mvT hZ (ow8 hw)) (by decide) (backOf (W := 0) (rm2_l0 l Z a0 hw [] bx1_0_32 x4 q0_0 T32.heap n0 Z32 (hx4 ▸ own_m7 ((p0_3.toUInt32 >>> ((3 : Int32) &&& 31).toUInt32).toInt32))) hZ (ow8 hw) (ow3 hw) (by decide) (by decide)) (g := (mkF m 68 A45 [(.int (0 : Int32)), (.long q0_0), (.int x4), (.ref bx1_0_32)])) rfl (by rw [hml]; rfl) (argsL := [(.ref bx1_0_32), (.int x4), (.long q0_0), (.int (0 : Int32))]) (rest := []) (lenOf pd___BIJI_V rfl) rfl (by show 2 * 0 + _ ≤ _; exact Nat.le_of_eq rfl) (hb hby at_68) (fun _ _ => ⟨rfl, rfl, (by decide : 2 + 0 ≤ _), (by decide : 24 + 0 ≤ _)⟩)
    dsimp only [Pt.U, Pt.locs, Pt.cells, Pt.slots] at X46 l46 y46 z46 st46 hQ46
    subst l46 y46 z46
    obtain ⟨rfl, Nq46, e46⟩ := hQ46
    have N46 := Fr.app N32 Nq46
    have f48 := (P17_1.keep Kc32 nin0)
    obtain ⟨_, _, ⟨T47, L47, k47, n47⟩, -, X47, ⟨Lc47, hQ47, l47, y47, z47⟩, st47⟩ := Jvm.LawKit.callS X46 hx (y := (⟨"com/example/mortise/mortise/join/RecordKeyHashPinLaw", "fill", "(J)[B"⟩ : MethodName)) hown (mvT hZ (ow1 hw)) (mvT hZ (ow2 hw)) (mvT hZ (ow3 hw)) (mvT hZ (ow4 hw)) (by decide) (backOf (W := 0) (rm1 l Z a0 hw [] q0_2 T32.heap n0 Z32 ) hZ (ow4 hw) (ow3 hw) (by decide) (by decide)) (g := (mkF m 73 A45 [(.long q0_2)])) rfl (by rw [hml]; rfl) (argsL := [(.long q0_2)]) (rest := []) (lenOf pd__J__B rfl) rfl (by show 2 * 0 + _ ≤ _; exact Nat.le_of_eq rfl) (hb hby at_73) (fun _ _ => ⟨rfl, e46, (by decide : 2 + 1 ≤ _), (by decide : 24 + 12 ≤ _)⟩)
    dsimp only [Pt.U, Pt.locs, Pt.cells, Pt.slots] at X47 l47 y47 z47 st47 hQ47
    subst l47 y47 z47
    obtain ⟨bx1_0_47, kx1_0_47, rfl, Nq47, Kc47, P47_0, P47_1⟩ := hQ47
    have K47 : Keep h0 T47.heap [] := Keep.trans K32 Kc47 all0
    have Z47 : n0 ≤ T47.heap.size := Nat.le_trans Z0 K47.1
    have g_bx1_0_47 : n0 ≤ bx1_0_47 := Nat.le_trans Z32 P47_0
    have sz_bx1_0_47 : h0.size ≤ bx1_0_47 := Nat.le_trans K32.1 P47_0
    have ne_bx1_0_17_bx1_0_47 : bx1_0_17 ≠ bx1_0_47 := Nat.ne_of_lt (Nat.lt_of_lt_of_le f48.lt P47_0)
    have ne_bx1_0_32_bx1_0_47 : bx1_0_32 ≠ bx1_0_47 := Nat.ne_of_lt (Nat.lt_of_lt_of_le P32_1.lt P47_0)
    obtain ⟨y49, hy49⟩ : ∃ z : Int32, z = (nar .byte ((q0_2.toInt32).toInt8.toInt32)) := ⟨_, rfl⟩
    rw [← hy49] at P47_1
    obtain ⟨y50, hy50⟩ : ∃ z : Int32, z = (nar .byte ((((q0_2.toUInt64 >>> ((8 : Int32) &&& 0x3f).toInt64.toUInt64).toInt64).toInt32).toInt8.toInt32)) := ⟨_, rfl⟩
    rw [← hy50] at P47_1
    obtain ⟨y51, hy51⟩ : ∃ z : Int32, z = (nar .byte ((((q0_2.toUInt64 >>> ((16 : Int32) &&& 0x3f).toInt64.toUInt64).toInt64).toInt32).toInt8.toInt32)) := ⟨_, rfl⟩
    rw [← hy51] at P47_1
    obtain ⟨y52, hy52⟩ : ∃ z : Int32, z = (nar .byte ((((q0_2.toUInt64 >>> ((24 : Int32) &&& 0x3f).toInt64.toUInt64).toInt64).toInt32).toInt8.toInt32)) := ⟨_, rfl⟩
    rw [← hy52] at P47_1
    obtain ⟨y53, hy53⟩ : ∃ z : Int32, z = (nar .byte ((((q0_2.toUInt64 >>> ((32 : Int32) &&& 0x3f).toInt64.toUInt64).toInt64).toInt32).toInt8.toInt32)) := ⟨_, rfl⟩
    rw [← hy53] at P47_1
    obtain ⟨y54, hy54⟩ : ∃ z : Int32, z = (nar .byte ((((q0_2.toUInt64 >>> ((40 : Int32) &&& 0x3f).toInt64.toUInt64).toInt64).toInt32).toInt8.toInt32)) := ⟨_, rfl⟩
    rw [← hy54] at P47_1
    obtain ⟨y55, hy55⟩ : ∃ z : Int32, z = (nar .byte ((((q0_2.toUInt64 >>> ((48 : Int32) &&& 0x3f).toInt64.toUInt64).toInt64).toInt32).toInt8.toInt32)) := ⟨_, rfl⟩
    rw [← hy55] at P47_1
    obtain ⟨y56, hy56⟩ : ∃ z : Int32, z = (nar .byte ((((q0_2.toUInt64 >>> ((56 : Int32) &&& 0x3f).toInt64.toUInt64).toInt64).toInt32).toInt8.toInt32)) := ⟨_, rfl⟩
    rw [← hy56] at P47_1
    obtain ⟨y57, hy57⟩ : ∃ z : Int32, z = (nar .byte ((((q0_2.toUInt64 >>> ((4 : Int32) &&& 0x3f).toInt64.toUInt64).toInt64).toInt32).toInt8.toInt32)) := ⟨_, rfl⟩
    rw [← hy57] at P47_1
    obtain ⟨y58, hy58⟩ : ∃ z : Int32, z = (nar .byte ((((q0_2.toUInt64 >>> ((12 : Int32) &&& 0x3f).toInt64.toUInt64).toInt64).toInt32).toInt8.toInt32)) := ⟨_, rfl⟩
    rw [← hy58] at P47_1
    obtain ⟨y59, hy59⟩ : ∃ z : Int32, z = (nar .byte ((((q0_2.toUInt64 >>> ((20 : Int32) &&& 0x3f).toInt64.toUInt64).toInt64).toInt32).toInt8.toInt32)) := ⟨_, rfl⟩
    rw [← hy59] at P47_1
    obtain ⟨y60, hy60⟩ : ∃ z : Int32, z = (nar .byte ((((q0_2.toUInt64 >>> ((28 : Int32) &&& 0x3f).toInt64.toUInt64).toInt64).toInt32).toInt8.toInt32)) := ⟨_, rfl⟩
    rw [← hy60] at P47_1
    have N47 := Fr.app N46 Nq47
    let A61 : Array Slot := #[.val (.long q0_0), .second, .val (.long q0_1), .second, .val (.long q0_2), .second, .val (.int p0_3), .val (.int p0_4), .val (.int p0_5), .val (.int x2), .val (.int x4), .val (.int (0 : Int32)), .val (.int x8), .val (.ref bx1_0_17), .val (.ref bx1_0_32), .val (.ref bx1_0_47), .unset, .unset, .unset, .unset, .unset, .unset, .unset, .unset]
    obtain ⟨_, _, ⟨T62, L62, k62, n62⟩, -, X62, ⟨Lc62, hQ62, l62, y62, z62⟩, st62⟩ := Jvm.LawKit.callS X47 hx (y := (⟨"com/example/mortise/mortise/join/RecordKeyHashPinLaw", "place", "([BIJI)V"⟩ : MethodName)) hown (mvT hZ (ow6 hw)) (mvT hZ (ow7 hw)) (mvT hZ (ow3 hw)) (mvT hZ (ow8 hw)) (by decide) (backOf (W := 0) (rm2_l0 l Z a0 hw [] bx1_0_47 x4 q0_0 T47.heap n0 Z47 (hx4 ▸ own_m7 ((p0_3.toUInt32 >>> ((3 : Int32) &&& 31).toUInt32).toInt32))) hZ (ow8 hw) (ow3 hw) (by decide) (by decide)) (g := (mkF m 85 A61 [(.int (0 : Int32)), (.long q0_0), (.int x4), (.ref bx1_0_47)])) rfl (by rw [hml]; rfl) (argsL := [(.ref bx1_0_47), (.int x4), (.long q0_0), (.int (0 : Int32))]) (rest := []) (lenOf pd___BIJI_V rfl) rfl (by show 2 * 0 + _ ≤ _; exact Nat.le_of_eq rfl) (hb hby at_85) (fun _ _ => ⟨rfl, rfl, (by decide : 3 + 0 ≤ _), (by decide : 36 + 0 ≤ _)⟩)
    dsimp only [Pt.U, Pt.locs, Pt.cells, Pt.slots] at X62 l62 y62 z62 st62 hQ62
    subst l62 y62 z62
    obtain ⟨rfl, Nq62, e62⟩ := hQ62
    have N62 := Fr.app N47 Nq62
    obtain ⟨_, _, ⟨T63, L63, k63, n63⟩, -, X63, ⟨Lc63, hQ63, l63, y63, z63⟩, st63⟩ := Jvm.LawKit.callS X62 hx (y := (⟨"com/example/mortise/mortise/join/Record", "keyHash", "([BII)J"⟩ : MethodName)) hown (mvT hZ (ow9 hw)) (mvT hZ (ow10 hw)) (mvT hZ (ow11 hw)) (mvT hZ (ow12 hw)) (by decide) (backOf (W := 0) (rm3_l0 l Z a0 hw [] bx1_0_17 x2 T47.heap n0 Z47 (hx2 ▸ own_m7 p0_3)) hZ (ow12 hw) (ow11 hw) (by decide) (by decide)) (g := (mkF m 97 A61 [(.int (x2 + (0 : Int32))), (.int x2), (.ref bx1_0_17)])) rfl (by rw [hml]; rfl) (argsL := [(.ref bx1_0_17), (.int x2), (.int (x2 + (0 : Int32)))]) (rest := []) (lenOf pd___BII_J rfl) rfl (by show 2 * 0 + _ ≤ _; exact Nat.le_of_eq rfl) (hb hby at_97) (fun _ _ => ⟨rfl, e62, (by decide : 3 + 0 ≤ _), (by decide : 36 + 0 ≤ _)⟩)
    dsimp only [Pt.U, Pt.locs, Pt.cells, Pt.slots] at X63 l63 y63 z63 st63 hQ63
    subst l63 y63 z63
    obtain ⟨rfl, Nq63, e63⟩ := hQ63
    have N63 := Fr.app N62 Nq63
    let A64 : Array Slot := #[.val (.long q0_0), .second, .val (.long q0_1), .second, .val (.long q0_2), .second, .val (.int p0_3), .val (.int p0_4), .val (.int p0_5), .val (.int x2), .val (.int x4), .val (.int (0 : Int32)), .val (.int x8), .val (.ref bx1_0_17), .val (.ref bx1_0_32), .val (.ref bx1_0_47), .val (.long (-1166397803181037274 : Int64)), .second, .unset, .unset, .unset, .unset, .unset, .unset]
    obtain ⟨_, _, ⟨T65, L65, k65, n65⟩, -, X65, ⟨Lc65, hQ65, l65, y65, z65⟩, st65⟩ := Jvm.LawKit.callS X63 hx (y := (⟨"com/example/mortise/mortise/join/Record", "keyHash", "([BII)J"⟩ : MethodName)) hown (mvT hZ (ow9 hw)) (mvT hZ (ow10 hw)) (mvT hZ (ow11 hw)) (mvT hZ (ow12 hw)) (by decide) (backOf (W := 0) (rm3_l0 l Z a0 hw [] bx1_0_32 x4 T47.heap n0 Z47 (hx4 ▸ own_m7 ((p0_3.toUInt32 >>> ((3 : Int32) &&& 31).toUInt32).toInt32))) hZ (ow12 hw) (ow11 hw) (by decide) (by decide)) (g := (mkF m 111 A64 [(.int (x4 + (0 : Int32))), (.int x4), (.ref bx1_0_32)])) rfl (by rw [hml]; rfl) (argsL := [(.ref bx1_0_32), (.int x4), (.int (x4 + (0 : Int32)))]) (rest := []) (lenOf pd___BII_J rfl) rfl (by show 2 * 0 + _ ≤ _; exact Nat.le_of_eq rfl) (hb hby at_111) (fun _ _ => ⟨rfl, e63, (by decide : 3 + 0 ≤ _), (by decide : 36 + 0 ≤ _)⟩)
    dsimp only [Pt.U, Pt.locs, Pt.cells, Pt.slots] at X65 l65 y65 z65 st65 hQ65
    subst l65 y65 z65
    obtain ⟨rfl, Nq65, e65⟩ := hQ65
    have N65 := Fr.app N63 Nq65
    let A66 : Array Slot := #[.val (.long q0_0), .second, .val (.long q0_1), .second, .val (.long q0_2), .second, .val (.int p0_3), .val (.int p0_4), .val (.int p0_5), .val (.int x2), .val (.int x4), .val (.int (0 : Int32)), .val (.int x8), .val (.ref bx1_0_17), .val (.ref bx1_0_32), .val (.ref bx1_0_47), .val (.long (-1166397803181037274 : Int64)), .second, .val (.long (-1166397803181037274 : Int64)), .second, .unset, .unset, .unset, .unset]
    let A67 : Array Slot := #[.val (.long q0_0), .second, .val (.long q0_1), .second, .val (.long q0_2), .second, .val (.int p0_3), .val (.int p0_4), .val (.int p0_5), .val (.int x2), .val (.int x4), .val (.int (0 : Int32)), .val (.int x8), .val (.ref bx1_0_17), .val (.ref bx1_0_32), .val (.ref bx1_0_47), .val (.long (-1166397803181037274 : Int64)), .second, .val (.long (-1166397803181037274 : Int64)), .second, .val (.int (1 : Int32)), .unset, .unset, .unset]
    obtain ⟨fs, hr, hrun, hended, hW, hsame⟩ := X65.leave (v := some (.int (1 : Int32))) (fun h => by rw [Bd.returns] at h; cases h)
    refine ⟨_, _, pre0 _ ?_, hrun, hended, _, _, rfl, ?_, ⟨_, rfl⟩, hW, hsame.mono (by decide) (by decide)⟩
    · refine G10 _ ?_
      show Steps p.tables e below (s₁.setTop (mkF m 38 #[.val (.long q0_0), .second, .val (.long q0_1), .second, .val (.long q0_2), .second, .val (.int p0_3), .val (.int p0_4), .val (.int p0_5), .val (.int x2), .val (.int x4), .val (.int x6), .val (.int x8), .unset, .unset, .unset, .unset, .unset, .unset, .unset, .unset, .unset, .unset, .unset] [])) _
      rw [hc11]
      show Steps p.tables e below (s₁.setTop (mkF m 38 A16 [])) _
      show Steps p.tables e below (s₁.setTop (mkF m 38 A16 [])) _
      refine XS.lloadN X0.here hx rfl (hb hby at_38) rfl ?_
      show Steps p.tables e below (s₁.setTop (mkF m 39 A16 [(.long q0_1)])) _
      refine st17 _ ?_
      show Steps p.tables e below (T17.setTop (mkF m 42 A16 [(.ref bx1_0_17)])) _
      refine XS.astore X17.here hx rfl (hb hby at_42) rfl rfl (l' := A30) rfl ?_
      show Steps p.tables e below (T17.setTop (mkF m 44 A30 [])) _
      refine XS.aload X17.here hx rfl (hb hby at_44) rfl rfl ?_
      show Steps p.tables e below (T17.setTop (mkF m 46 A30 [(.ref bx1_0_17)])) _
      refine XS.iload X17.here hx rfl (hb hby at_46) rfl ?_
      show Steps p.tables e below (T17.setTop (mkF m 48 A30 [(.int x2), (.ref bx1_0_17)])) _
      refine XS.lloadN X17.here hx rfl (hb hby at_48) rfl ?_
      show Steps p.tables e below (T17.setTop (mkF m 49 A30 [(.long q0_0), (.int x2), (.ref bx1_0_17)])) _
      refine XS.iload X17.here hx rfl (hb hby at_49) rfl ?_
      show Steps p.tables e below (T17.setTop (mkF m 51 A30 [(.int (0 : Int32)), (.long q0_0), (.int x2), (.ref bx1_0_17)])) _
      refine st31 _ ?_
      show Steps p.tables e below (T31.setTop (mkF m 54 A30 [])) _
      refine XS.lload X31.here hx rfl (hb hby at_54) rfl ?_
      show Steps p.tables e below (T31.setTop (mkF m 56 A30 [(.long q0_2)])) _
      refine st32 _ ?_
      show Steps p.tables e below (T32.setTop (mkF m 59 A30 [(.ref bx1_0_32)])) _
      refine XS.astore X32.here hx rfl (hb hby at_59) rfl rfl (l' := A45) rfl ?_
      show Steps p.tables e below (T32.setTop (mkF m 61 A45 [])) _
      refine XS.aload X32.here hx rfl (hb hby at_61) rfl rfl ?_
      show Steps p.tables e below (T32.setTop (mkF m 63 A45 [(.ref bx1_0_32)])) _
      refine XS.iload X32.here hx rfl (hb hby at_63) rfl ?_
      show Steps p.tables e below (T32.setTop (mkF m 65 A45 [(.int x4), (.ref bx1_0_32)])) _
      refine XS.lloadN X32.here hx rfl (hb hby at_65) rfl ?_
      show Steps p.tables e below (T32.setTop (mkF m 66 A45 [(.long q0_0), (.int x4), (.ref bx1_0_32)])) _
      refine XS.iload X32.here hx rfl (hb hby at_66) rfl ?_
      show Steps p.tables e below (T32.setTop (mkF m 68 A45 [(.int (0 : Int32)), (.long q0_0), (.int x4), (.ref bx1_0_32)])) _
      refine st46 _ ?_
      show Steps p.tables e below (T46.setTop (mkF m 71 A45 [])) _
      refine XS.lload X46.here hx rfl (hb hby at_71) rfl ?_
      show Steps p.tables e below (T46.setTop (mkF m 73 A45 [(.long q0_2)])) _
      refine st47 _ ?_
      show Steps p.tables e below (T47.setTop (mkF m 76 A45 [(.ref bx1_0_47)])) _
      refine XS.astore X47.here hx rfl (hb hby at_76) rfl rfl (l' := A61) rfl ?_
      show Steps p.tables e below (T47.setTop (mkF m 78 A61 [])) _
      refine XS.aload X47.here hx rfl (hb hby at_78) rfl rfl ?_
      show Steps p.tables e below (T47.setTop (mkF m 80 A61 [(.ref bx1_0_47)])) _
      refine XS.iload X47.here hx rfl (hb hby at_80) rfl ?_
      show Steps p.tables e below (T47.setTop (mkF m 82 A61 [(.int x4), (.ref bx1_0_47)])) _
      refine XS.lloadN X47.here hx rfl (hb hby at_82) rfl ?_
      show Steps p.tables e below (T47.setTop (mkF m 83 A61 [(.long q0_0), (.int x4), (.ref bx1_0_47)])) _
      refine XS.iload X47.here hx rfl (hb hby at_83) rfl ?_
      show Steps p.tables e below (T47.setTop (mkF m 85 A61 [(.int (0 : Int32)), (.long q0_0), (.int x4), (.ref bx1_0_47)])) _
      refine st62 _ ?_
      show Steps p.tables e below (T62.setTop (mkF m 88 A61 [])) _
      refine XS.aload X62.here hx rfl (hb hby at_88) rfl rfl ?_
      show Steps p.tables e below (T62.setTop (mkF m 90 A61 [(.ref bx1_0_17)])) _
      refine XS.iload X62.here hx rfl (hb hby at_90) rfl ?_
      show Steps p.tables e below (T62.setTop (mkF m 92 A61 [(.int x2), (.ref bx1_0_17)])) _
      refine XS.iload X62.here hx rfl (hb hby at_92) rfl ?_
      show Steps p.tables e below (T62.setTop (mkF m 94 A61 [(.int x2), (.int x2), (.ref bx1_0_17)])) _
      refine XS.iload X62.here hx rfl (hb hby at_94) rfl ?_
      show Steps p.tables e below (T62.setTop (mkF m 96 A61 [(.int (0 : Int32)), (.int x2), (.int x2), (.ref bx1_0_17)])) _
      refine XS.iadd X62.here hx rfl (hb hby at_96) rfl ?_
      show Steps p.tables e below (T62.setTop (mkF m 97 A61 [(.int (x2 + (0 : Int32))), (.int x2), (.ref bx1_0_17)])) _
      refine st63 _ ?_
      show Steps p.tables e below (T63.setTop (mkF m 100 A61 [(.long (-1166397803181037274 : Int64))])) _
      refine XS.lstore X63.here hx rfl (hb hby at_100) rfl (l' := A64) rfl ?_
      show Steps p.tables e below (T63.setTop (mkF m 102 A64 [])) _
      refine XS.aload X63.here hx rfl (hb hby at_102) rfl rfl ?_
      show Steps p.tables e below (T63.setTop (mkF m 104 A64 [(.ref bx1_0_32)])) _
      refine XS.iload X63.here hx rfl (hb hby at_104) rfl ?_
      show Steps p.tables e below (T63.setTop (mkF m 106 A64 [(.int x4), (.ref bx1_0_32)])) _
      refine XS.iload X63.here hx rfl (hb hby at_106) rfl ?_
      show Steps p.tables e below (T63.setTop (mkF m 108 A64 [(.int x4), (.int x4), (.ref bx1_0_32)])) _
      refine XS.iload X63.here hx rfl (hb hby at_108) rfl ?_
      show Steps p.tables e below (T63.setTop (mkF m 110 A64 [(.int (0 : Int32)), (.int x4), (.int x4), (.ref bx1_0_32)])) _
      refine XS.iadd X63.here hx rfl (hb hby at_110) rfl ?_
      show Steps p.tables e below (T63.setTop (mkF m 111 A64 [(.int (x4 + (0 : Int32))), (.int x4), (.ref bx1_0_32)])) _
      refine st65 _ ?_
      show Steps p.tables e below (T65.setTop (mkF m 114 A64 [(.long (-1166397803181037274 : Int64))])) _
      refine XS.lstore X65.here hx rfl (hb hby at_114) rfl (l' := A66) rfl ?_
      show Steps p.tables e below (T65.setTop (mkF m 116 A66 [])) _
      refine XS.lload X65.here hx rfl (hb hby at_116) rfl ?_
      show Steps p.tables e below (T65.setTop (mkF m 118 A66 [(.long (-1166397803181037274 : Int64))])) _
      refine XS.lload X65.here hx rfl (hb hby at_118) rfl ?_
      show Steps p.tables e below (T65.setTop (mkF m 120 A66 [(.long (-1166397803181037274 : Int64)), (.long (-1166397803181037274 : Int64))])) _
      refine XS.lcmp X65.here hx rfl (hb hby at_120) rfl ?_
      show Steps p.tables e below (T65.setTop (mkF m 121 A66 [(.int (lcmpW (-1166397803181037274 : Int64) (-1166397803181037274 : Int64)))])) _
      refine XS.ifNo X65.here hx rfl (hb hby at_121) rfl ((if0 _ _).trans (teq ((lw_eq _ _).mpr (by decide : (-1166397803181037274 : Int64) = (-1166397803181037274 : Int64)))).2) ?_
      show Steps p.tables e below (T65.setTop (mkF m 124 A66 [])) _
      refine XS.iconst X65.here hx rfl (hb hby at_124) ?_
      show Steps p.tables e below (T65.setTop (mkF m 125 A66 [(.int (1 : Int32))])) _
      refine XS.goto X65.here hx rfl (pc0 := 125) (pc' := 129) rfl (hb hby at_125) (by decide) (by decide) ?_
      show Steps p.tables e below (T65.setTop (mkF m 129 A66 [(.int (1 : Int32))])) _
      refine XS.istore X65.here hx rfl (hb hby at_129) rfl (l' := A67) rfl ?_
      show Steps p.tables e below (T65.setTop (mkF m 131 A67 [])) _
      refine XS.iload X65.here hx rfl (hb hby at_131) rfl ?_
      show Steps p.tables e below (T65.setTop (mkF m 133 A67 [(.int (0 : Int32))])) _
      refine XS.ifNo X65.here hx rfl (hb hby at_133) rfl ((if0 _ _).trans (teq (by decide : (0 : Int32) = (0 : Int32))).2) ?_
      show Steps p.tables e below (T65.setTop (mkF m 136 A67 [])) _
      refine XS.iload X65.here hx rfl (hb hby at_136) rfl ?_
      show Steps p.tables e below (T65.setTop (mkF m 138 A67 [(.int (1 : Int32))])) _
      exact retN X65 hx (t := .boolean) Bd.returns (by simp) (hb hby at_138) hr
    · exact ⟨rfl, N65⟩
  · let A68 : Array Slot := #[.val (.long q0_0), .second, .val (.long q0_1), .second, .val (.long q0_2), .second, .val (.int p0_3), .val (.int p0_4), .val (.int p0_5), .val (.int x2), .val (.int x4), .val (.int (1 : Int32)), .val (.int x8), .unset, .unset, .unset, .unset, .unset, .unset, .unset, .unset, .unset, .unset, .unset]
    have own_t12 : True := trivial
    obtain ⟨_, _, ⟨T69, L69, k69, n69⟩, -, X69, ⟨Lc69, hQ69, l69, y69, z69⟩, st69⟩ := Jvm.LawKit.callS X0 hx (y := (⟨"com/example/mortise/mortise/join/RecordKeyHashPinLaw", "fill", "(J)[B"⟩ : MethodName)) hown (mvT hZ (ow1 hw)) (mvT hZ (ow2 hw)) (mvT hZ (ow3 hw)) (mvT hZ (ow4 hw)) (by decide) (backOf (W := 0) (rm1 l Z a0 hw [] q0_1 h0 n0 Z0 ) hZ (ow4 hw) (ow3 hw) (by decide) (by decide)) (g := (mkF m 39 A68 [(.long q0_1)])) rfl (by rw [hml]; rfl) (argsL := [(.long q0_1)]) (rest := []) (lenOf pd__J__B rfl) rfl (by show 2 * 0 + _ ≤ _; exact Nat.le_of_eq rfl) (hb hby at_39) (fun _ _ => ⟨rfl, e0, (by decide : 0 + 1 ≤ _), (by decide : 0 + 12 ≤ _)⟩)
    dsimp only [Pt.U, Pt.locs, Pt.cells, Pt.slots] at X69 l69 y69 z69 st69 hQ69
    subst l69 y69 z69
    obtain ⟨bx1_0_69, kx1_0_69, rfl, Nq69, Kc69, P69_0, P69_1⟩ := hQ69
    have K69 : Keep h0 T69.heap [] := Keep.trans (Keep.refl h0 []) Kc69 all0
    have Z69 : n0 ≤ T69.heap.size := Nat.le_trans Z0 K69.1
    have g_bx1_0_69 : n0 ≤ bx1_0_69 := Nat.le_trans Z0 P69_0
    have sz_bx1_0_69 : h0.size ≤ bx1_0_69 := Nat.le_trans (Nat.le_refl _) P69_0
    obtain ⟨y70, hy70⟩ : ∃ z : Int32, z = (nar .byte ((q0_1.toInt32).toInt8.toInt32)) := ⟨_, rfl⟩
    rw [← hy70] at P69_1
    obtain ⟨y71, hy71⟩ : ∃ z : Int32, z = (nar .byte ((((q0_1.toUInt64 >>> ((8 : Int32) &&& 0x3f).toInt64.toUInt64).toInt64).toInt32).toInt8.toInt32)) := ⟨_, rfl⟩
    rw [← hy71] at P69_1
    obtain ⟨y72, hy72⟩ : ∃ z : Int32, z = (nar .byte ((((q0_1.toUInt64 >>> ((16 : Int32) &&& 0x3f).toInt64.toUInt64).toInt64).toInt32).toInt8.toInt32)) := ⟨_, rfl⟩
    rw [← hy72] at P69_1
    obtain ⟨y73, hy73⟩ : ∃ z : Int32, z = (nar .byte ((((q0_1.toUInt64 >>> ((24 : Int32) &&& 0x3f).toInt64.toUInt64).toInt64).toInt32).toInt8.toInt32)) := ⟨_, rfl⟩
    rw [← hy73] at P69_1
    obtain ⟨y74, hy74⟩ : ∃ z : Int32, z = (nar .byte ((((q0_1.toUInt64 >>> ((32 : Int32) &&& 0x3f).toInt64.toUInt64).toInt64).toInt32).toInt8.toInt32)) := ⟨_, rfl⟩
    rw [← hy74] at P69_1
    obtain ⟨y75, hy75⟩ : ∃ z : Int32, z = (nar .byte ((((q0_1.toUInt64 >>> ((40 : Int32) &&& 0x3f).toInt64.toUInt64).toInt64).toInt32).toInt8.toInt32)) := ⟨_, rfl⟩
    rw [← hy75] at P69_1
    obtain ⟨y76, hy76⟩ : ∃ z : Int32, z = (nar .byte ((((q0_1.toUInt64 >>> ((48 : Int32) &&& 0x3f).toInt64.toUInt64).toInt64).toInt32).toInt8.toInt32)) := ⟨_, rfl⟩
    rw [← hy76] at P69_1
    obtain ⟨y77, hy77⟩ : ∃ z : Int32, z = (nar .byte ((((q0_1.toUInt64 >>> ((56 : Int32) &&& 0x3f).toInt64.toUInt64).toInt64).toInt32).toInt8.toInt32)) := ⟨_, rfl⟩
    rw [← hy77] at P69_1
    obtain ⟨y78, hy78⟩ : ∃ z : Int32, z = (nar .byte ((((q0_1.toUInt64 >>> ((4 : Int32) &&& 0x3f).toInt64.toUInt64).toInt64).toInt32).toInt8.toInt32)) := ⟨_, rfl⟩
    rw [← hy78] at P69_1
    obtain ⟨y79, hy79⟩ : ∃ z : Int32, z = (nar .byte ((((q0_1.toUInt64 >>> ((12 : Int32) &&& 0x3f).toInt64.toUInt64).toInt64).toInt32).toInt8.toInt32)) := ⟨_, rfl⟩
    rw [← hy79] at P69_1
    obtain ⟨y80, hy80⟩ : ∃ z : Int32, z = (nar .byte ((((q0_1.toUInt64 >>> ((20 : Int32) &&& 0x3f).toInt64.toUInt64).toInt64).toInt32).toInt8.toInt32)) := ⟨_, rfl⟩
    rw [← hy80] at P69_1
    obtain ⟨y81, hy81⟩ : ∃ z : Int32, z = (nar .byte ((((q0_1.toUInt64 >>> ((28 : Int32) &&& 0x3f).toInt64.toUInt64).toInt64).toInt32).toInt8.toInt32)) := ⟨_, rfl⟩
    rw [← hy81] at P69_1
    have N69 := Fr.app N0 Nq69
    let A82 : Array Slot := #[.val (.long q0_0), .second, .val (.long q0_1), .second, .val (.long q0_2), .second, .val (.int p0_3), .val (.int p0_4), .val (.int p0_5), .val (.int x2), .val (.int x4), .val (.int (1 : Int32)), .val (.int x8), .val (.ref bx1_0_69), .unset, .unset, .unset, .unset, .unset, .unset, .unset, .unset, .unset, .unset]
    have Bf83 := Bya.of_arv (es := [y70, y71, y72, y73, y74, y75, y76, y77, y78, y79, y80, y81]) P69_1 rfl
    obtain ⟨f83, hf83⟩ : ∃ g : Int32 → Int32, g = (fun i => ([y70, y71, y72, y73, y74, y75, y76, y77, y78, y79, y80, y81] : List Int32).getD i.toNatClampNeg 0) := ⟨_, rfl⟩
    rw [← hf83] at Bf83
    obtain ⟨_, _, ⟨T84, L84, k84, n84⟩, -, X84, ⟨Lc84, hQ84, l84, y84, z84⟩, st84⟩ := Jvm.LawKit.callS X69 hx (y := (⟨"com/example/mortise/mortise/join/RecordKeyHashPinLaw", "place", "([BIJI)V"⟩ : MethodName)) hown (mvT hZ (ow6 hw)) (mvT hZ (ow7 hw)) (mvT hZ (ow3 hw)) (mvT hZ (ow8 hw)) (by decide) (backOf (W := 0) (rm2_l1 l Z a0 hw [] bx1_0_69 x2 q0_0 f83 T69.heap n0 Z69 (hx2 ▸ own_m7 p0_3) Bf83 g_bx1_0_69) hZ (ow8 hw) (ow3 hw) (by decide) (by decide)) (g := (mkF m 51 A82 [(.int (1 : Int32)), (.long q0_0), (.int x2), (.ref bx1_0_69)])) rfl (by rw [hml]; rfl) (argsL := [(.ref bx1_0_69), (.int x2), (.long q0_0), (.int (1 : Int32))]) (rest := []) (lenOf pd___BIJI_V rfl) rfl (by show 2 * 0 + _ ≤ _; exact Nat.le_of_eq rfl) (hb hby at_51) (fun _ _ => ⟨rfl, rfl, (by decide : 1 + 0 ≤ _), (by decide : 12 + 0 ≤ _)⟩)
    dsimp only [Pt.U, Pt.locs, Pt.cells, Pt.slots] at X84 l84 y84 z84 st84 hQ84
    subst l84 y84 z84
    obtain ⟨rfl, Nq84, Kc84, P84_0⟩ := hQ84
    have K84 : Keep h0 T84.heap [] := Keep.trans K69 Kc84 (allS (P := fun x => x ∈ ([] : List Addr) ∨ h0.size ≤ x) (Or.inr sz_bx1_0_69) all0)
    have Z84 : n0 ≤ T84.heap.size := Nat.le_trans Z0 K84.1
    obtain ⟨f85, hf85⟩ : ∃ g : Int32 → Int32, g = (fun i => if i = x2 then (nar .byte ((q0_0.toInt32).toInt8.toInt32)) else f83 i) := ⟨_, rfl⟩
    rw [← hf85] at P84_0
    have N84 := Fr.app N69 Nq84
    obtain ⟨_, _, ⟨T86, L86, k86, n86⟩, -, X86, ⟨Lc86, hQ86, l86, y86, z86⟩, st86⟩ := Jvm.LawKit.callS X84 hx (y := (⟨"com/example/mortise/mortise/join/RecordKeyHashPinLaw", "fill", "(J)[B"⟩ : MethodName)) hown (mvT hZ (ow1 hw)) (mvT hZ (ow2 hw)) (mvT hZ (ow3 hw)) (mvT hZ (ow4 hw)) (by decide) (backOf (W := 0) (rm1 l Z a0 hw [] q0_2 T84.heap n0 Z84 ) hZ (ow4 hw) (ow3 hw) (by decide) (by decide)) (g := (mkF m 56 A82 [(.long q0_2)])) rfl (by rw [hml]; rfl) (argsL := [(.long q0_2)]) (rest := []) (lenOf pd__J__B rfl) rfl (by show 2 * 0 + _ ≤ _; exact Nat.le_of_eq rfl) (hb hby at_56) (fun _ _ => ⟨rfl, rfl, (by decide : 1 + 1 ≤ _), (by decide : 12 + 12 ≤ _)⟩)
    dsimp only [Pt.U, Pt.locs, Pt.cells, Pt.slots] at X86 l86 y86 z86 st86 hQ86
    subst l86 y86 z86
    obtain ⟨bx1_0_86, kx1_0_86, rfl, Nq86, Kc86, P86_0, P86_1⟩ := hQ86
    have K86 : Keep h0 T86.heap [] := Keep.trans K84 Kc86 all0
    have Z86 : n0 ≤ T86.heap.size := Nat.le_trans Z0 K86.1
    have g_bx1_0_86 : n0 ≤ bx1_0_86 := Nat.le_trans Z84 P86_0
    have sz_bx1_0_86 : h0.size ≤ bx1_0_86 := Nat.le_trans K84.1 P86_0
    have ne_bx1_0_69_bx1_0_86 : bx1_0_69 ≠ bx1_0_86 := Nat.ne_of_lt (Nat.lt_of_lt_of_le P84_0.lt P86_0)
    obtain ⟨y87, hy87⟩ : ∃ z : Int32, z = (nar .byte ((q0_2.toInt32).toInt8.toInt32)) := ⟨_, rfl⟩
    rw [← hy87] at P86_1
    obtain ⟨y88, hy88⟩ : ∃ z : Int32, z = (nar .byte ((((q0_2.toUInt64 >>> ((8 : Int32) &&& 0x3f).toInt64.toUInt64).toInt64).toInt32).toInt8.toInt32)) := ⟨_, rfl⟩
    rw [← hy88] at P86_1
    obtain ⟨y89, hy89⟩ : ∃ z : Int32, z = (nar .byte ((((q0_2.toUInt64 >>> ((16 : Int32) &&& 0x3f).toInt64.toUInt64).toInt64).toInt32).toInt8.toInt32)) := ⟨_, rfl⟩
    rw [← hy89] at P86_1
    obtain ⟨y90, hy90⟩ : ∃ z : Int32, z = (nar .byte ((((q0_2.toUInt64 >>> ((24 : Int32) &&& 0x3f).toInt64.toUInt64).toInt64).toInt32).toInt8.toInt32)) := ⟨_, rfl⟩
    rw [← hy90] at P86_1
    obtain ⟨y91, hy91⟩ : ∃ z : Int32, z = (nar .byte ((((q0_2.toUInt64 >>> ((32 : Int32) &&& 0x3f).toInt64.toUInt64).toInt64).toInt32).toInt8.toInt32)) := ⟨_, rfl⟩
    rw [← hy91] at P86_1
    obtain ⟨y92, hy92⟩ : ∃ z : Int32, z = (nar .byte ((((q0_2.toUInt64 >>> ((40 : Int32) &&& 0x3f).toInt64.toUInt64).toInt64).toInt32).toInt8.toInt32)) := ⟨_, rfl⟩
    rw [← hy92] at P86_1
    obtain ⟨y93, hy93⟩ : ∃ z : Int32, z = (nar .byte ((((q0_2.toUInt64 >>> ((48 : Int32) &&& 0x3f).toInt64.toUInt64).toInt64).toInt32).toInt8.toInt32)) := ⟨_, rfl⟩
    rw [← hy93] at P86_1
    obtain ⟨y94, hy94⟩ : ∃ z : Int32, z = (nar .byte ((((q0_2.toUInt64 >>> ((56 : Int32) &&& 0x3f).toInt64.toUInt64).toInt64).toInt32).toInt8.toInt32)) := ⟨_, rfl⟩
    rw [← hy94] at P86_1
    obtain ⟨y95, hy95⟩ : ∃ z : Int32, z = (nar .byte ((((q0_2.toUInt64 >>> ((4 : Int32) &&& 0x3f).toInt64.toUInt64).toInt64).toInt32).toInt8.toInt32)) := ⟨_, rfl⟩
    rw [← hy95] at P86_1
    obtain ⟨y96, hy96⟩ : ∃ z : Int32, z = (nar .byte ((((q0_2.toUInt64 >>> ((12 : Int32) &&& 0x3f).toInt64.toUInt64).toInt64).toInt32).toInt8.toInt32)) := ⟨_, rfl⟩
    rw [← hy96] at P86_1
    obtain ⟨y97, hy97⟩ : ∃ z : Int32, z = (nar .byte ((((q0_2.toUInt64 >>> ((20 : Int32) &&& 0x3f).toInt64.toUInt64).toInt64).toInt32).toInt8.toInt32)) := ⟨_, rfl⟩
    rw [← hy97] at P86_1
    obtain ⟨y98, hy98⟩ : ∃ z : Int32, z = (nar .byte ((((q0_2.toUInt64 >>> ((28 : Int32) &&& 0x3f).toInt64.toUInt64).toInt64).toInt32).toInt8.toInt32)) := ⟨_, rfl⟩
    rw [← hy98] at P86_1
    have N86 := Fr.app N84 Nq86
    let A99 : Array Slot := #[.val (.long q0_0), .second, .val (.long q0_1), .second, .val (.long q0_2), .second, .val (.int p0_3), .val (.int p0_4), .val (.int p0_5), .val (.int x2), .val (.int x4), .val (.int (1 : Int32)), .val (.int x8), .val (.ref bx1_0_69), .val (.ref bx1_0_86), .unset, .unset, .unset, .unset, .unset, .unset, .unset, .unset, .unset]
    have Bf100 := Bya.of_arv (es := [y87, y88, y89, y90, y91, y92, y93, y94, y95, y96, y97, y98]) P86_1 rfl
    obtain ⟨f100, hf100⟩ : ∃ g : Int32 → Int32, g = (fun i => ([y87, y88, y89, y90, y91, y92, y93, y94, y95, y96, y97, y98] : List Int32).getD i.toNatClampNeg 0) := ⟨_, rfl⟩
    rw [← hf100] at Bf100
    obtain ⟨_, _, ⟨T101, L101, k101, n101⟩, -, X101, ⟨Lc101, hQ101, l101, y101, z101⟩, st101⟩ := Jvm.LawKit.callS X86 hx (y := (⟨"com/example/mortise/mortise/join/RecordKeyHashPinLaw", "place", "([BIJI)V"⟩ : MethodName)) hown (mvT hZ (ow6 hw)) (mvT hZ (ow7 hw)) (mvT hZ (ow3 hw)) (mvT hZ (ow8 hw)) (by decide) (backOf (W := 0) (rm2_l1 l Z a0 hw [] bx1_0_86 x4 q0_0 f100 T86.heap n0 Z86 (hx4 ▸ own_m7 ((p0_3.toUInt32 >>> ((3 : Int32) &&& 31).toUInt32).toInt32)) Bf100 g_bx1_0_86) hZ (ow8 hw) (ow3 hw) (by decide) (by decide)) (g := (mkF m 68 A99 [(.int (1 : Int32)), (.long q0_0), (.int x4), (.ref bx1_0_86)])) rfl (by rw [hml]; rfl) (argsL := [(.ref bx1_0_86), (.int x4), (.long q0_0), (.int (1 : Int32))]) (rest := []) (lenOf pd___BIJI_V rfl) rfl (by show 2 * 0 + _ ≤ _; exact Nat.le_of_eq rfl) (hb hby at_68) (fun _ _ => ⟨rfl, rfl, (by decide : 2 + 0 ≤ _), (by decide : 24 + 0 ≤ _)⟩)
    dsimp only [Pt.U, Pt.locs, Pt.cells, Pt.slots] at X101 l101 y101 z101 st101 hQ101
    subst l101 y101 z101
    obtain ⟨rfl, Nq101, Kc101, P101_0⟩ := hQ101
    have K101 : Keep h0 T101.heap [] := Keep.trans K86 Kc101 (allS (P := fun x => x ∈ ([] : List Addr) ∨ h0.size ≤ x) (Or.inr sz_bx1_0_86) all0)
    have Z101 : n0 ≤ T101.heap.size := Nat.le_trans Z0 K101.1
    obtain ⟨f102, hf102⟩ : ∃ g : Int32 → Int32, g = (fun i => if i = x4 then (nar .byte ((q0_0.toInt32).toInt8.toInt32)) else f100 i) := ⟨_, rfl⟩
    rw [← hf102] at P101_0
    have N101 := Fr.app N86 Nq101
    have f104 := ((P84_0.keep Kc86 nin0).keep Kc101 (ninS ne_bx1_0_69_bx1_0_86 nin0))
    obtain ⟨_, _, ⟨T103, L103, k103, n103⟩, -, X103, ⟨Lc103, hQ103, l103, y103, z103⟩, st103⟩ := Jvm.LawKit.callS X101 hx (y := (⟨"com/example/mortise/mortise/join/RecordKeyHashPinLaw", "fill", "(J)[B"⟩ : MethodName)) hown (mvT hZ (ow1 hw)) (mvT hZ (ow2 hw)) (mvT hZ (ow3 hw)) (mvT hZ (ow4 hw)) (by decide) (backOf (W := 0) (rm1 l Z a0 hw [] q0_2 T101.heap n0 Z101 ) hZ (ow4 hw) (ow3 hw) (by decide) (by decide)) (g := (mkF m 73 A99 [(.long q0_2)])) rfl (by rw [hml]; rfl) (argsL := [(.long q0_2)]) (rest := []) (lenOf pd__J__B rfl) rfl (by show 2 * 0 + _ ≤ _; exact Nat.le_of_eq rfl) (hb hby at_73) (fun _ _ => ⟨rfl, rfl, (by decide : 2 + 1 ≤ _), (by decide : 24 + 12 ≤ _)⟩)
    dsimp only [Pt.U, Pt.locs, Pt.cells, Pt.slots] at X103 l103 y103 z103 st103 hQ103
    subst l103 y103 z103
    obtain ⟨bx1_0_103, kx1_0_103, rfl, Nq103, Kc103, P103_0, P103_1⟩ := hQ103
    have K103 : Keep h0 T103.heap [] := Keep.trans K101 Kc103 all0
    have Z103 : n0 ≤ T103.heap.size := Nat.le_trans Z0 K103.1
    have g_bx1_0_103 : n0 ≤ bx1_0_103 := Nat.le_trans Z101 P103_0
    have sz_bx1_0_103 : h0.size ≤ bx1_0_103 := Nat.le_trans K101.1 P103_0
    have ne_bx1_0_69_bx1_0_103 : bx1_0_69 ≠ bx1_0_103 := Nat.ne_of_lt (Nat.lt_of_lt_of_le f104.lt P103_0)
    have ne_bx1_0_86_bx1_0_103 : bx1_0_86 ≠ bx1_0_103 := Nat.ne_of_lt (Nat.lt_of_lt_of_le P101_0.lt P103_0)
    obtain ⟨y105, hy105⟩ : ∃ z : Int32, z = (nar .byte ((q0_2.toInt32).toInt8.toInt32)) := ⟨_, rfl⟩
    rw [← hy105] at P103_1
    obtain ⟨y106, hy106⟩ : ∃ z : Int32, z = (nar .byte ((((q0_2.toUInt64 >>> ((8 : Int32) &&& 0x3f).toInt64.toUInt64).toInt64).toInt32).toInt8.toInt32)) := ⟨_, rfl⟩
    rw [← hy106] at P103_1
    obtain ⟨y107, hy107⟩ : ∃ z : Int32, z = (nar .byte ((((q0_2.toUInt64 >>> ((16 : Int32) &&& 0x3f).toInt64.toUInt64).toInt64).toInt32).toInt8.toInt32)) := ⟨_, rfl⟩
    rw [← hy107] at P103_1
    obtain ⟨y108, hy108⟩ : ∃ z : Int32, z = (nar .byte ((((q0_2.toUInt64 >>> ((24 : Int32) &&& 0x3f).toInt64.toUInt64).toInt64).toInt32).toInt8.toInt32)) := ⟨_, rfl⟩
    rw [← hy108] at P103_1
    obtain ⟨y109, hy109⟩ : ∃ z : Int32, z = (nar .byte ((((q0_2.toUInt64 >>> ((32 : Int32) &&& 0x3f).toInt64.toUInt64).toInt64).toInt32).toInt8.toInt32)) := ⟨_, rfl⟩
    rw [← hy109] at P103_1
    obtain ⟨y110, hy110⟩ : ∃ z : Int32, z = (nar .byte ((((q0_2.toUInt64 >>> ((40 : Int32) &&& 0x3f).toInt64.toUInt64).toInt64).toInt32).toInt8.toInt32)) := ⟨_, rfl⟩
    rw [← hy110] at P103_1
    obtain ⟨y111, hy111⟩ : ∃ z : Int32, z = (nar .byte ((((q0_2.toUInt64 >>> ((48 : Int32) &&& 0x3f).toInt64.toUInt64).toInt64).toInt32).toInt8.toInt32)) := ⟨_, rfl⟩
    rw [← hy111] at P103_1
    obtain ⟨y112, hy112⟩ : ∃ z : Int32, z = (nar .byte ((((q0_2.toUInt64 >>> ((56 : Int32) &&& 0x3f).toInt64.toUInt64).toInt64).toInt32).toInt8.toInt32)) := ⟨_, rfl⟩
    rw [← hy112] at P103_1
    obtain ⟨y113, hy113⟩ : ∃ z : Int32, z = (nar .byte ((((q0_2.toUInt64 >>> ((4 : Int32) &&& 0x3f).toInt64.toUInt64).toInt64).toInt32).toInt8.toInt32)) := ⟨_, rfl⟩
    rw [← hy113] at P103_1
    obtain ⟨y114, hy114⟩ : ∃ z : Int32, z = (nar .byte ((((q0_2.toUInt64 >>> ((12 : Int32) &&& 0x3f).toInt64.toUInt64).toInt64).toInt32).toInt8.toInt32)) := ⟨_, rfl⟩
    rw [← hy114] at P103_1
    obtain ⟨y115, hy115⟩ : ∃ z : Int32, z = (nar .byte ((((q0_2.toUInt64 >>> ((20 : Int32) &&& 0x3f).toInt64.toUInt64).toInt64).toInt32).toInt8.toInt32)) := ⟨_, rfl⟩
    rw [← hy115] at P103_1
    obtain ⟨y116, hy116⟩ : ∃ z : Int32, z = (nar .byte ((((q0_2.toUInt64 >>> ((28 : Int32) &&& 0x3f).toInt64.toUInt64).toInt64).toInt32).toInt8.toInt32)) := ⟨_, rfl⟩
    rw [← hy116] at P103_1
    have N103 := Fr.app N101 Nq103
    let A117 : Array Slot := #[.val (.long q0_0), .second, .val (.long q0_1), .second, .val (.long q0_2), .second, .val (.int p0_3), .val (.int p0_4), .val (.int p0_5), .val (.int x2), .val (.int x4), .val (.int (1 : Int32)), .val (.int x8), .val (.ref bx1_0_69), .val (.ref bx1_0_86), .val (.ref bx1_0_103), .unset, .unset, .unset, .unset, .unset, .unset, .unset, .unset]
    have Bf118 := Bya.of_arv (es := [y105, y106, y107, y108, y109, y110, y111, y112, y113, y114, y115, y116]) P103_1 rfl
    obtain ⟨f118, hf118⟩ : ∃ g : Int32 → Int32, g = (fun i => ([y105, y106, y107, y108, y109, y110, y111, y112, y113, y114, y115, y116] : List Int32).getD i.toNatClampNeg 0) := ⟨_, rfl⟩
    rw [← hf118] at Bf118
    obtain ⟨_, _, ⟨T119, L119, k119, n119⟩, -, X119, ⟨Lc119, hQ119, l119, y119, z119⟩, st119⟩ := Jvm.LawKit.callS X103 hx (y := (⟨"com/example/mortise/mortise/join/RecordKeyHashPinLaw", "place", "([BIJI)V"⟩ : MethodName)) hown (mvT hZ (ow6 hw)) (mvT hZ (ow7 hw)) (mvT hZ (ow3 hw)) (mvT hZ (ow8 hw)) (by decide) (backOf (W := 0) (rm2_l1 l Z a0 hw [] bx1_0_103 x4 q0_0 f118 T103.heap n0 Z103 (hx4 ▸ own_m7 ((p0_3.toUInt32 >>> ((3 : Int32) &&& 31).toUInt32).toInt32)) Bf118 g_bx1_0_103) hZ (ow8 hw) (ow3 hw) (by decide) (by decide)) (g := (mkF m 85 A117 [(.int (1 : Int32)), (.long q0_0), (.int x4), (.ref bx1_0_103)])) rfl (by rw [hml]; rfl) (argsL := [(.ref bx1_0_103), (.int x4), (.long q0_0), (.int (1 : Int32))]) (rest := []) (lenOf pd___BIJI_V rfl) rfl (by show 2 * 0 + _ ≤ _; exact Nat.le_of_eq rfl) (hb hby at_85) (fun _ _ => ⟨rfl, rfl, (by decide : 3 + 0 ≤ _), (by decide : 36 + 0 ≤ _)⟩)
    dsimp only [Pt.U, Pt.locs, Pt.cells, Pt.slots] at X119 l119 y119 z119 st119 hQ119
    subst l119 y119 z119
    obtain ⟨rfl, Nq119, Kc119, P119_0⟩ := hQ119
    have K119 : Keep h0 T119.heap [] := Keep.trans K103 Kc119 (allS (P := fun x => x ∈ ([] : List Addr) ∨ h0.size ≤ x) (Or.inr sz_bx1_0_103) all0)
    have Z119 : n0 ≤ T119.heap.size := Nat.le_trans Z0 K119.1
    obtain ⟨f120, hf120⟩ : ∃ g : Int32 → Int32, g = (fun i => if i = x4 then (nar .byte ((q0_0.toInt32).toInt8.toInt32)) else f118 i) := ⟨_, rfl⟩
    rw [← hf120] at P119_0
    have N119 := Fr.app N103 Nq119
    have f121 := ((f104.keep Kc103 nin0).keep Kc119 (ninS ne_bx1_0_69_bx1_0_103 nin0))
    obtain ⟨_, _, ⟨T122, L122, k122, n122⟩, -, X122, ⟨Lc122, hQ122, l122, y122, z122⟩, st122⟩ := Jvm.LawKit.callS X119 hx (y := (⟨"com/example/mortise/mortise/join/Record", "keyHash", "([BII)J"⟩ : MethodName)) hown (mvT hZ (ow9 hw)) (mvT hZ (ow10 hw)) (mvT hZ (ow11 hw)) (mvT hZ (ow12 hw)) (by decide) (backOf (W := 0) (rm3_l1 l Z a0 hw [] bx1_0_69 x2 f85 T119.heap n0 Z119 (hx2 ▸ own_m7 p0_3) f121) hZ (ow12 hw) (ow11 hw) (by decide) (by decide)) (g := (mkF m 97 A117 [(.int (x2 + (1 : Int32))), (.int x2), (.ref bx1_0_69)])) rfl (by rw [hml]; rfl) (argsL := [(.ref bx1_0_69), (.int x2), (.int (x2 + (1 : Int32)))]) (rest := []) (lenOf pd___BII_J rfl) rfl (by show 2 * 0 + _ ≤ _; exact Nat.le_of_eq rfl) (hb hby at_97) (fun _ _ => ⟨rfl, rfl, (by decide : 3 + 0 ≤ _), (by decide : 36 + 0 ≤ _)⟩)
    dsimp only [Pt.U, Pt.locs, Pt.cells, Pt.slots] at X122 l122 y122 z122 st122 hQ122
    subst l122 y122 z122
    obtain ⟨rfl, Nq122, e122⟩ := hQ122
    have N122 := Fr.app N119 Nq122
    obtain ⟨x123, hx123⟩ : ∃ z : Int64, z = ((((((((-3750763034362895579 : Int64) ^^^ (((f85 x2) &&& (255 : Int32)).toInt64)) * (1099511628211 : Int64)) ^^^ (((((-3750763034362895579 : Int64) ^^^ (((f85 x2) &&& (255 : Int32)).toInt64)) * (1099511628211 : Int64)).toUInt64 >>> ((33 : Int32) &&& 0x3f).toInt64.toUInt64).toInt64)) * (-49064778989728563 : Int64)) ^^^ (((((((-3750763034362895579 : Int64) ^^^ (((f85 x2) &&& (255 : Int32)).toInt64)) * (1099511628211 : Int64)) ^^^ (((((-3750763034362895579 : Int64) ^^^ (((f85 x2) &&& (255 : Int32)).toInt64)) * (1099511628211 : Int64)).toUInt64 >>> ((33 : Int32) &&& 0x3f).toInt64.toUInt64).toInt64)) * (-49064778989728563 : Int64)).toUInt64 >>> ((33 : Int32) &&& 0x3f).toInt64.toUInt64).toInt64)) * (-4265267296055464877 : Int64)) ^^^ (((((((((-3750763034362895579 : Int64) ^^^ (((f85 x2) &&& (255 : Int32)).toInt64)) * (1099511628211 : Int64)) ^^^ (((((-3750763034362895579 : Int64) ^^^ (((f85 x2) &&& (255 : Int32)).toInt64)) * (1099511628211 : Int64)).toUInt64 >>> ((33 : Int32) &&& 0x3f).toInt64.toUInt64).toInt64)) * (-49064778989728563 : Int64)) ^^^ (((((((-3750763034362895579 : Int64) ^^^ (((f85 x2) &&& (255 : Int32)).toInt64)) * (1099511628211 : Int64)) ^^^ (((((-3750763034362895579 : Int64) ^^^ (((f85 x2) &&& (255 : Int32)).toInt64)) * (1099511628211 : Int64)).toUInt64 >>> ((33 : Int32) &&& 0x3f).toInt64.toUInt64).toInt64)) * (-49064778989728563 : Int64)).toUInt64 >>> ((33 : Int32) &&& 0x3f).toInt64.toUInt64).toInt64)) * (-4265267296055464877 : Int64)).toUInt64 >>> ((33 : Int32) &&& 0x3f).toInt64.toUInt64).toInt64)) := ⟨_, rfl⟩
    let A124 : Array Slot := #[.val (.long q0_0), .second, .val (.long q0_1), .second, .val (.long q0_2), .second, .val (.int p0_3), .val (.int p0_4), .val (.int p0_5), .val (.int x2), .val (.int x4), .val (.int (1 : Int32)), .val (.int x8), .val (.ref bx1_0_69), .val (.ref bx1_0_86), .val (.ref bx1_0_103), .val (.long x123), .second, .unset, .unset, .unset, .unset, .unset, .unset]
    have f125 := ((P101_0.keep Kc103 nin0).keep Kc119 (ninS ne_bx1_0_86_bx1_0_103 nin0))
    obtain ⟨_, _, ⟨T126, L126, k126, n126⟩, -, X126, ⟨Lc126, hQ126, l126, y126, z126⟩, st126⟩ := Jvm.LawKit.callS X122 hx (y := (⟨"com/example/mortise/mortise/join/Record", "keyHash", "([BII)J"⟩ : MethodName)) hown (mvT hZ (ow9 hw)) (mvT hZ (ow10 hw)) (mvT hZ (ow11 hw)) (mvT hZ (ow12 hw)) (by decide) (backOf (W := 0) (rm3_l1 l Z a0 hw [] bx1_0_86 x4 f102 T119.heap n0 Z119 (hx4 ▸ own_m7 ((p0_3.toUInt32 >>> ((3 : Int32) &&& 31).toUInt32).toInt32)) f125) hZ (ow12 hw) (ow11 hw) (by decide) (by decide)) (g := (mkF m 111 A124 [(.int (x4 + (1 : Int32))), (.int x4), (.ref bx1_0_86)])) rfl (by rw [hml]; rfl) (argsL := [(.ref bx1_0_86), (.int x4), (.int (x4 + (1 : Int32)))]) (rest := []) (lenOf pd___BII_J rfl) rfl (by show 2 * 0 + _ ≤ _; exact Nat.le_of_eq rfl) (hb hby at_111) (fun _ _ => ⟨rfl, e122, (by decide : 3 + 0 ≤ _), (by decide : 36 + 0 ≤ _)⟩)
    dsimp only [Pt.U, Pt.locs, Pt.cells, Pt.slots] at X126 l126 y126 z126 st126 hQ126
    subst l126 y126 z126
    obtain ⟨rfl, Nq126, e126⟩ := hQ126
    have N126 := Fr.app N122 Nq126
    obtain ⟨x127, hx127⟩ : ∃ z : Int64, z = ((((((((-3750763034362895579 : Int64) ^^^ (((f102 x4) &&& (255 : Int32)).toInt64)) * (1099511628211 : Int64)) ^^^ (((((-3750763034362895579 : Int64) ^^^ (((f102 x4) &&& (255 : Int32)).toInt64)) * (1099511628211 : Int64)).toUInt64 >>> ((33 : Int32) &&& 0x3f).toInt64.toUInt64).toInt64)) * (-49064778989728563 : Int64)) ^^^ (((((((-3750763034362895579 : Int64) ^^^ (((f102 x4) &&& (255 : Int32)).toInt64)) * (1099511628211 : Int64)) ^^^ (((((-3750763034362895579 : Int64) ^^^ (((f102 x4) &&& (255 : Int32)).toInt64)) * (1099511628211 : Int64)).toUInt64 >>> ((33 : Int32) &&& 0x3f).toInt64.toUInt64).toInt64)) * (-49064778989728563 : Int64)).toUInt64 >>> ((33 : Int32) &&& 0x3f).toInt64.toUInt64).toInt64)) * (-4265267296055464877 : Int64)) ^^^ (((((((((-3750763034362895579 : Int64) ^^^ (((f102 x4) &&& (255 : Int32)).toInt64)) * (1099511628211 : Int64)) ^^^ (((((-3750763034362895579 : Int64) ^^^ (((f102 x4) &&& (255 : Int32)).toInt64)) * (1099511628211 : Int64)).toUInt64 >>> ((33 : Int32) &&& 0x3f).toInt64.toUInt64).toInt64)) * (-49064778989728563 : Int64)) ^^^ (((((((-3750763034362895579 : Int64) ^^^ (((f102 x4) &&& (255 : Int32)).toInt64)) * (1099511628211 : Int64)) ^^^ (((((-3750763034362895579 : Int64) ^^^ (((f102 x4) &&& (255 : Int32)).toInt64)) * (1099511628211 : Int64)).toUInt64 >>> ((33 : Int32) &&& 0x3f).toInt64.toUInt64).toInt64)) * (-49064778989728563 : Int64)).toUInt64 >>> ((33 : Int32) &&& 0x3f).toInt64.toUInt64).toInt64)) * (-4265267296055464877 : Int64)).toUInt64 >>> ((33 : Int32) &&& 0x3f).toInt64.toUInt64).toInt64)) := ⟨_, rfl⟩
    let A128 : Array Slot := #[.val (.long q0_0), .second, .val (.long q0_1), .second, .val (.long q0_2), .second, .val (.int p0_3), .val (.int p0_4), .val (.int p0_5), .val (.int x2), .val (.int x4), .val (.int (1 : Int32)), .val (.int x8), .val (.ref bx1_0_69), .val (.ref bx1_0_86), .val (.ref bx1_0_103), .val (.long x123), .second, .val (.long x127), .second, .unset, .unset, .unset, .unset]
    have G129 : ∀ t, Steps p.tables e below (T126.setTop (mkF m 121 A128 [(.int (lcmpW x123 x127))])) t → Steps p.tables e below (s₁.setTop (mkF m 38 A9 [])) t := by
      intro t k
      show Steps p.tables e below (s₁.setTop (mkF m 38 #[.val (.long q0_0), .second, .val (.long q0_1), .second, .val (.long q0_2), .second, .val (.int p0_3), .val (.int p0_4), .val (.int p0_5), .val (.int x2), .val (.int x4), .val (.int x6), .val (.int x8), .unset, .unset, .unset, .unset, .unset, .unset, .unset, .unset, .unset, .unset, .unset] [])) _
      rw [hc12]
      show Steps p.tables e below (s₁.setTop (mkF m 38 A68 [])) _
      show Steps p.tables e below (s₁.setTop (mkF m 38 A68 [])) _
      refine XS.lloadN X0.here hx rfl (hb hby at_38) rfl ?_
      show Steps p.tables e below (s₁.setTop (mkF m 39 A68 [(.long q0_1)])) _
      refine st69 _ ?_
      show Steps p.tables e below (T69.setTop (mkF m 42 A68 [(.ref bx1_0_69)])) _
      refine XS.astore X69.here hx rfl (hb hby at_42) rfl rfl (l' := A82) rfl ?_
      show Steps p.tables e below (T69.setTop (mkF m 44 A82 [])) _
      refine XS.aload X69.here hx rfl (hb hby at_44) rfl rfl ?_
      show Steps p.tables e below (T69.setTop (mkF m 46 A82 [(.ref bx1_0_69)])) _
      refine XS.iload X69.here hx rfl (hb hby at_46) rfl ?_
      show Steps p.tables e below (T69.setTop (mkF m 48 A82 [(.int x2), (.ref bx1_0_69)])) _
      refine XS.lloadN X69.here hx rfl (hb hby at_48) rfl ?_
      show Steps p.tables e below (T69.setTop (mkF m 49 A82 [(.long q0_0), (.int x2), (.ref bx1_0_69)])) _
      refine XS.iload X69.here hx rfl (hb hby at_49) rfl ?_
      show Steps p.tables e below (T69.setTop (mkF m 51 A82 [(.int (1 : Int32)), (.long q0_0), (.int x2), (.ref bx1_0_69)])) _
      refine st84 _ ?_
      show Steps p.tables e below (T84.setTop (mkF m 54 A82 [])) _
      refine XS.lload X84.here hx rfl (hb hby at_54) rfl ?_
      show Steps p.tables e below (T84.setTop (mkF m 56 A82 [(.long q0_2)])) _
      refine st86 _ ?_
      show Steps p.tables e below (T86.setTop (mkF m 59 A82 [(.ref bx1_0_86)])) _
      refine XS.astore X86.here hx rfl (hb hby at_59) rfl rfl (l' := A99) rfl ?_
      show Steps p.tables e below (T86.setTop (mkF m 61 A99 [])) _
      refine XS.aload X86.here hx rfl (hb hby at_61) rfl rfl ?_
      show Steps p.tables e below (T86.setTop (mkF m 63 A99 [(.ref bx1_0_86)])) _
      refine XS.iload X86.here hx rfl (hb hby at_63) rfl ?_
      show Steps p.tables e below (T86.setTop (mkF m 65 A99 [(.int x4), (.ref bx1_0_86)])) _
      refine XS.lloadN X86.here hx rfl (hb hby at_65) rfl ?_
      show Steps p.tables e below (T86.setTop (mkF m 66 A99 [(.long q0_0), (.int x4), (.ref bx1_0_86)])) _
      refine XS.iload X86.here hx rfl (hb hby at_66) rfl ?_
      show Steps p.tables e below (T86.setTop (mkF m 68 A99 [(.int (1 : Int32)), (.long q0_0), (.int x4), (.ref bx1_0_86)])) _
      refine st101 _ ?_
      show Steps p.tables e below (T101.setTop (mkF m 71 A99 [])) _
      refine XS.lload X101.here hx rfl (hb hby at_71) rfl ?_
      show Steps p.tables e below (T101.setTop (mkF m 73 A99 [(.long q0_2)])) _
      refine st103 _ ?_
      show Steps p.tables e below (T103.setTop (mkF m 76 A99 [(.ref bx1_0_103)])) _
      refine XS.astore X103.here hx rfl (hb hby at_76) rfl rfl (l' := A117) rfl ?_
      show Steps p.tables e below (T103.setTop (mkF m 78 A117 [])) _
      refine XS.aload X103.here hx rfl (hb hby at_78) rfl rfl ?_
      show Steps p.tables e below (T103.setTop (mkF m 80 A117 [(.ref bx1_0_103)])) _
      refine XS.iload X103.here hx rfl (hb hby at_80) rfl ?_
      show Steps p.tables e below (T103.setTop (mkF m 82 A117 [(.int x4), (.ref bx1_0_103)])) _
      refine XS.lloadN X103.here hx rfl (hb hby at_82) rfl ?_
      show Steps p.tables e below (T103.setTop (mkF m 83 A117 [(.long q0_0), (.int x4), (.ref bx1_0_103)])) _
      refine XS.iload X103.here hx rfl (hb hby at_83) rfl ?_
      show Steps p.tables e below (T103.setTop (mkF m 85 A117 [(.int (1 : Int32)), (.long q0_0), (.int x4), (.ref bx1_0_103)])) _
      refine st119 _ ?_
      show Steps p.tables e below (T119.setTop (mkF m 88 A117 [])) _
      refine XS.aload X119.here hx rfl (hb hby at_88) rfl rfl ?_
      show Steps p.tables e below (T119.setTop (mkF m 90 A117 [(.ref bx1_0_69)])) _
      refine XS.iload X119.here hx rfl (hb hby at_90) rfl ?_
      show Steps p.tables e below (T119.setTop (mkF m 92 A117 [(.int x2), (.ref bx1_0_69)])) _
      refine XS.iload X119.here hx rfl (hb hby at_92) rfl ?_
      show Steps p.tables e below (T119.setTop (mkF m 94 A117 [(.int x2), (.int x2), (.ref bx1_0_69)])) _
      refine XS.iload X119.here hx rfl (hb hby at_94) rfl ?_
      show Steps p.tables e below (T119.setTop (mkF m 96 A117 [(.int (1 : Int32)), (.int x2), (.int x2), (.ref bx1_0_69)])) _
      refine XS.iadd X119.here hx rfl (hb hby at_96) rfl ?_
      show Steps p.tables e below (T119.setTop (mkF m 97 A117 [(.int (x2 + (1 : Int32))), (.int x2), (.ref bx1_0_69)])) _
      refine st122 _ ?_
      show Steps p.tables e below (T122.setTop (mkF m 100 #[.val (.long q0_0), .second, .val (.long q0_1), .second, .val (.long q0_2), .second, .val (.int p0_3), .val (.int p0_4), .val (.int p0_5), .val (.int x2), .val (.int x4), .val (.int (1 : Int32)), .val (.int x8), .val (.ref bx1_0_69), .val (.ref bx1_0_86), .val (.ref bx1_0_103), .unset, .unset, .unset, .unset, .unset, .unset, .unset, .unset] [(.long ((((((((-3750763034362895579 : Int64) ^^^ (((f85 x2) &&& (255 : Int32)).toInt64)) * (1099511628211 : Int64)) ^^^ (((((-3750763034362895579 : Int64) ^^^ (((f85 x2) &&& (255 : Int32)).toInt64)) * (1099511628211 : Int64)).toUInt64 >>> ((33 : Int32) &&& 0x3f).toInt64.toUInt64).toInt64)) * (-49064778989728563 : Int64)) ^^^ (((((((-3750763034362895579 : Int64) ^^^ (((f85 x2) &&& (255 : Int32)).toInt64)) * (1099511628211 : Int64)) ^^^ (((((-3750763034362895579 : Int64) ^^^ (((f85 x2) &&& (255 : Int32)).toInt64)) * (1099511628211 : Int64)).toUInt64 >>> ((33 : Int32) &&& 0x3f).toInt64.toUInt64).toInt64)) * (-49064778989728563 : Int64)).toUInt64 >>> ((33 : Int32) &&& 0x3f).toInt64.toUInt64).toInt64)) * (-4265267296055464877 : Int64)) ^^^ (((((((((-3750763034362895579 : Int64) ^^^ (((f85 x2) &&& (255 : Int32)).toInt64)) * (1099511628211 : Int64)) ^^^ (((((-3750763034362895579 : Int64) ^^^ (((f85 x2) &&& (255 : Int32)).toInt64)) * (1099511628211 : Int64)).toUInt64 >>> ((33 : Int32) &&& 0x3f).toInt64.toUInt64).toInt64)) * (-49064778989728563 : Int64)) ^^^ (((((((-3750763034362895579 : Int64) ^^^ (((f85 x2) &&& (255 : Int32)).toInt64)) * (1099511628211 : Int64)) ^^^ (((((-3750763034362895579 : Int64) ^^^ (((f85 x2) &&& (255 : Int32)).toInt64)) * (1099511628211 : Int64)).toUInt64 >>> ((33 : Int32) &&& 0x3f).toInt64.toUInt64).toInt64)) * (-49064778989728563 : Int64)).toUInt64 >>> ((33 : Int32) &&& 0x3f).toInt64.toUInt64).toInt64)) * (-4265267296055464877 : Int64)).toUInt64 >>> ((33 : Int32) &&& 0x3f).toInt64.toUInt64).toInt64)))])) _
      rw [← hx123]
      show Steps p.tables e below (T122.setTop (mkF m 100 A117 [(.long x123)])) _
      refine XS.lstore X122.here hx rfl (hb hby at_100) rfl (l' := A124) rfl ?_
      show Steps p.tables e below (T122.setTop (mkF m 102 A124 [])) _
      refine XS.aload X122.here hx rfl (hb hby at_102) rfl rfl ?_
      show Steps p.tables e below (T122.setTop (mkF m 104 A124 [(.ref bx1_0_86)])) _
      refine XS.iload X122.here hx rfl (hb hby at_104) rfl ?_
      show Steps p.tables e below (T122.setTop (mkF m 106 A124 [(.int x4), (.ref bx1_0_86)])) _
      refine XS.iload X122.here hx rfl (hb hby at_106) rfl ?_
      show Steps p.tables e below (T122.setTop (mkF m 108 A124 [(.int x4), (.int x4), (.ref bx1_0_86)])) _
      refine XS.iload X122.here hx rfl (hb hby at_108) rfl ?_
      show Steps p.tables e below (T122.setTop (mkF m 110 A124 [(.int (1 : Int32)), (.int x4), (.int x4), (.ref bx1_0_86)])) _
      refine XS.iadd X122.here hx rfl (hb hby at_110) rfl ?_
      show Steps p.tables e below (T122.setTop (mkF m 111 A124 [(.int (x4 + (1 : Int32))), (.int x4), (.ref bx1_0_86)])) _
      refine st126 _ ?_
      show Steps p.tables e below (T126.setTop (mkF m 114 #[.val (.long q0_0), .second, .val (.long q0_1), .second, .val (.long q0_2), .second, .val (.int p0_3), .val (.int p0_4), .val (.int p0_5), .val (.int x2), .val (.int x4), .val (.int (1 : Int32)), .val (.int x8), .val (.ref bx1_0_69), .val (.ref bx1_0_86), .val (.ref bx1_0_103), .val (.long x123), .second, .unset, .unset, .unset, .unset, .unset, .unset] [(.long ((((((((-3750763034362895579 : Int64) ^^^ (((f102 x4) &&& (255 : Int32)).toInt64)) * (1099511628211 : Int64)) ^^^ (((((-3750763034362895579 : Int64) ^^^ (((f102 x4) &&& (255 : Int32)).toInt64)) * (1099511628211 : Int64)).toUInt64 >>> ((33 : Int32) &&& 0x3f).toInt64.toUInt64).toInt64)) * (-49064778989728563 : Int64)) ^^^ (((((((-3750763034362895579 : Int64) ^^^ (((f102 x4) &&& (255 : Int32)).toInt64)) * (1099511628211 : Int64)) ^^^ (((((-3750763034362895579 : Int64) ^^^ (((f102 x4) &&& (255 : Int32)).toInt64)) * (1099511628211 : Int64)).toUInt64 >>> ((33 : Int32) &&& 0x3f).toInt64.toUInt64).toInt64)) * (-49064778989728563 : Int64)).toUInt64 >>> ((33 : Int32) &&& 0x3f).toInt64.toUInt64).toInt64)) * (-4265267296055464877 : Int64)) ^^^ (((((((((-3750763034362895579 : Int64) ^^^ (((f102 x4) &&& (255 : Int32)).toInt64)) * (1099511628211 : Int64)) ^^^ (((((-3750763034362895579 : Int64) ^^^ (((f102 x4) &&& (255 : Int32)).toInt64)) * (1099511628211 : Int64)).toUInt64 >>> ((33 : Int32) &&& 0x3f).toInt64.toUInt64).toInt64)) * (-49064778989728563 : Int64)) ^^^ (((((((-3750763034362895579 : Int64) ^^^ (((f102 x4) &&& (255 : Int32)).toInt64)) * (1099511628211 : Int64)) ^^^ (((((-3750763034362895579 : Int64) ^^^ (((f102 x4) &&& (255 : Int32)).toInt64)) * (1099511628211 : Int64)).toUInt64 >>> ((33 : Int32) &&& 0x3f).toInt64.toUInt64).toInt64)) * (-49064778989728563 : Int64)).toUInt64 >>> ((33 : Int32) &&& 0x3f).toInt64.toUInt64).toInt64)) * (-4265267296055464877 : Int64)).toUInt64 >>> ((33 : Int32) &&& 0x3f).toInt64.toUInt64).toInt64)))])) _
      rw [← hx127]
      show Steps p.tables e below (T126.setTop (mkF m 114 A124 [(.long x127)])) _
      refine XS.lstore X126.here hx rfl (hb hby at_114) rfl (l' := A128) rfl ?_
      show Steps p.tables e below (T126.setTop (mkF m 116 A128 [])) _
      refine XS.lload X126.here hx rfl (hb hby at_116) rfl ?_
      show Steps p.tables e below (T126.setTop (mkF m 118 A128 [(.long x123)])) _
      refine XS.lload X126.here hx rfl (hb hby at_118) rfl ?_
      show Steps p.tables e below (T126.setTop (mkF m 120 A128 [(.long x127), (.long x123)])) _
      refine XS.lcmp X126.here hx rfl (hb hby at_120) rfl ?_
      exact k
    obtain ⟨v131, hv131⟩ : ∃ z : Int32, z = (if x123 = x127 then (1 : Int32) else (0 : Int32)) := ⟨_, rfl⟩
    obtain ⟨T132, Lo132, X132, N132, e132, G132⟩ := own_join X126 N126 (h := T119.heap) (mkF m 121 A128 [(.int (lcmpW x123 x127))]) (mkF m 129 A128 [(.int v131)]) (by
      by_cases h121_130 : x123 = x127
      · refine ⟨T126, _, X126, N126, e126, fun t k => ?_⟩
        rw [show v131 = (1 : Int32) from hv131.trans (if_pos h121_130)] at k
        show Steps p.tables e below (T126.setTop (mkF m 121 A128 [(.int (lcmpW x123 x127))])) _
        refine XS.ifNo X126.here hx rfl (hb hby at_121) rfl ((if0 _ _).trans (teq ((lw_eq _ _).mpr h121_130)).2) ?_
        show Steps p.tables e below (T126.setTop (mkF m 124 A128 [])) _
        refine XS.iconst X126.here hx rfl (hb hby at_124) ?_
        show Steps p.tables e below (T126.setTop (mkF m 125 A128 [(.int (1 : Int32))])) _
        refine XS.goto X126.here hx rfl (pc0 := 125) (pc' := 129) rfl (hb hby at_125) (by decide) (by decide) ?_
        exact k
      · refine ⟨T126, _, X126, N126, e126, fun t k => ?_⟩
        rw [show v131 = (0 : Int32) from hv131.trans (if_neg h121_130)] at k
        show Steps p.tables e below (T126.setTop (mkF m 121 A128 [(.int (lcmpW x123 x127))])) _
        refine XS.ifYes X126.here hx rfl (pc0 := 121) (pc' := 128) rfl (hb hby at_121) rfl ((if0 _ _).trans (feq (fun q => h121_130 ((lw_eq _ _).mp q))).2) (by decide) (by decide) ?_
        show Steps p.tables e below (T126.setTop (mkF m 128 A128 [])) _
        refine XS.iconst X126.here hx rfl (hb hby at_128) ?_
        exact k)
    let A133 : Array Slot := #[.val (.long q0_0), .second, .val (.long q0_1), .second, .val (.long q0_2), .second, .val (.int p0_3), .val (.int p0_4), .val (.int p0_5), .val (.int x2), .val (.int x4), .val (.int (1 : Int32)), .val (.int x8), .val (.ref bx1_0_69), .val (.ref bx1_0_86), .val (.ref bx1_0_103), .val (.long x123), .second, .val (.long x127), .second, .val (.int v131), .unset, .unset, .unset]
    obtain ⟨x134, hx134⟩ : ∃ z : Int32, z = ((x4 + (1 : Int32)) - (1 : Int32)) := ⟨_, rfl⟩
    let A135 : Array Slot := #[.val (.long q0_0), .second, .val (.long q0_1), .second, .val (.long q0_2), .second, .val (.int p0_3), .val (.int p0_4), .val (.int p0_5), .val (.int x2), .val (.int x4), .val (.int (1 : Int32)), .val (.int x8), .val (.ref bx1_0_69), .val (.ref bx1_0_86), .val (.ref bx1_0_103), .val (.long x123), .second, .val (.long x127), .second, .val (.int v131), .val (.int x134), .unset, .unset]
    obtain ⟨cl136, Ar136, Sz136, Hh136⟩ := id P119_0
    obtain ⟨cl137, Ar137, Sz137, Hh137⟩ := id P119_0
    obtain ⟨T138, h138, X138, e138, W138, st138⟩ := stB X132 hx hZ e132 Ar137 (j := x134) (inb_of Sz137 (hx134 ▸ (own_last (hx4 ▸ own_m7 ((p0_3.toUInt32 >>> ((3 : Int32) &&& 31).toUInt32).toInt32)) (c := (1 : Int32)) (d := (0 : Int32)) (by decide) (by decide)))) (g := (mkF m 161 A135 [(.int (((f120 x134) ^^^ x8).toInt8.toInt32)), (.int x134), (.ref bx1_0_103)])) rfl rfl (hb hby at_161)
    have B138 := Bya.set Ar137 Sz137 Hh137 (hx134 ▸ (own_last (hx4 ▸ own_m7 ((p0_3.toUInt32 >>> ((3 : Int32) &&& 31).toUInt32).toInt32)) (c := (1 : Int32)) (d := (0 : Int32)) (by decide) (by decide))) W138
    obtain ⟨f139, hf139⟩ : ∃ g : Int32 → Int32, g = (fun i => if i = x134 then (nar .byte (((f120 x134) ^^^ x8).toInt8.toInt32)) else f120 i) := ⟨_, rfl⟩
    rw [← hf139] at B138
    have K138 : Keep h0 h138 [] := K119.wr W138 (Or.inr sz_bx1_0_103)
    have Z138 : n0 ≤ h138.size := Nat.le_trans Z0 K138.1
    have N138 := Fr.snoc X138 N132 g_bx1_0_103
    obtain ⟨_, _, ⟨T140, L140, k140, n140⟩, -, X140, ⟨Lc140, hQ140, l140, y140, z140⟩, st140⟩ := Jvm.LawKit.callS X138 hx (y := (⟨"com/example/mortise/mortise/join/Record", "keyHash", "([BII)J"⟩ : MethodName)) hown (mvT hZ (ow9 hw)) (mvT hZ (ow10 hw)) (mvT hZ (ow11 hw)) (mvT hZ (ow12 hw)) (by decide) (backOf (W := 0) (rm3_l1 l Z a0 hw [] bx1_0_103 x4 f139 h138 n0 Z138 (hx4 ▸ own_m7 ((p0_3.toUInt32 >>> ((3 : Int32) &&& 31).toUInt32).toInt32)) B138) hZ (ow12 hw) (ow11 hw) (by decide) (by decide)) (g := (mkF m 171 A135 [(.int (x4 + (1 : Int32))), (.int x4), (.ref bx1_0_103)])) rfl (by rw [hml]; rfl) (argsL := [(.ref bx1_0_103), (.int x4), (.int (x4 + (1 : Int32)))]) (rest := []) (lenOf pd___BII_J rfl) rfl (by show 2 * 0 + _ ≤ _; exact Nat.le_of_eq rfl) (hb hby at_171) (fun _ _ => ⟨rfl, e138, (by decide : 3 + 0 ≤ _), (by decide : 36 + 0 ≤ _)⟩)
    dsimp only [Pt.U, Pt.locs, Pt.cells, Pt.slots] at X140 l140 y140 z140 st140 hQ140
    subst l140 y140 z140
    obtain ⟨rfl, Nq140, e140⟩ := hQ140
    have N140 := Fr.app N138 Nq140
    obtain ⟨x141, hx141⟩ : ∃ z : Int64, z = ((((((((-3750763034362895579 : Int64) ^^^ (((f139 x4) &&& (255 : Int32)).toInt64)) * (1099511628211 : Int64)) ^^^ (((((-3750763034362895579 : Int64) ^^^ (((f139 x4) &&& (255 : Int32)).toInt64)) * (1099511628211 : Int64)).toUInt64 >>> ((33 : Int32) &&& 0x3f).toInt64.toUInt64).toInt64)) * (-49064778989728563 : Int64)) ^^^ (((((((-3750763034362895579 : Int64) ^^^ (((f139 x4) &&& (255 : Int32)).toInt64)) * (1099511628211 : Int64)) ^^^ (((((-3750763034362895579 : Int64) ^^^ (((f139 x4) &&& (255 : Int32)).toInt64)) * (1099511628211 : Int64)).toUInt64 >>> ((33 : Int32) &&& 0x3f).toInt64.toUInt64).toInt64)) * (-49064778989728563 : Int64)).toUInt64 >>> ((33 : Int32) &&& 0x3f).toInt64.toUInt64).toInt64)) * (-4265267296055464877 : Int64)) ^^^ (((((((((-3750763034362895579 : Int64) ^^^ (((f139 x4) &&& (255 : Int32)).toInt64)) * (1099511628211 : Int64)) ^^^ (((((-3750763034362895579 : Int64) ^^^ (((f139 x4) &&& (255 : Int32)).toInt64)) * (1099511628211 : Int64)).toUInt64 >>> ((33 : Int32) &&& 0x3f).toInt64.toUInt64).toInt64)) * (-49064778989728563 : Int64)) ^^^ (((((((-3750763034362895579 : Int64) ^^^ (((f139 x4) &&& (255 : Int32)).toInt64)) * (1099511628211 : Int64)) ^^^ (((((-3750763034362895579 : Int64) ^^^ (((f139 x4) &&& (255 : Int32)).toInt64)) * (1099511628211 : Int64)).toUInt64 >>> ((33 : Int32) &&& 0x3f).toInt64.toUInt64).toInt64)) * (-49064778989728563 : Int64)).toUInt64 >>> ((33 : Int32) &&& 0x3f).toInt64.toUInt64).toInt64)) * (-4265267296055464877 : Int64)).toUInt64 >>> ((33 : Int32) &&& 0x3f).toInt64.toUInt64).toInt64)) := ⟨_, rfl⟩
    let A142 : Array Slot := #[.val (.long q0_0), .second, .val (.long q0_1), .second, .val (.long q0_2), .second, .val (.int p0_3), .val (.int p0_4), .val (.int p0_5), .val (.int x2), .val (.int x4), .val (.int (1 : Int32)), .val (.int x8), .val (.ref bx1_0_69), .val (.ref bx1_0_86), .val (.ref bx1_0_103), .val (.long x123), .second, .val (.long x127), .second, .val (.int v131), .val (.int x134), .val (.long x141), .second]
    have G143 : ∀ t, Steps p.tables e below (T140.setTop (mkF m 178 A142 [(.int v131)])) t → Steps p.tables e below (T132.setTop (mkF m 129 A128 [(.int v131)])) t := by
      intro t k
      show Steps p.tables e below (T132.setTop (mkF m 129 A128 [(.int v131)])) _
      refine XS.istore X132.here hx rfl (hb hby at_129) rfl (l' := A133) rfl ?_
      show Steps p.tables e below (T132.setTop (mkF m 131 A133 [])) _
      refine XS.iload X132.here hx rfl (hb hby at_131) rfl ?_
      show Steps p.tables e below (T132.setTop (mkF m 133 A133 [(.int (1 : Int32))])) _
      refine XS.ifYes X132.here hx rfl (pc0 := 133) (pc' := 139) rfl (hb hby at_133) rfl ((if0 _ _).trans (feq (by decide : ¬ ((1 : Int32) = (0 : Int32)))).2) (by decide) (by decide) ?_
      show Steps p.tables e below (T132.setTop (mkF m 139 A133 [])) _
      refine XS.iload X132.here hx rfl (hb hby at_139) rfl ?_
      show Steps p.tables e below (T132.setTop (mkF m 141 A133 [(.int x4)])) _
      refine XS.iload X132.here hx rfl (hb hby at_141) rfl ?_
      show Steps p.tables e below (T132.setTop (mkF m 143 A133 [(.int (1 : Int32)), (.int x4)])) _
      refine XS.iadd X132.here hx rfl (hb hby at_143) rfl ?_
      show Steps p.tables e below (T132.setTop (mkF m 144 A133 [(.int (x4 + (1 : Int32)))])) _
      refine XS.iconst X132.here hx rfl (hb hby at_144) ?_
      show Steps p.tables e below (T132.setTop (mkF m 145 A133 [(.int (1 : Int32)), (.int (x4 + (1 : Int32)))])) _
      refine XS.isub X132.here hx rfl (hb hby at_145) rfl ?_
      show Steps p.tables e below (T132.setTop (mkF m 146 A133 [(.int ((x4 + (1 : Int32)) - (1 : Int32)))])) _
      refine XS.istore X132.here hx rfl (hb hby at_146) rfl (l' := #[.val (.long q0_0), .second, .val (.long q0_1), .second, .val (.long q0_2), .second, .val (.int p0_3), .val (.int p0_4), .val (.int p0_5), .val (.int x2), .val (.int x4), .val (.int (1 : Int32)), .val (.int x8), .val (.ref bx1_0_69), .val (.ref bx1_0_86), .val (.ref bx1_0_103), .val (.long x123), .second, .val (.long x127), .second, .val (.int v131), .val (.int ((x4 + (1 : Int32)) - (1 : Int32))), .unset, .unset]) rfl ?_
      show Steps p.tables e below (T132.setTop (mkF m 148 #[.val (.long q0_0), .second, .val (.long q0_1), .second, .val (.long q0_2), .second, .val (.int p0_3), .val (.int p0_4), .val (.int p0_5), .val (.int x2), .val (.int x4), .val (.int (1 : Int32)), .val (.int x8), .val (.ref bx1_0_69), .val (.ref bx1_0_86), .val (.ref bx1_0_103), .val (.long x123), .second, .val (.long x127), .second, .val (.int v131), .val (.int ((x4 + (1 : Int32)) - (1 : Int32))), .unset, .unset] [])) _
      rw [← hx134]
      show Steps p.tables e below (T132.setTop (mkF m 148 A135 [])) _
      refine XS.aload X132.here hx rfl (hb hby at_148) rfl rfl ?_
      show Steps p.tables e below (T132.setTop (mkF m 150 A135 [(.ref bx1_0_103)])) _
      refine XS.iload X132.here hx rfl (hb hby at_150) rfl ?_
      show Steps p.tables e below (T132.setTop (mkF m 152 A135 [(.int x134), (.ref bx1_0_103)])) _
      refine XS.aload X132.here hx rfl (hb hby at_152) rfl rfl ?_
      show Steps p.tables e below (T132.setTop (mkF m 154 A135 [(.ref bx1_0_103), (.int x134), (.ref bx1_0_103)])) _
      refine XS.iload X132.here hx rfl (hb hby at_154) rfl ?_
      show Steps p.tables e below (T132.setTop (mkF m 156 A135 [(.int x134), (.ref bx1_0_103), (.int x134), (.ref bx1_0_103)])) _
      refine X132.baloadBytes hx (j := x134) (v := (.int (f120 x134))) (by rw [e132]; exact Ar136.1) (State.isArrayOf_alike hZ.alike Ar136.2.1) Ar136.2.2 (inb_of Sz136 (hx134 ▸ (own_last (hx4 ▸ own_m7 ((p0_3.toUInt32 >>> ((3 : Int32) &&& 31).toUInt32).toInt32)) (c := (1 : Int32)) (d := (0 : Int32)) (by decide) (by decide)))) (Hh136 _ (hx134 ▸ (own_last (hx4 ▸ own_m7 ((p0_3.toUInt32 >>> ((3 : Int32) &&& 31).toUInt32).toInt32)) (c := (1 : Int32)) (d := (0 : Int32)) (by decide) (by decide))).1 (hx134 ▸ (own_last (hx4 ▸ own_m7 ((p0_3.toUInt32 >>> ((3 : Int32) &&& 31).toUInt32).toInt32)) (c := (1 : Int32)) (d := (0 : Int32)) (by decide) (by decide))).2) (g := (mkF m 156 A135 [(.int x134), (.ref bx1_0_103), (.int x134), (.ref bx1_0_103)])) rfl rfl (hb hby at_156) _ ?_
      show Steps p.tables e below (T132.setTop (mkF m 157 A135 [(.int (f120 x134)), (.int x134), (.ref bx1_0_103)])) _
      refine XS.iload X132.here hx rfl (hb hby at_157) rfl ?_
      show Steps p.tables e below (T132.setTop (mkF m 159 A135 [(.int x8), (.int (f120 x134)), (.int x134), (.ref bx1_0_103)])) _
      refine XS.ixor X132.here hx rfl (hb hby at_159) rfl ?_
      show Steps p.tables e below (T132.setTop (mkF m 160 A135 [(.int ((f120 x134) ^^^ x8)), (.int x134), (.ref bx1_0_103)])) _
      refine XS.i2b X132.here hx rfl (hb hby at_160) rfl ?_
      show Steps p.tables e below (T132.setTop (mkF m 161 A135 [(.int (((f120 x134) ^^^ x8).toInt8.toInt32)), (.int x134), (.ref bx1_0_103)])) _
      refine st138 _ ?_
      show Steps p.tables e below (T138.setTop (mkF m 162 A135 [])) _
      refine XS.aload X138.here hx rfl (hb hby at_162) rfl rfl ?_
      show Steps p.tables e below (T138.setTop (mkF m 164 A135 [(.ref bx1_0_103)])) _
      refine XS.iload X138.here hx rfl (hb hby at_164) rfl ?_
      show Steps p.tables e below (T138.setTop (mkF m 166 A135 [(.int x4), (.ref bx1_0_103)])) _
      refine XS.iload X138.here hx rfl (hb hby at_166) rfl ?_
      show Steps p.tables e below (T138.setTop (mkF m 168 A135 [(.int x4), (.int x4), (.ref bx1_0_103)])) _
      refine XS.iload X138.here hx rfl (hb hby at_168) rfl ?_
      show Steps p.tables e below (T138.setTop (mkF m 170 A135 [(.int (1 : Int32)), (.int x4), (.int x4), (.ref bx1_0_103)])) _
      refine XS.iadd X138.here hx rfl (hb hby at_170) rfl ?_
      show Steps p.tables e below (T138.setTop (mkF m 171 A135 [(.int (x4 + (1 : Int32))), (.int x4), (.ref bx1_0_103)])) _
      refine st140 _ ?_
      show Steps p.tables e below (T140.setTop (mkF m 174 #[.val (.long q0_0), .second, .val (.long q0_1), .second, .val (.long q0_2), .second, .val (.int p0_3), .val (.int p0_4), .val (.int p0_5), .val (.int x2), .val (.int x4), .val (.int (1 : Int32)), .val (.int x8), .val (.ref bx1_0_69), .val (.ref bx1_0_86), .val (.ref bx1_0_103), .val (.long x123), .second, .val (.long x127), .second, .val (.int v131), .val (.int x134), .unset, .unset] [(.long ((((((((-3750763034362895579 : Int64) ^^^ (((f139 x4) &&& (255 : Int32)).toInt64)) * (1099511628211 : Int64)) ^^^ (((((-3750763034362895579 : Int64) ^^^ (((f139 x4) &&& (255 : Int32)).toInt64)) * (1099511628211 : Int64)).toUInt64 >>> ((33 : Int32) &&& 0x3f).toInt64.toUInt64).toInt64)) * (-49064778989728563 : Int64)) ^^^ (((((((-3750763034362895579 : Int64) ^^^ (((f139 x4) &&& (255 : Int32)).toInt64)) * (1099511628211 : Int64)) ^^^ (((((-3750763034362895579 : Int64) ^^^ (((f139 x4) &&& (255 : Int32)).toInt64)) * (1099511628211 : Int64)).toUInt64 >>> ((33 : Int32) &&& 0x3f).toInt64.toUInt64).toInt64)) * (-49064778989728563 : Int64)).toUInt64 >>> ((33 : Int32) &&& 0x3f).toInt64.toUInt64).toInt64)) * (-4265267296055464877 : Int64)) ^^^ (((((((((-3750763034362895579 : Int64) ^^^ (((f139 x4) &&& (255 : Int32)).toInt64)) * (1099511628211 : Int64)) ^^^ (((((-3750763034362895579 : Int64) ^^^ (((f139 x4) &&& (255 : Int32)).toInt64)) * (1099511628211 : Int64)).toUInt64 >>> ((33 : Int32) &&& 0x3f).toInt64.toUInt64).toInt64)) * (-49064778989728563 : Int64)) ^^^ (((((((-3750763034362895579 : Int64) ^^^ (((f139 x4) &&& (255 : Int32)).toInt64)) * (1099511628211 : Int64)) ^^^ (((((-3750763034362895579 : Int64) ^^^ (((f139 x4) &&& (255 : Int32)).toInt64)) * (1099511628211 : Int64)).toUInt64 >>> ((33 : Int32) &&& 0x3f).toInt64.toUInt64).toInt64)) * (-49064778989728563 : Int64)).toUInt64 >>> ((33 : Int32) &&& 0x3f).toInt64.toUInt64).toInt64)) * (-4265267296055464877 : Int64)).toUInt64 >>> ((33 : Int32) &&& 0x3f).toInt64.toUInt64).toInt64)))])) _
      rw [← hx141]
      show Steps p.tables e below (T140.setTop (mkF m 174 A135 [(.long x141)])) _
      refine XS.lstore X140.here hx rfl (hb hby at_174) rfl (l' := A142) rfl ?_
      show Steps p.tables e below (T140.setTop (mkF m 176 A142 [])) _
      refine XS.iload X140.here hx rfl (hb hby at_176) rfl ?_
      exact k
    obtain ⟨v147, hv147⟩ : ∃ z : Int32, z = (if v131 = (0 : Int32) then (0 : Int32) else (if x141 = x127 then (0 : Int32) else (1 : Int32))) := ⟨_, rfl⟩
    obtain ⟨T148, Lo148, X148, N148, e148, G148⟩ := own_join X140 N140 (h := h138) (mkF m 178 A142 [(.int v131)]) (mkF m 194 A142 [(.int v147)]) (by
      by_cases h178_144 : v131 = (0 : Int32)
      · refine ⟨T140, _, X140, N140, e140, fun t k => ?_⟩
        rw [show v147 = (0 : Int32) from hv147.trans (if_pos h178_144)] at k
        show Steps p.tables e below (T140.setTop (mkF m 178 A142 [(.int v131)])) _
        refine XS.ifYes X140.here hx rfl (pc0 := 178) (pc' := 193) rfl (hb hby at_178) rfl ((if0 _ _).trans (teq h178_144).1) (by decide) (by decide) ?_
        show Steps p.tables e below (T140.setTop (mkF m 193 A142 [])) _
        refine XS.iconst X140.here hx rfl (hb hby at_193) ?_
        exact k
      · have G145 : ∀ t, Steps p.tables e below (T140.setTop (mkF m 186 A142 [(.int (lcmpW x141 x127))])) t → Steps p.tables e below (T140.setTop (mkF m 178 A142 [(.int v131)])) t := by
          intro t k
          show Steps p.tables e below (T140.setTop (mkF m 178 A142 [(.int v131)])) _
          refine XS.ifNo X140.here hx rfl (hb hby at_178) rfl ((if0 _ _).trans (feq h178_144).1) ?_
          show Steps p.tables e below (T140.setTop (mkF m 181 A142 [])) _
          refine XS.lload X140.here hx rfl (hb hby at_181) rfl ?_
          show Steps p.tables e below (T140.setTop (mkF m 183 A142 [(.long x141)])) _
          refine XS.lload X140.here hx rfl (hb hby at_183) rfl ?_
          show Steps p.tables e below (T140.setTop (mkF m 185 A142 [(.long x127), (.long x141)])) _
          refine XS.lcmp X140.here hx rfl (hb hby at_185) rfl ?_
          exact k
        by_cases h186_146 : x141 = x127
        · refine ⟨T140, _, X140, N140, e140, fun t k => ?_⟩
          rw [show v147 = (0 : Int32) from hv147.trans ((if_neg h178_144).trans (if_pos h186_146))] at k
          refine G145 _ ?_
          show Steps p.tables e below (T140.setTop (mkF m 186 A142 [(.int (lcmpW x141 x127))])) _
          refine XS.ifYes X140.here hx rfl (pc0 := 186) (pc' := 193) rfl (hb hby at_186) rfl ((if0 _ _).trans (teq ((lw_eq _ _).mpr h186_146)).1) (by decide) (by decide) ?_
          show Steps p.tables e below (T140.setTop (mkF m 193 A142 [])) _
          refine XS.iconst X140.here hx rfl (hb hby at_193) ?_
          exact k
        · refine ⟨T140, _, X140, N140, e140, fun t k => ?_⟩
          rw [show v147 = (1 : Int32) from hv147.trans ((if_neg h178_144).trans (if_neg h186_146))] at k
          refine G145 _ ?_
          show Steps p.tables e below (T140.setTop (mkF m 186 A142 [(.int (lcmpW x141 x127))])) _
          refine XS.ifNo X140.here hx rfl (hb hby at_186) rfl ((if0 _ _).trans (feq (fun q => h186_146 ((lw_eq _ _).mp q))).1) ?_
          show Steps p.tables e below (T140.setTop (mkF m 189 A142 [])) _
          refine XS.iconst X140.here hx rfl (hb hby at_189) ?_
          show Steps p.tables e below (T140.setTop (mkF m 190 A142 [(.int (1 : Int32))])) _
          refine XS.goto X140.here hx rfl (pc0 := 190) (pc' := 194) rfl (hb hby at_190) (by decide) (by decide) ?_
          exact k)
    have fin : v147 = (1 : Int32) := by
      exact own_fin1 q0_0 q0_1 q0_2 p0_3 p0_4 p0_5 x2 hx2 x4 hx4 x6 hx6 x8 hx8 y70 hy70 y71 hy71 y72 hy72 y73 hy73 y74 hy74 y75 hy75 y76 hy76 y77 hy77 y78 hy78 y79 hy79 y80 hy80 y81 hy81 f83 hf83 f85 hf85 y87 hy87 y88 hy88 y89 hy89 y90 hy90 y91 hy91 y92 hy92 y93 hy93 y94 hy94 y95 hy95 y96 hy96 y97 hy97 y98 hy98 f100 hf100 f102 hf102 y105 hy105 y106 hy106 y107 hy107 y108 hy108 y109 hy109 y110 hy110 y111 hy111 y112 hy112 y113 hy113 y114 hy114 y115 hy115 y116 hy116 f118 hf118 f120 hf120 x123 hx123 x127 hx127 v131 hv131 x134 hx134 f139 hf139 x141 hx141 v147 hv147 hc12
    obtain ⟨fs, hr, hrun, hended, hW, hsame⟩ := X148.leave (v := some (.int (1 : Int32))) (fun h => by rw [Bd.returns] at h; cases h)
    refine ⟨_, _, pre0 _ ?_, hrun, hended, _, _, rfl, ?_, ⟨_, rfl⟩, hW, hsame.mono (by decide) (by decide)⟩
    · refine G10 _ ?_
      refine G129 _ ?_
      refine G132 _ ?_
      refine G143 _ ?_
      refine G148 _ ?_
      show Steps p.tables e below (T148.setTop (mkF m 194 A142 [(.int v147)])) _
      rw [fin]
      exact retN X148 hx (t := .boolean) Bd.returns (by simp) (hb hby at_194) hr
    · exact ⟨rfl, N148⟩
  · let A149 : Array Slot := #[.val (.long q0_0), .second, .val (.long q0_1), .second, .val (.long q0_2), .second, .val (.int p0_3), .val (.int p0_4), .val (.int p0_5), .val (.int x2), .val (.int x4), .val (.int (2 : Int32)), .val (.int x8), .unset, .unset, .unset, .unset, .unset, .unset, .unset, .unset, .unset, .unset, .unset]
    have own_t13 : True := trivial
    obtain ⟨_, _, ⟨T150, L150, k150, n150⟩, -, X150, ⟨Lc150, hQ150, l150, y150, z150⟩, st150⟩ := Jvm.LawKit.callS X0 hx (y := (⟨"com/example/mortise/mortise/join/RecordKeyHashPinLaw", "fill", "(J)[B"⟩ : MethodName)) hown (mvT hZ (ow1 hw)) (mvT hZ (ow2 hw)) (mvT hZ (ow3 hw)) (mvT hZ (ow4 hw)) (by decide) (backOf (W := 0) (rm1 l Z a0 hw [] q0_1 h0 n0 Z0 ) hZ (ow4 hw) (ow3 hw) (by decide) (by decide)) (g := (mkF m 39 A149 [(.long q0_1)])) rfl (by rw [hml]; rfl) (argsL := [(.long q0_1)]) (rest := []) (lenOf pd__J__B rfl) rfl (by show 2 * 0 + _ ≤ _; exact Nat.le_of_eq rfl) (hb hby at_39) (fun _ _ => ⟨rfl, e0, (by decide : 0 + 1 ≤ _), (by decide : 0 + 12 ≤ _)⟩)
    dsimp only [Pt.U, Pt.locs, Pt.cells, Pt.slots] at X150 l150 y150 z150 st150 hQ150
    subst l150 y150 z150
    obtain ⟨bx1_0_150, kx1_0_150, rfl, Nq150, Kc150, P150_0, P150_1⟩ := hQ150
    have K150 : Keep h0 T150.heap [] := Keep.trans (Keep.refl h0 []) Kc150 all0
    have Z150 : n0 ≤ T150.heap.size := Nat.le_trans Z0 K150.1
    have g_bx1_0_150 : n0 ≤ bx1_0_150 := Nat.le_trans Z0 P150_0
    have sz_bx1_0_150 : h0.size ≤ bx1_0_150 := Nat.le_trans (Nat.le_refl _) P150_0
    obtain ⟨y151, hy151⟩ : ∃ z : Int32, z = (nar .byte ((q0_1.toInt32).toInt8.toInt32)) := ⟨_, rfl⟩
    rw [← hy151] at P150_1
    obtain ⟨y152, hy152⟩ : ∃ z : Int32, z = (nar .byte ((((q0_1.toUInt64 >>> ((8 : Int32) &&& 0x3f).toInt64.toUInt64).toInt64).toInt32).toInt8.toInt32)) := ⟨_, rfl⟩
    rw [← hy152] at P150_1
    obtain ⟨y153, hy153⟩ : ∃ z : Int32, z = (nar .byte ((((q0_1.toUInt64 >>> ((16 : Int32) &&& 0x3f).toInt64.toUInt64).toInt64).toInt32).toInt8.toInt32)) := ⟨_, rfl⟩
    rw [← hy153] at P150_1
    obtain ⟨y154, hy154⟩ : ∃ z : Int32, z = (nar .byte ((((q0_1.toUInt64 >>> ((24 : Int32) &&& 0x3f).toInt64.toUInt64).toInt64).toInt32).toInt8.toInt32)) := ⟨_, rfl⟩
    rw [← hy154] at P150_1
    obtain ⟨y155, hy155⟩ : ∃ z : Int32, z = (nar .byte ((((q0_1.toUInt64 >>> ((32 : Int32) &&& 0x3f).toInt64.toUInt64).toInt64).toInt32).toInt8.toInt32)) := ⟨_, rfl⟩
    rw [← hy155] at P150_1
    obtain ⟨y156, hy156⟩ : ∃ z : Int32, z = (nar .byte ((((q0_1.toUInt64 >>> ((40 : Int32) &&& 0x3f).toInt64.toUInt64).toInt64).toInt32).toInt8.toInt32)) := ⟨_, rfl⟩
    rw [← hy156] at P150_1
    obtain ⟨y157, hy157⟩ : ∃ z : Int32, z = (nar .byte ((((q0_1.toUInt64 >>> ((48 : Int32) &&& 0x3f).toInt64.toUInt64).toInt64).toInt32).toInt8.toInt32)) := ⟨_, rfl⟩
    rw [← hy157] at P150_1
    obtain ⟨y158, hy158⟩ : ∃ z : Int32, z = (nar .byte ((((q0_1.toUInt64 >>> ((56 : Int32) &&& 0x3f).toInt64.toUInt64).toInt64).toInt32).toInt8.toInt32)) := ⟨_, rfl⟩
    rw [← hy158] at P150_1
    obtain ⟨y159, hy159⟩ : ∃ z : Int32, z = (nar .byte ((((q0_1.toUInt64 >>> ((4 : Int32) &&& 0x3f).toInt64.toUInt64).toInt64).toInt32).toInt8.toInt32)) := ⟨_, rfl⟩
    rw [← hy159] at P150_1
    obtain ⟨y160, hy160⟩ : ∃ z : Int32, z = (nar .byte ((((q0_1.toUInt64 >>> ((12 : Int32) &&& 0x3f).toInt64.toUInt64).toInt64).toInt32).toInt8.toInt32)) := ⟨_, rfl⟩
    rw [← hy160] at P150_1
    obtain ⟨y161, hy161⟩ : ∃ z : Int32, z = (nar .byte ((((q0_1.toUInt64 >>> ((20 : Int32) &&& 0x3f).toInt64.toUInt64).toInt64).toInt32).toInt8.toInt32)) := ⟨_, rfl⟩
    rw [← hy161] at P150_1
    obtain ⟨y162, hy162⟩ : ∃ z : Int32, z = (nar .byte ((((q0_1.toUInt64 >>> ((28 : Int32) &&& 0x3f).toInt64.toUInt64).toInt64).toInt32).toInt8.toInt32)) := ⟨_, rfl⟩
    rw [← hy162] at P150_1
    have N150 := Fr.app N0 Nq150
    let A163 : Array Slot := #[.val (.long q0_0), .second, .val (.long q0_1), .second, .val (.long q0_2), .second, .val (.int p0_3), .val (.int p0_4), .val (.int p0_5), .val (.int x2), .val (.int x4), .val (.int (2 : Int32)), .val (.int x8), .val (.ref bx1_0_150), .unset, .unset, .unset, .unset, .unset, .unset, .unset, .unset, .unset, .unset]
    have Bf164 := Bya.of_arv (es := [y151, y152, y153, y154, y155, y156, y157, y158, y159, y160, y161, y162]) P150_1 rfl
    obtain ⟨f164, hf164⟩ : ∃ g : Int32 → Int32, g = (fun i => ([y151, y152, y153, y154, y155, y156, y157, y158, y159, y160, y161, y162] : List Int32).getD i.toNatClampNeg 0) := ⟨_, rfl⟩
    rw [← hf164] at Bf164
    obtain ⟨_, _, ⟨T165, L165, k165, n165⟩, -, X165, ⟨Lc165, hQ165, l165, y165, z165⟩, st165⟩ := Jvm.LawKit.callS X150 hx (y := (⟨"com/example/mortise/mortise/join/RecordKeyHashPinLaw", "place", "([BIJI)V"⟩ : MethodName)) hown (mvT hZ (ow6 hw)) (mvT hZ (ow7 hw)) (mvT hZ (ow3 hw)) (mvT hZ (ow8 hw)) (by decide) (backOf (W := 0) (rm2_l2 l Z a0 hw [] bx1_0_150 x2 q0_0 f164 T150.heap n0 Z150 (hx2 ▸ own_m7 p0_3) Bf164 g_bx1_0_150) hZ (ow8 hw) (ow3 hw) (by decide) (by decide)) (g := (mkF m 51 A163 [(.int (2 : Int32)), (.long q0_0), (.int x2), (.ref bx1_0_150)])) rfl (by rw [hml]; rfl) (argsL := [(.ref bx1_0_150), (.int x2), (.long q0_0), (.int (2 : Int32))]) (rest := []) (lenOf pd___BIJI_V rfl) rfl (by show 2 * 0 + _ ≤ _; exact Nat.le_of_eq rfl) (hb hby at_51) (fun _ _ => ⟨rfl, rfl, (by decide : 1 + 0 ≤ _), (by decide : 12 + 0 ≤ _)⟩)
    dsimp only [Pt.U, Pt.locs, Pt.cells, Pt.slots] at X165 l165 y165 z165 st165 hQ165
    subst l165 y165 z165
    obtain ⟨rfl, Nq165, Kc165, P165_0⟩ := hQ165
    have K165 : Keep h0 T165.heap [] := Keep.trans K150 Kc165 (allS (P := fun x => x ∈ ([] : List Addr) ∨ h0.size ≤ x) (Or.inr sz_bx1_0_150) all0)
    have Z165 : n0 ≤ T165.heap.size := Nat.le_trans Z0 K165.1
    obtain ⟨f166, hf166⟩ : ∃ g : Int32 → Int32, g = (fun i => if i = (x2 + (1 : Int32)) then (nar .byte ((((q0_0.toUInt64 >>> ((8 : Int32) &&& 0x3f).toInt64.toUInt64).toInt64).toInt32).toInt8.toInt32)) else (fun i => if i = x2 then (nar .byte ((q0_0.toInt32).toInt8.toInt32)) else f164 i) i) := ⟨_, rfl⟩
    rw [← hf166] at P165_0
    have N165 := Fr.app N150 Nq165
    obtain ⟨_, _, ⟨T167, L167, k167, n167⟩, -, X167, ⟨Lc167, hQ167, l167, y167, z167⟩, st167⟩ := Jvm.LawKit.callS X165 hx (y := (⟨"com/example/mortise/mortise/join/RecordKeyHashPinLaw", "fill", "(J)[B"⟩ : MethodName)) hown (mvT hZ (ow1 hw)) (mvT hZ (ow2 hw)) (mvT hZ (ow3 hw)) (mvT hZ (ow4 hw)) (by decide) (backOf (W := 0) (rm1 l Z a0 hw [] q0_2 T165.heap n0 Z165 ) hZ (ow4 hw) (ow3 hw) (by decide) (by decide)) (g := (mkF m 56 A163 [(.long q0_2)])) rfl (by rw [hml]; rfl) (argsL := [(.long q0_2)]) (rest := []) (lenOf pd__J__B rfl) rfl (by show 2 * 0 + _ ≤ _; exact Nat.le_of_eq rfl) (hb hby at_56) (fun _ _ => ⟨rfl, rfl, (by decide : 1 + 1 ≤ _), (by decide : 12 + 12 ≤ _)⟩)
    dsimp only [Pt.U, Pt.locs, Pt.cells, Pt.slots] at X167 l167 y167 z167 st167 hQ167
    subst l167 y167 z167
    obtain ⟨bx1_0_167, kx1_0_167, rfl, Nq167, Kc167, P167_0, P167_1⟩ := hQ167
    have K167 : Keep h0 T167.heap [] := Keep.trans K165 Kc167 all0
    have Z167 : n0 ≤ T167.heap.size := Nat.le_trans Z0 K167.1
    have g_bx1_0_167 : n0 ≤ bx1_0_167 := Nat.le_trans Z165 P167_0
    have sz_bx1_0_167 : h0.size ≤ bx1_0_167 := Nat.le_trans K165.1 P167_0
    have ne_bx1_0_150_bx1_0_167 : bx1_0_150 ≠ bx1_0_167 := Nat.ne_of_lt (Nat.lt_of_lt_of_le P165_0.lt P167_0)
    obtain ⟨y168, hy168⟩ : ∃ z : Int32, z = (nar .byte ((q0_2.toInt32).toInt8.toInt32)) := ⟨_, rfl⟩
    rw [← hy168] at P167_1
    obtain ⟨y169, hy169⟩ : ∃ z : Int32, z = (nar .byte ((((q0_2.toUInt64 >>> ((8 : Int32) &&& 0x3f).toInt64.toUInt64).toInt64).toInt32).toInt8.toInt32)) := ⟨_, rfl⟩
    rw [← hy169] at P167_1
    obtain ⟨y170, hy170⟩ : ∃ z : Int32, z = (nar .byte ((((q0_2.toUInt64 >>> ((16 : Int32) &&& 0x3f).toInt64.toUInt64).toInt64).toInt32).toInt8.toInt32)) := ⟨_, rfl⟩
    rw [← hy170] at P167_1
    obtain ⟨y171, hy171⟩ : ∃ z : Int32, z = (nar .byte ((((q0_2.toUInt64 >>> ((24 : Int32) &&& 0x3f).toInt64.toUInt64).toInt64).toInt32).toInt8.toInt32)) := ⟨_, rfl⟩
    rw [← hy171] at P167_1
    obtain ⟨y172, hy172⟩ : ∃ z : Int32, z = (nar .byte ((((q0_2.toUInt64 >>> ((32 : Int32) &&& 0x3f).toInt64.toUInt64).toInt64).toInt32).toInt8.toInt32)) := ⟨_, rfl⟩
    rw [← hy172] at P167_1
    obtain ⟨y173, hy173⟩ : ∃ z : Int32, z = (nar .byte ((((q0_2.toUInt64 >>> ((40 : Int32) &&& 0x3f).toInt64.toUInt64).toInt64).toInt32).toInt8.toInt32)) := ⟨_, rfl⟩
    rw [← hy173] at P167_1
    obtain ⟨y174, hy174⟩ : ∃ z : Int32, z = (nar .byte ((((q0_2.toUInt64 >>> ((48 : Int32) &&& 0x3f).toInt64.toUInt64).toInt64).toInt32).toInt8.toInt32)) := ⟨_, rfl⟩
    rw [← hy174] at P167_1
    obtain ⟨y175, hy175⟩ : ∃ z : Int32, z = (nar .byte ((((q0_2.toUInt64 >>> ((56 : Int32) &&& 0x3f).toInt64.toUInt64).toInt64).toInt32).toInt8.toInt32)) := ⟨_, rfl⟩
    rw [← hy175] at P167_1
    obtain ⟨y176, hy176⟩ : ∃ z : Int32, z = (nar .byte ((((q0_2.toUInt64 >>> ((4 : Int32) &&& 0x3f).toInt64.toUInt64).toInt64).toInt32).toInt8.toInt32)) := ⟨_, rfl⟩
    rw [← hy176] at P167_1
    obtain ⟨y177, hy177⟩ : ∃ z : Int32, z = (nar .byte ((((q0_2.toUInt64 >>> ((12 : Int32) &&& 0x3f).toInt64.toUInt64).toInt64).toInt32).toInt8.toInt32)) := ⟨_, rfl⟩
    rw [← hy177] at P167_1
    obtain ⟨y178, hy178⟩ : ∃ z : Int32, z = (nar .byte ((((q0_2.toUInt64 >>> ((20 : Int32) &&& 0x3f).toInt64.toUInt64).toInt64).toInt32).toInt8.toInt32)) := ⟨_, rfl⟩
    rw [← hy178] at P167_1
    obtain ⟨y179, hy179⟩ : ∃ z : Int32, z = (nar .byte ((((q0_2.toUInt64 >>> ((28 : Int32) &&& 0x3f).toInt64.toUInt64).toInt64).toInt32).toInt8.toInt32)) := ⟨_, rfl⟩
    rw [← hy179] at P167_1
    have N167 := Fr.app N165 Nq167
    let A180 : Array Slot := #[.val (.long q0_0), .second, .val (.long q0_1), .second, .val (.long q0_2), .second, .val (.int p0_3), .val (.int p0_4), .val (.int p0_5), .val (.int x2), .val (.int x4), .val (.int (2 : Int32)), .val (.int x8), .val (.ref bx1_0_150), .val (.ref bx1_0_167), .unset, .unset, .unset, .unset, .unset, .unset, .unset, .unset, .unset]
    have Bf181 := Bya.of_arv (es := [y168, y169, y170, y171, y172, y173, y174, y175, y176, y177, y178, y179]) P167_1 rfl
    obtain ⟨f181, hf181⟩ : ∃ g : Int32 → Int32, g = (fun i => ([y168, y169, y170, y171, y172, y173, y174, y175, y176, y177, y178, y179] : List Int32).getD i.toNatClampNeg 0) := ⟨_, rfl⟩
    rw [← hf181] at Bf181
    obtain ⟨_, _, ⟨T182, L182, k182, n182⟩, -, X182, ⟨Lc182, hQ182, l182, y182, z182⟩, st182⟩ := Jvm.LawKit.callS X167 hx (y := (⟨"com/example/mortise/mortise/join/RecordKeyHashPinLaw", "place", "([BIJI)V"⟩ : MethodName)) hown (mvT hZ (ow6 hw)) (mvT hZ (ow7 hw)) (mvT hZ (ow3 hw)) (mvT hZ (ow8 hw)) (by decide) (backOf (W := 0) (rm2_l2 l Z a0 hw [] bx1_0_167 x4 q0_0 f181 T167.heap n0 Z167 (hx4 ▸ own_m7 ((p0_3.toUInt32 >>> ((3 : Int32) &&& 31).toUInt32).toInt32)) Bf181 g_bx1_0_167) hZ (ow8 hw) (ow3 hw) (by decide) (by decide)) (g := (mkF m 68 A180 [(.int (2 : Int32)), (.long q0_0), (.int x4), (.ref bx1_0_167)])) rfl (by rw [hml]; rfl) (argsL := [(.ref bx1_0_167), (.int x4), (.long q0_0), (.int (2 : Int32))]) (rest := []) (lenOf pd___BIJI_V rfl) rfl (by show 2 * 0 + _ ≤ _; exact Nat.le_of_eq rfl) (hb hby at_68) (fun _ _ => ⟨rfl, rfl, (by decide : 2 + 0 ≤ _), (by decide : 24 + 0 ≤ _)⟩)
    dsimp only [Pt.U, Pt.locs, Pt.cells, Pt.slots] at X182 l182 y182 z182 st182 hQ182
    subst l182 y182 z182
    obtain ⟨rfl, Nq182, Kc182, P182_0⟩ := hQ182
    have K182 : Keep h0 T182.heap [] := Keep.trans K167 Kc182 (allS (P := fun x => x ∈ ([] : List Addr) ∨ h0.size ≤ x) (Or.inr sz_bx1_0_167) all0)
    have Z182 : n0 ≤ T182.heap.size := Nat.le_trans Z0 K182.1
    obtain ⟨f183, hf183⟩ : ∃ g : Int32 → Int32, g = (fun i => if i = (x4 + (1 : Int32)) then (nar .byte ((((q0_0.toUInt64 >>> ((8 : Int32) &&& 0x3f).toInt64.toUInt64).toInt64).toInt32).toInt8.toInt32)) else (fun i => if i = x4 then (nar .byte ((q0_0.toInt32).toInt8.toInt32)) else f181 i) i) := ⟨_, rfl⟩
    rw [← hf183] at P182_0
    have N182 := Fr.app N167 Nq182
    have f185 := ((P165_0.keep Kc167 nin0).keep Kc182 (ninS ne_bx1_0_150_bx1_0_167 nin0))
    obtain ⟨_, _, ⟨T184, L184, k184, n184⟩, -, X184, ⟨Lc184, hQ184, l184, y184, z184⟩, st184⟩ := Jvm.LawKit.callS X182 hx (y := (⟨"com/example/mortise/mortise/join/RecordKeyHashPinLaw", "fill", "(J)[B"⟩ : MethodName)) hown (mvT hZ (ow1 hw)) (mvT hZ (ow2 hw)) (mvT hZ (ow3 hw)) (mvT hZ (ow4 hw)) (by decide) (backOf (W := 0) (rm1 l Z a0 hw [] q0_2 T182.heap n0 Z182 ) hZ (ow4 hw) (ow3 hw) (by decide) (by decide)) (g := (mkF m 73 A180 [(.long q0_2)])) rfl (by rw [hml]; rfl) (argsL := [(.long q0_2)]) (rest := []) (lenOf pd__J__B rfl) rfl (by show 2 * 0 + _ ≤ _; exact Nat.le_of_eq rfl) (hb hby at_73) (fun _ _ => ⟨rfl, rfl, (by decide : 2 + 1 ≤ _), (by decide : 24 + 12 ≤ _)⟩)
    dsimp only [Pt.U, Pt.locs, Pt.cells, Pt.slots] at X184 l184 y184 z184 st184 hQ184
    subst l184 y184 z184
    obtain ⟨bx1_0_184, kx1_0_184, rfl, Nq184, Kc184, P184_0, P184_1⟩ := hQ184
    have K184 : Keep h0 T184.heap [] := Keep.trans K182 Kc184 all0
    have Z184 : n0 ≤ T184.heap.size := Nat.le_trans Z0 K184.1
    have g_bx1_0_184 : n0 ≤ bx1_0_184 := Nat.le_trans Z182 P184_0
    have sz_bx1_0_184 : h0.size ≤ bx1_0_184 := Nat.le_trans K182.1 P184_0
    have ne_bx1_0_150_bx1_0_184 : bx1_0_150 ≠ bx1_0_184 := Nat.ne_of_lt (Nat.lt_of_lt_of_le f185.lt P184_0)
    have ne_bx1_0_167_bx1_0_184 : bx1_0_167 ≠ bx1_0_184 := Nat.ne_of_lt (Nat.lt_of_lt_of_le P182_0.lt P184_0)
    obtain ⟨y186, hy186⟩ : ∃ z : Int32, z = (nar .byte ((q0_2.toInt32).toInt8.toInt32)) := ⟨_, rfl⟩
    rw [← hy186] at P184_1
    obtain ⟨y187, hy187⟩ : ∃ z : Int32, z = (nar .byte ((((q0_2.toUInt64 >>> ((8 : Int32) &&& 0x3f).toInt64.toUInt64).toInt64).toInt32).toInt8.toInt32)) := ⟨_, rfl⟩
    rw [← hy187] at P184_1
    obtain ⟨y188, hy188⟩ : ∃ z : Int32, z = (nar .byte ((((q0_2.toUInt64 >>> ((16 : Int32) &&& 0x3f).toInt64.toUInt64).toInt64).toInt32).toInt8.toInt32)) := ⟨_, rfl⟩
    rw [← hy188] at P184_1
    obtain ⟨y189, hy189⟩ : ∃ z : Int32, z = (nar .byte ((((q0_2.toUInt64 >>> ((24 : Int32) &&& 0x3f).toInt64.toUInt64).toInt64).toInt32).toInt8.toInt32)) := ⟨_, rfl⟩
    rw [← hy189] at P184_1
    obtain ⟨y190, hy190⟩ : ∃ z : Int32, z = (nar .byte ((((q0_2.toUInt64 >>> ((32 : Int32) &&& 0x3f).toInt64.toUInt64).toInt64).toInt32).toInt8.toInt32)) := ⟨_, rfl⟩
    rw [← hy190] at P184_1
    obtain ⟨y191, hy191⟩ : ∃ z : Int32, z = (nar .byte ((((q0_2.toUInt64 >>> ((40 : Int32) &&& 0x3f).toInt64.toUInt64).toInt64).toInt32).toInt8.toInt32)) := ⟨_, rfl⟩
    rw [← hy191] at P184_1
    obtain ⟨y192, hy192⟩ : ∃ z : Int32, z = (nar .byte ((((q0_2.toUInt64 >>> ((48 : Int32) &&& 0x3f).toInt64.toUInt64).toInt64).toInt32).toInt8.toInt32)) := ⟨_, rfl⟩
    rw [← hy192] at P184_1
    obtain ⟨y193, hy193⟩ : ∃ z : Int32, z = (nar .byte ((((q0_2.toUInt64 >>> ((56 : Int32) &&& 0x3f).toInt64.toUInt64).toInt64).toInt32).toInt8.toInt32)) := ⟨_, rfl⟩
    rw [← hy193] at P184_1
    obtain ⟨y194, hy194⟩ : ∃ z : Int32, z = (nar .byte ((((q0_2.toUInt64 >>> ((4 : Int32) &&& 0x3f).toInt64.toUInt64).toInt64).toInt32).toInt8.toInt32)) := ⟨_, rfl⟩
    rw [← hy194] at P184_1
    obtain ⟨y195, hy195⟩ : ∃ z : Int32, z = (nar .byte ((((q0_2.toUInt64 >>> ((12 : Int32) &&& 0x3f).toInt64.toUInt64).toInt64).toInt32).toInt8.toInt32)) := ⟨_, rfl⟩
    rw [← hy195] at P184_1
    obtain ⟨y196, hy196⟩ : ∃ z : Int32, z = (nar .byte ((((q0_2.toUInt64 >>> ((20 : Int32) &&& 0x3f).toInt64.toUInt64).toInt64).toInt32).toInt8.toInt32)) := ⟨_, rfl⟩
    rw [← hy196] at P184_1
    obtain ⟨y197, hy197⟩ : ∃ z : Int32, z = (nar .byte ((((q0_2.toUInt64 >>> ((28 : Int32) &&& 0x3f).toInt64.toUInt64).toInt64).toInt32).toInt8.toInt32)) := ⟨_, rfl⟩
    rw [← hy197] at P184_1
    have N184 := Fr.app N182 Nq184
    let A198 : Array Slot := #[.val (.long q0_0), .second, .val (.long q0_1), .second, .val (.long q0_2), .second, .val (.int p0_3), .val (.int p0_4), .val (.int p0_5), .val (.int x2), .val (.int x4), .val (.int (2 : Int32)), .val (.int x8), .val (.ref bx1_0_150), .val (.ref bx1_0_167), .val (.ref bx1_0_184), .unset, .unset, .unset, .unset, .unset, .unset, .unset, .unset]
    have Bf199 := Bya.of_arv (es := [y186, y187, y188, y189, y190, y191, y192, y193, y194, y195, y196, y197]) P184_1 rfl
    obtain ⟨f199, hf199⟩ : ∃ g : Int32 → Int32, g = (fun i => ([y186, y187, y188, y189, y190, y191, y192, y193, y194, y195, y196, y197] : List Int32).getD i.toNatClampNeg 0) := ⟨_, rfl⟩
    rw [← hf199] at Bf199
    obtain ⟨_, _, ⟨T200, L200, k200, n200⟩, -, X200, ⟨Lc200, hQ200, l200, y200, z200⟩, st200⟩ := Jvm.LawKit.callS X184 hx (y := (⟨"com/example/mortise/mortise/join/RecordKeyHashPinLaw", "place", "([BIJI)V"⟩ : MethodName)) hown (mvT hZ (ow6 hw)) (mvT hZ (ow7 hw)) (mvT hZ (ow3 hw)) (mvT hZ (ow8 hw)) (by decide) (backOf (W := 0) (rm2_l2 l Z a0 hw [] bx1_0_184 x4 q0_0 f199 T184.heap n0 Z184 (hx4 ▸ own_m7 ((p0_3.toUInt32 >>> ((3 : Int32) &&& 31).toUInt32).toInt32)) Bf199 g_bx1_0_184) hZ (ow8 hw) (ow3 hw) (by decide) (by decide)) (g := (mkF m 85 A198 [(.int (2 : Int32)), (.long q0_0), (.int x4), (.ref bx1_0_184)])) rfl (by rw [hml]; rfl) (argsL := [(.ref bx1_0_184), (.int x4), (.long q0_0), (.int (2 : Int32))]) (rest := []) (lenOf pd___BIJI_V rfl) rfl (by show 2 * 0 + _ ≤ _; exact Nat.le_of_eq rfl) (hb hby at_85) (fun _ _ => ⟨rfl, rfl, (by decide : 3 + 0 ≤ _), (by decide : 36 + 0 ≤ _)⟩)
    dsimp only [Pt.U, Pt.locs, Pt.cells, Pt.slots] at X200 l200 y200 z200 st200 hQ200
    subst l200 y200 z200
    obtain ⟨rfl, Nq200, Kc200, P200_0⟩ := hQ200
    have K200 : Keep h0 T200.heap [] := Keep.trans K184 Kc200 (allS (P := fun x => x ∈ ([] : List Addr) ∨ h0.size ≤ x) (Or.inr sz_bx1_0_184) all0)
    have Z200 : n0 ≤ T200.heap.size := Nat.le_trans Z0 K200.1
    obtain ⟨f201, hf201⟩ : ∃ g : Int32 → Int32, g = (fun i => if i = (x4 + (1 : Int32)) then (nar .byte ((((q0_0.toUInt64 >>> ((8 : Int32) &&& 0x3f).toInt64.toUInt64).toInt64).toInt32).toInt8.toInt32)) else (fun i => if i = x4 then (nar .byte ((q0_0.toInt32).toInt8.toInt32)) else f199 i) i) := ⟨_, rfl⟩
    rw [← hf201] at P200_0
    have N200 := Fr.app N184 Nq200
    have f202 := ((f185.keep Kc184 nin0).keep Kc200 (ninS ne_bx1_0_150_bx1_0_184 nin0))
    obtain ⟨_, _, ⟨T203, L203, k203, n203⟩, -, X203, ⟨Lc203, hQ203, l203, y203, z203⟩, st203⟩ := Jvm.LawKit.callS X200 hx (y := (⟨"com/example/mortise/mortise/join/Record", "keyHash", "([BII)J"⟩ : MethodName)) hown (mvT hZ (ow9 hw)) (mvT hZ (ow10 hw)) (mvT hZ (ow11 hw)) (mvT hZ (ow12 hw)) (by decide) (backOf (W := 0) (rm3_l2 l Z a0 hw [] bx1_0_150 x2 f166 T200.heap n0 Z200 (hx2 ▸ own_m7 p0_3) f202) hZ (ow12 hw) (ow11 hw) (by decide) (by decide)) (g := (mkF m 97 A198 [(.int (x2 + (2 : Int32))), (.int x2), (.ref bx1_0_150)])) rfl (by rw [hml]; rfl) (argsL := [(.ref bx1_0_150), (.int x2), (.int (x2 + (2 : Int32)))]) (rest := []) (lenOf pd___BII_J rfl) rfl (by show 2 * 0 + _ ≤ _; exact Nat.le_of_eq rfl) (hb hby at_97) (fun _ _ => ⟨rfl, rfl, (by decide : 3 + 0 ≤ _), (by decide : 36 + 0 ≤ _)⟩)
    dsimp only [Pt.U, Pt.locs, Pt.cells, Pt.slots] at X203 l203 y203 z203 st203 hQ203
    subst l203 y203 z203
    obtain ⟨rfl, Nq203, e203⟩ := hQ203
    have N203 := Fr.app N200 Nq203
    obtain ⟨x204, hx204⟩ : ∃ z : Int64, z = ((((((((((-3750763034362895579 : Int64) ^^^ (((f166 x2) &&& (255 : Int32)).toInt64)) * (1099511628211 : Int64)) ^^^ (((f166 (x2 + (1 : Int32))) &&& (255 : Int32)).toInt64)) * (1099511628211 : Int64)) ^^^ (((((((-3750763034362895579 : Int64) ^^^ (((f166 x2) &&& (255 : Int32)).toInt64)) * (1099511628211 : Int64)) ^^^ (((f166 (x2 + (1 : Int32))) &&& (255 : Int32)).toInt64)) * (1099511628211 : Int64)).toUInt64 >>> ((33 : Int32) &&& 0x3f).toInt64.toUInt64).toInt64)) * (-49064778989728563 : Int64)) ^^^ (((((((((-3750763034362895579 : Int64) ^^^ (((f166 x2) &&& (255 : Int32)).toInt64)) * (1099511628211 : Int64)) ^^^ (((f166 (x2 + (1 : Int32))) &&& (255 : Int32)).toInt64)) * (1099511628211 : Int64)) ^^^ (((((((-3750763034362895579 : Int64) ^^^ (((f166 x2) &&& (255 : Int32)).toInt64)) * (1099511628211 : Int64)) ^^^ (((f166 (x2 + (1 : Int32))) &&& (255 : Int32)).toInt64)) * (1099511628211 : Int64)).toUInt64 >>> ((33 : Int32) &&& 0x3f).toInt64.toUInt64).toInt64)) * (-49064778989728563 : Int64)).toUInt64 >>> ((33 : Int32) &&& 0x3f).toInt64.toUInt64).toInt64)) * (-4265267296055464877 : Int64)) ^^^ (((((((((((-3750763034362895579 : Int64) ^^^ (((f166 x2) &&& (255 : Int32)).toInt64)) * (1099511628211 : Int64)) ^^^ (((f166 (x2 + (1 : Int32))) &&& (255 : Int32)).toInt64)) * (1099511628211 : Int64)) ^^^ (((((((-3750763034362895579 : Int64) ^^^ (((f166 x2) &&& (255 : Int32)).toInt64)) * (1099511628211 : Int64)) ^^^ (((f166 (x2 + (1 : Int32))) &&& (255 : Int32)).toInt64)) * (1099511628211 : Int64)).toUInt64 >>> ((33 : Int32) &&& 0x3f).toInt64.toUInt64).toInt64)) * (-49064778989728563 : Int64)) ^^^ (((((((((-3750763034362895579 : Int64) ^^^ (((f166 x2) &&& (255 : Int32)).toInt64)) * (1099511628211 : Int64)) ^^^ (((f166 (x2 + (1 : Int32))) &&& (255 : Int32)).toInt64)) * (1099511628211 : Int64)) ^^^ (((((((-3750763034362895579 : Int64) ^^^ (((f166 x2) &&& (255 : Int32)).toInt64)) * (1099511628211 : Int64)) ^^^ (((f166 (x2 + (1 : Int32))) &&& (255 : Int32)).toInt64)) * (1099511628211 : Int64)).toUInt64 >>> ((33 : Int32) &&& 0x3f).toInt64.toUInt64).toInt64)) * (-49064778989728563 : Int64)).toUInt64 >>> ((33 : Int32) &&& 0x3f).toInt64.toUInt64).toInt64)) * (-4265267296055464877 : Int64)).toUInt64 >>> ((33 : Int32) &&& 0x3f).toInt64.toUInt64).toInt64)) := ⟨_, rfl⟩
    let A205 : Array Slot := #[.val (.long q0_0), .second, .val (.long q0_1), .second, .val (.long q0_2), .second, .val (.int p0_3), .val (.int p0_4), .val (.int p0_5), .val (.int x2), .val (.int x4), .val (.int (2 : Int32)), .val (.int x8), .val (.ref bx1_0_150), .val (.ref bx1_0_167), .val (.ref bx1_0_184), .val (.long x204), .second, .unset, .unset, .unset, .unset, .unset, .unset]
    have f206 := ((P182_0.keep Kc184 nin0).keep Kc200 (ninS ne_bx1_0_167_bx1_0_184 nin0))
    obtain ⟨_, _, ⟨T207, L207, k207, n207⟩, -, X207, ⟨Lc207, hQ207, l207, y207, z207⟩, st207⟩ := Jvm.LawKit.callS X203 hx (y := (⟨"com/example/mortise/mortise/join/Record", "keyHash", "([BII)J"⟩ : MethodName)) hown (mvT hZ (ow9 hw)) (mvT hZ (ow10 hw)) (mvT hZ (ow11 hw)) (mvT hZ (ow12 hw)) (by decide) (backOf (W := 0) (rm3_l2 l Z a0 hw [] bx1_0_167 x4 f183 T200.heap n0 Z200 (hx4 ▸ own_m7 ((p0_3.toUInt32 >>> ((3 : Int32) &&& 31).toUInt32).toInt32)) f206) hZ (ow12 hw) (ow11 hw) (by decide) (by decide)) (g := (mkF m 111 A205 [(.int (x4 + (2 : Int32))), (.int x4), (.ref bx1_0_167)])) rfl (by rw [hml]; rfl) (argsL := [(.ref bx1_0_167), (.int x4), (.int (x4 + (2 : Int32)))]) (rest := []) (lenOf pd___BII_J rfl) rfl (by show 2 * 0 + _ ≤ _; exact Nat.le_of_eq rfl) (hb hby at_111) (fun _ _ => ⟨rfl, e203, (by decide : 3 + 0 ≤ _), (by decide : 36 + 0 ≤ _)⟩)
    dsimp only [Pt.U, Pt.locs, Pt.cells, Pt.slots] at X207 l207 y207 z207 st207 hQ207
    subst l207 y207 z207
    obtain ⟨rfl, Nq207, e207⟩ := hQ207
    have N207 := Fr.app N203 Nq207
    obtain ⟨x208, hx208⟩ : ∃ z : Int64, z = ((((((((((-3750763034362895579 : Int64) ^^^ (((f183 x4) &&& (255 : Int32)).toInt64)) * (1099511628211 : Int64)) ^^^ (((f183 (x4 + (1 : Int32))) &&& (255 : Int32)).toInt64)) * (1099511628211 : Int64)) ^^^ (((((((-3750763034362895579 : Int64) ^^^ (((f183 x4) &&& (255 : Int32)).toInt64)) * (1099511628211 : Int64)) ^^^ (((f183 (x4 + (1 : Int32))) &&& (255 : Int32)).toInt64)) * (1099511628211 : Int64)).toUInt64 >>> ((33 : Int32) &&& 0x3f).toInt64.toUInt64).toInt64)) * (-49064778989728563 : Int64)) ^^^ (((((((((-3750763034362895579 : Int64) ^^^ (((f183 x4) &&& (255 : Int32)).toInt64)) * (1099511628211 : Int64)) ^^^ (((f183 (x4 + (1 : Int32))) &&& (255 : Int32)).toInt64)) * (1099511628211 : Int64)) ^^^ (((((((-3750763034362895579 : Int64) ^^^ (((f183 x4) &&& (255 : Int32)).toInt64)) * (1099511628211 : Int64)) ^^^ (((f183 (x4 + (1 : Int32))) &&& (255 : Int32)).toInt64)) * (1099511628211 : Int64)).toUInt64 >>> ((33 : Int32) &&& 0x3f).toInt64.toUInt64).toInt64)) * (-49064778989728563 : Int64)).toUInt64 >>> ((33 : Int32) &&& 0x3f).toInt64.toUInt64).toInt64)) * (-4265267296055464877 : Int64)) ^^^ (((((((((((-3750763034362895579 : Int64) ^^^ (((f183 x4) &&& (255 : Int32)).toInt64)) * (1099511628211 : Int64)) ^^^ (((f183 (x4 + (1 : Int32))) &&& (255 : Int32)).toInt64)) * (1099511628211 : Int64)) ^^^ (((((((-3750763034362895579 : Int64) ^^^ (((f183 x4) &&& (255 : Int32)).toInt64)) * (1099511628211 : Int64)) ^^^ (((f183 (x4 + (1 : Int32))) &&& (255 : Int32)).toInt64)) * (1099511628211 : Int64)).toUInt64 >>> ((33 : Int32) &&& 0x3f).toInt64.toUInt64).toInt64)) * (-49064778989728563 : Int64)) ^^^ (((((((((-3750763034362895579 : Int64) ^^^ (((f183 x4) &&& (255 : Int32)).toInt64)) * (1099511628211 : Int64)) ^^^ (((f183 (x4 + (1 : Int32))) &&& (255 : Int32)).toInt64)) * (1099511628211 : Int64)) ^^^ (((((((-3750763034362895579 : Int64) ^^^ (((f183 x4) &&& (255 : Int32)).toInt64)) * (1099511628211 : Int64)) ^^^ (((f183 (x4 + (1 : Int32))) &&& (255 : Int32)).toInt64)) * (1099511628211 : Int64)).toUInt64 >>> ((33 : Int32) &&& 0x3f).toInt64.toUInt64).toInt64)) * (-49064778989728563 : Int64)).toUInt64 >>> ((33 : Int32) &&& 0x3f).toInt64.toUInt64).toInt64)) * (-4265267296055464877 : Int64)).toUInt64 >>> ((33 : Int32) &&& 0x3f).toInt64.toUInt64).toInt64)) := ⟨_, rfl⟩
    let A209 : Array Slot := #[.val (.long q0_0), .second, .val (.long q0_1), .second, .val (.long q0_2), .second, .val (.int p0_3), .val (.int p0_4), .val (.int p0_5), .val (.int x2), .val (.int x4), .val (.int (2 : Int32)), .val (.int x8), .val (.ref bx1_0_150), .val (.ref bx1_0_167), .val (.ref bx1_0_184), .val (.long x204), .second, .val (.long x208), .second, .unset, .unset, .unset, .unset]
    have G210 : ∀ t, Steps p.tables e below (T207.setTop (mkF m 121 A209 [(.int (lcmpW x204 x208))])) t → Steps p.tables e below (s₁.setTop (mkF m 38 A9 [])) t := by
      intro t k
      show Steps p.tables e below (s₁.setTop (mkF m 38 #[.val (.long q0_0), .second, .val (.long q0_1), .second, .val (.long q0_2), .second, .val (.int p0_3), .val (.int p0_4), .val (.int p0_5), .val (.int x2), .val (.int x4), .val (.int x6), .val (.int x8), .unset, .unset, .unset, .unset, .unset, .unset, .unset, .unset, .unset, .unset, .unset] [])) _
      rw [hc13]
      show Steps p.tables e below (s₁.setTop (mkF m 38 A149 [])) _
      show Steps p.tables e below (s₁.setTop (mkF m 38 A149 [])) _
      refine XS.lloadN X0.here hx rfl (hb hby at_38) rfl ?_
      show Steps p.tables e below (s₁.setTop (mkF m 39 A149 [(.long q0_1)])) _
      refine st150 _ ?_
      show Steps p.tables e below (T150.setTop (mkF m 42 A149 [(.ref bx1_0_150)])) _
      refine XS.astore X150.here hx rfl (hb hby at_42) rfl rfl (l' := A163) rfl ?_
      show Steps p.tables e below (T150.setTop (mkF m 44 A163 [])) _
      refine XS.aload X150.here hx rfl (hb hby at_44) rfl rfl ?_
      show Steps p.tables e below (T150.setTop (mkF m 46 A163 [(.ref bx1_0_150)])) _
      refine XS.iload X150.here hx rfl (hb hby at_46) rfl ?_
      show Steps p.tables e below (T150.setTop (mkF m 48 A163 [(.int x2), (.ref bx1_0_150)])) _
      refine XS.lloadN X150.here hx rfl (hb hby at_48) rfl ?_
      show Steps p.tables e below (T150.setTop (mkF m 49 A163 [(.long q0_0), (.int x2), (.ref bx1_0_150)])) _
      refine XS.iload X150.here hx rfl (hb hby at_49) rfl ?_
      show Steps p.tables e below (T150.setTop (mkF m 51 A163 [(.int (2 : Int32)), (.long q0_0), (.int x2), (.ref bx1_0_150)])) _
      refine st165 _ ?_
      show Steps p.tables e below (T165.setTop (mkF m 54 A163 [])) _
      refine XS.lload X165.here hx rfl (hb hby at_54) rfl ?_
      show Steps p.tables e below (T165.setTop (mkF m 56 A163 [(.long q0_2)])) _
      refine st167 _ ?_
      show Steps p.tables e below (T167.setTop (mkF m 59 A163 [(.ref bx1_0_167)])) _
      refine XS.astore X167.here hx rfl (hb hby at_59) rfl rfl (l' := A180) rfl ?_
      show Steps p.tables e below (T167.setTop (mkF m 61 A180 [])) _
      refine XS.aload X167.here hx rfl (hb hby at_61) rfl rfl ?_
      show Steps p.tables e below (T167.setTop (mkF m 63 A180 [(.ref bx1_0_167)])) _
      refine XS.iload X167.here hx rfl (hb hby at_63) rfl ?_
      show Steps p.tables e below (T167.setTop (mkF m 65 A180 [(.int x4), (.ref bx1_0_167)])) _
      refine XS.lloadN X167.here hx rfl (hb hby at_65) rfl ?_
      show Steps p.tables e below (T167.setTop (mkF m 66 A180 [(.long q0_0), (.int x4), (.ref bx1_0_167)])) _
      refine XS.iload X167.here hx rfl (hb hby at_66) rfl ?_
      show Steps p.tables e below (T167.setTop (mkF m 68 A180 [(.int (2 : Int32)), (.long q0_0), (.int x4), (.ref bx1_0_167)])) _
      refine st182 _ ?_
      show Steps p.tables e below (T182.setTop (mkF m 71 A180 [])) _
      refine XS.lload X182.here hx rfl (hb hby at_71) rfl ?_
      show Steps p.tables e below (T182.setTop (mkF m 73 A180 [(.long q0_2)])) _
      refine st184 _ ?_
      show Steps p.tables e below (T184.setTop (mkF m 76 A180 [(.ref bx1_0_184)])) _
      refine XS.astore X184.here hx rfl (hb hby at_76) rfl rfl (l' := A198) rfl ?_
      show Steps p.tables e below (T184.setTop (mkF m 78 A198 [])) _
      refine XS.aload X184.here hx rfl (hb hby at_78) rfl rfl ?_
      show Steps p.tables e below (T184.setTop (mkF m 80 A198 [(.ref bx1_0_184)])) _
      refine XS.iload X184.here hx rfl (hb hby at_80) rfl ?_
      show Steps p.tables e below (T184.setTop (mkF m 82 A198 [(.int x4), (.ref bx1_0_184)])) _
      refine XS.lloadN X184.here hx rfl (hb hby at_82) rfl ?_
      show Steps p.tables e below (T184.setTop (mkF m 83 A198 [(.long q0_0), (.int x4), (.ref bx1_0_184)])) _
      refine XS.iload X184.here hx rfl (hb hby at_83) rfl ?_
      show Steps p.tables e below (T184.setTop (mkF m 85 A198 [(.int (2 : Int32)), (.long q0_0), (.int x4), (.ref bx1_0_184)])) _
      refine st200 _ ?_
      show Steps p.tables e below (T200.setTop (mkF m 88 A198 [])) _
      refine XS.aload X200.here hx rfl (hb hby at_88) rfl rfl ?_
      show Steps p.tables e below (T200.setTop (mkF m 90 A198 [(.ref bx1_0_150)])) _
      refine XS.iload X200.here hx rfl (hb hby at_90) rfl ?_
      show Steps p.tables e below (T200.setTop (mkF m 92 A198 [(.int x2), (.ref bx1_0_150)])) _
      refine XS.iload X200.here hx rfl (hb hby at_92) rfl ?_
      show Steps p.tables e below (T200.setTop (mkF m 94 A198 [(.int x2), (.int x2), (.ref bx1_0_150)])) _
      refine XS.iload X200.here hx rfl (hb hby at_94) rfl ?_
      show Steps p.tables e below (T200.setTop (mkF m 96 A198 [(.int (2 : Int32)), (.int x2), (.int x2), (.ref bx1_0_150)])) _
      refine XS.iadd X200.here hx rfl (hb hby at_96) rfl ?_
      show Steps p.tables e below (T200.setTop (mkF m 97 A198 [(.int (x2 + (2 : Int32))), (.int x2), (.ref bx1_0_150)])) _
      refine st203 _ ?_
      show Steps p.tables e below (T203.setTop (mkF m 100 #[.val (.long q0_0), .second, .val (.long q0_1), .second, .val (.long q0_2), .second, .val (.int p0_3), .val (.int p0_4), .val (.int p0_5), .val (.int x2), .val (.int x4), .val (.int (2 : Int32)), .val (.int x8), .val (.ref bx1_0_150), .val (.ref bx1_0_167), .val (.ref bx1_0_184), .unset, .unset, .unset, .unset, .unset, .unset, .unset, .unset] [(.long ((((((((((-3750763034362895579 : Int64) ^^^ (((f166 x2) &&& (255 : Int32)).toInt64)) * (1099511628211 : Int64)) ^^^ (((f166 (x2 + (1 : Int32))) &&& (255 : Int32)).toInt64)) * (1099511628211 : Int64)) ^^^ (((((((-3750763034362895579 : Int64) ^^^ (((f166 x2) &&& (255 : Int32)).toInt64)) * (1099511628211 : Int64)) ^^^ (((f166 (x2 + (1 : Int32))) &&& (255 : Int32)).toInt64)) * (1099511628211 : Int64)).toUInt64 >>> ((33 : Int32) &&& 0x3f).toInt64.toUInt64).toInt64)) * (-49064778989728563 : Int64)) ^^^ (((((((((-3750763034362895579 : Int64) ^^^ (((f166 x2) &&& (255 : Int32)).toInt64)) * (1099511628211 : Int64)) ^^^ (((f166 (x2 + (1 : Int32))) &&& (255 : Int32)).toInt64)) * (1099511628211 : Int64)) ^^^ (((((((-3750763034362895579 : Int64) ^^^ (((f166 x2) &&& (255 : Int32)).toInt64)) * (1099511628211 : Int64)) ^^^ (((f166 (x2 + (1 : Int32))) &&& (255 : Int32)).toInt64)) * (1099511628211 : Int64)).toUInt64 >>> ((33 : Int32) &&& 0x3f).toInt64.toUInt64).toInt64)) * (-49064778989728563 : Int64)).toUInt64 >>> ((33 : Int32) &&& 0x3f).toInt64.toUInt64).toInt64)) * (-4265267296055464877 : Int64)) ^^^ (((((((((((-3750763034362895579 : Int64) ^^^ (((f166 x2) &&& (255 : Int32)).toInt64)) * (1099511628211 : Int64)) ^^^ (((f166 (x2 + (1 : Int32))) &&& (255 : Int32)).toInt64)) * (1099511628211 : Int64)) ^^^ (((((((-3750763034362895579 : Int64) ^^^ (((f166 x2) &&& (255 : Int32)).toInt64)) * (1099511628211 : Int64)) ^^^ (((f166 (x2 + (1 : Int32))) &&& (255 : Int32)).toInt64)) * (1099511628211 : Int64)).toUInt64 >>> ((33 : Int32) &&& 0x3f).toInt64.toUInt64).toInt64)) * (-49064778989728563 : Int64)) ^^^ (((((((((-3750763034362895579 : Int64) ^^^ (((f166 x2) &&& (255 : Int32)).toInt64)) * (1099511628211 : Int64)) ^^^ (((f166 (x2 + (1 : Int32))) &&& (255 : Int32)).toInt64)) * (1099511628211 : Int64)) ^^^ (((((((-3750763034362895579 : Int64) ^^^ (((f166 x2) &&& (255 : Int32)).toInt64)) * (1099511628211 : Int64)) ^^^ (((f166 (x2 + (1 : Int32))) &&& (255 : Int32)).toInt64)) * (1099511628211 : Int64)).toUInt64 >>> ((33 : Int32) &&& 0x3f).toInt64.toUInt64).toInt64)) * (-49064778989728563 : Int64)).toUInt64 >>> ((33 : Int32) &&& 0x3f).toInt64.toUInt64).toInt64)) * (-4265267296055464877 : Int64)).toUInt64 >>> ((33 : Int32) &&& 0x3f).toInt64.toUInt64).toInt64)))])) _
      rw [← hx204]
      show Steps p.tables e below (T203.setTop (mkF m 100 A198 [(.long x204)])) _
      refine XS.lstore X203.here hx rfl (hb hby at_100) rfl (l' := A205) rfl ?_
      show Steps p.tables e below (T203.setTop (mkF m 102 A205 [])) _
      refine XS.aload X203.here hx rfl (hb hby at_102) rfl rfl ?_
      show Steps p.tables e below (T203.setTop (mkF m 104 A205 [(.ref bx1_0_167)])) _
      refine XS.iload X203.here hx rfl (hb hby at_104) rfl ?_
      show Steps p.tables e below (T203.setTop (mkF m 106 A205 [(.int x4), (.ref bx1_0_167)])) _
      refine XS.iload X203.here hx rfl (hb hby at_106) rfl ?_
      show Steps p.tables e below (T203.setTop (mkF m 108 A205 [(.int x4), (.int x4), (.ref bx1_0_167)])) _
      refine XS.iload X203.here hx rfl (hb hby at_108) rfl ?_
      show Steps p.tables e below (T203.setTop (mkF m 110 A205 [(.int (2 : Int32)), (.int x4), (.int x4), (.ref bx1_0_167)])) _
      refine XS.iadd X203.here hx rfl (hb hby at_110) rfl ?_
      show Steps p.tables e below (T203.setTop (mkF m 111 A205 [(.int (x4 + (2 : Int32))), (.int x4), (.ref bx1_0_167)])) _
      refine st207 _ ?_
      show Steps p.tables e below (T207.setTop (mkF m 114 #[.val (.long q0_0), .second, .val (.long q0_1), .second, .val (.long q0_2), .second, .val (.int p0_3), .val (.int p0_4), .val (.int p0_5), .val (.int x2), .val (.int x4), .val (.int (2 : Int32)), .val (.int x8), .val (.ref bx1_0_150), .val (.ref bx1_0_167), .val (.ref bx1_0_184), .val (.long x204), .second, .unset, .unset, .unset, .unset, .unset, .unset] [(.long ((((((((((-3750763034362895579 : Int64) ^^^ (((f183 x4) &&& (255 : Int32)).toInt64)) * (1099511628211 : Int64)) ^^^ (((f183 (x4 + (1 : Int32))) &&& (255 : Int32)).toInt64)) * (1099511628211 : Int64)) ^^^ (((((((-3750763034362895579 : Int64) ^^^ (((f183 x4) &&& (255 : Int32)).toInt64)) * (1099511628211 : Int64)) ^^^ (((f183 (x4 + (1 : Int32))) &&& (255 : Int32)).toInt64)) * (1099511628211 : Int64)).toUInt64 >>> ((33 : Int32) &&& 0x3f).toInt64.toUInt64).toInt64)) * (-49064778989728563 : Int64)) ^^^ (((((((((-3750763034362895579 : Int64) ^^^ (((f183 x4) &&& (255 : Int32)).toInt64)) * (1099511628211 : Int64)) ^^^ (((f183 (x4 + (1 : Int32))) &&& (255 : Int32)).toInt64)) * (1099511628211 : Int64)) ^^^ (((((((-3750763034362895579 : Int64) ^^^ (((f183 x4) &&& (255 : Int32)).toInt64)) * (1099511628211 : Int64)) ^^^ (((f183 (x4 + (1 : Int32))) &&& (255 : Int32)).toInt64)) * (1099511628211 : Int64)).toUInt64 >>> ((33 : Int32) &&& 0x3f).toInt64.toUInt64).toInt64)) * (-49064778989728563 : Int64)).toUInt64 >>> ((33 : Int32) &&& 0x3f).toInt64.toUInt64).toInt64)) * (-4265267296055464877 : Int64)) ^^^ (((((((((((-3750763034362895579 : Int64) ^^^ (((f183 x4) &&& (255 : Int32)).toInt64)) * (1099511628211 : Int64)) ^^^ (((f183 (x4 + (1 : Int32))) &&& (255 : Int32)).toInt64)) * (1099511628211 : Int64)) ^^^ (((((((-3750763034362895579 : Int64) ^^^ (((f183 x4) &&& (255 : Int32)).toInt64)) * (1099511628211 : Int64)) ^^^ (((f183 (x4 + (1 : Int32))) &&& (255 : Int32)).toInt64)) * (1099511628211 : Int64)).toUInt64 >>> ((33 : Int32) &&& 0x3f).toInt64.toUInt64).toInt64)) * (-49064778989728563 : Int64)) ^^^ (((((((((-3750763034362895579 : Int64) ^^^ (((f183 x4) &&& (255 : Int32)).toInt64)) * (1099511628211 : Int64)) ^^^ (((f183 (x4 + (1 : Int32))) &&& (255 : Int32)).toInt64)) * (1099511628211 : Int64)) ^^^ (((((((-3750763034362895579 : Int64) ^^^ (((f183 x4) &&& (255 : Int32)).toInt64)) * (1099511628211 : Int64)) ^^^ (((f183 (x4 + (1 : Int32))) &&& (255 : Int32)).toInt64)) * (1099511628211 : Int64)).toUInt64 >>> ((33 : Int32) &&& 0x3f).toInt64.toUInt64).toInt64)) * (-49064778989728563 : Int64)).toUInt64 >>> ((33 : Int32) &&& 0x3f).toInt64.toUInt64).toInt64)) * (-4265267296055464877 : Int64)).toUInt64 >>> ((33 : Int32) &&& 0x3f).toInt64.toUInt64).toInt64)))])) _
      rw [← hx208]
      show Steps p.tables e below (T207.setTop (mkF m 114 A205 [(.long x208)])) _
      refine XS.lstore X207.here hx rfl (hb hby at_114) rfl (l' := A209) rfl ?_
      show Steps p.tables e below (T207.setTop (mkF m 116 A209 [])) _
      refine XS.lload X207.here hx rfl (hb hby at_116) rfl ?_
      show Steps p.tables e below (T207.setTop (mkF m 118 A209 [(.long x204)])) _
      refine XS.lload X207.here hx rfl (hb hby at_118) rfl ?_
      show Steps p.tables e below (T207.setTop (mkF m 120 A209 [(.long x208), (.long x204)])) _
      refine XS.lcmp X207.here hx rfl (hb hby at_120) rfl ?_
      exact k
    obtain ⟨v212, hv212⟩ : ∃ z : Int32, z = (if x204 = x208 then (1 : Int32) else (0 : Int32)) := ⟨_, rfl⟩
    obtain ⟨T213, Lo213, X213, N213, e213, G213⟩ := own_join X207 N207 (h := T200.heap) (mkF m 121 A209 [(.int (lcmpW x204 x208))]) (mkF m 129 A209 [(.int v212)]) (by
      by_cases h121_211 : x204 = x208
      · refine ⟨T207, _, X207, N207, e207, fun t k => ?_⟩
        rw [show v212 = (1 : Int32) from hv212.trans (if_pos h121_211)] at k
        show Steps p.tables e below (T207.setTop (mkF m 121 A209 [(.int (lcmpW x204 x208))])) _
        refine XS.ifNo X207.here hx rfl (hb hby at_121) rfl ((if0 _ _).trans (teq ((lw_eq _ _).mpr h121_211)).2) ?_
        show Steps p.tables e below (T207.setTop (mkF m 124 A209 [])) _
        refine XS.iconst X207.here hx rfl (hb hby at_124) ?_
        show Steps p.tables e below (T207.setTop (mkF m 125 A209 [(.int (1 : Int32))])) _
        refine XS.goto X207.here hx rfl (pc0 := 125) (pc' := 129) rfl (hb hby at_125) (by decide) (by decide) ?_
        exact k
      · refine ⟨T207, _, X207, N207, e207, fun t k => ?_⟩
        rw [show v212 = (0 : Int32) from hv212.trans (if_neg h121_211)] at k
        show Steps p.tables e below (T207.setTop (mkF m 121 A209 [(.int (lcmpW x204 x208))])) _
        refine XS.ifYes X207.here hx rfl (pc0 := 121) (pc' := 128) rfl (hb hby at_121) rfl ((if0 _ _).trans (feq (fun q => h121_211 ((lw_eq _ _).mp q))).2) (by decide) (by decide) ?_
        show Steps p.tables e below (T207.setTop (mkF m 128 A209 [])) _
        refine XS.iconst X207.here hx rfl (hb hby at_128) ?_
        exact k)
    let A214 : Array Slot := #[.val (.long q0_0), .second, .val (.long q0_1), .second, .val (.long q0_2), .second, .val (.int p0_3), .val (.int p0_4), .val (.int p0_5), .val (.int x2), .val (.int x4), .val (.int (2 : Int32)), .val (.int x8), .val (.ref bx1_0_150), .val (.ref bx1_0_167), .val (.ref bx1_0_184), .val (.long x204), .second, .val (.long x208), .second, .val (.int v212), .unset, .unset, .unset]
    obtain ⟨x215, hx215⟩ : ∃ z : Int32, z = ((x4 + (2 : Int32)) - (1 : Int32)) := ⟨_, rfl⟩
    let A216 : Array Slot := #[.val (.long q0_0), .second, .val (.long q0_1), .second, .val (.long q0_2), .second, .val (.int p0_3), .val (.int p0_4), .val (.int p0_5), .val (.int x2), .val (.int x4), .val (.int (2 : Int32)), .val (.int x8), .val (.ref bx1_0_150), .val (.ref bx1_0_167), .val (.ref bx1_0_184), .val (.long x204), .second, .val (.long x208), .second, .val (.int v212), .val (.int x215), .unset, .unset]
    obtain ⟨cl217, Ar217, Sz217, Hh217⟩ := id P200_0
    obtain ⟨cl218, Ar218, Sz218, Hh218⟩ := id P200_0
    obtain ⟨T219, h219, X219, e219, W219, st219⟩ := stB X213 hx hZ e213 Ar218 (j := x215) (inb_of Sz218 (hx215 ▸ (own_last (hx4 ▸ own_m7 ((p0_3.toUInt32 >>> ((3 : Int32) &&& 31).toUInt32).toInt32)) (c := (2 : Int32)) (d := (1 : Int32)) (by decide) (by decide)))) (g := (mkF m 161 A216 [(.int (((f201 x215) ^^^ x8).toInt8.toInt32)), (.int x215), (.ref bx1_0_184)])) rfl rfl (hb hby at_161)
    have B219 := Bya.set Ar218 Sz218 Hh218 (hx215 ▸ (own_last (hx4 ▸ own_m7 ((p0_3.toUInt32 >>> ((3 : Int32) &&& 31).toUInt32).toInt32)) (c := (2 : Int32)) (d := (1 : Int32)) (by decide) (by decide))) W219
    obtain ⟨f220, hf220⟩ : ∃ g : Int32 → Int32, g = (fun i => if i = x215 then (nar .byte (((f201 x215) ^^^ x8).toInt8.toInt32)) else f201 i) := ⟨_, rfl⟩
    rw [← hf220] at B219
    have K219 : Keep h0 h219 [] := K200.wr W219 (Or.inr sz_bx1_0_184)
    have Z219 : n0 ≤ h219.size := Nat.le_trans Z0 K219.1
    have N219 := Fr.snoc X219 N213 g_bx1_0_184
    obtain ⟨_, _, ⟨T221, L221, k221, n221⟩, -, X221, ⟨Lc221, hQ221, l221, y221, z221⟩, st221⟩ := Jvm.LawKit.callS X219 hx (y := (⟨"com/example/mortise/mortise/join/Record", "keyHash", "([BII)J"⟩ : MethodName)) hown (mvT hZ (ow9 hw)) (mvT hZ (ow10 hw)) (mvT hZ (ow11 hw)) (mvT hZ (ow12 hw)) (by decide) (backOf (W := 0) (rm3_l2 l Z a0 hw [] bx1_0_184 x4 f220 h219 n0 Z219 (hx4 ▸ own_m7 ((p0_3.toUInt32 >>> ((3 : Int32) &&& 31).toUInt32).toInt32)) B219) hZ (ow12 hw) (ow11 hw) (by decide) (by decide)) (g := (mkF m 171 A216 [(.int (x4 + (2 : Int32))), (.int x4), (.ref bx1_0_184)])) rfl (by rw [hml]; rfl) (argsL := [(.ref bx1_0_184), (.int x4), (.int (x4 + (2 : Int32)))]) (rest := []) (lenOf pd___BII_J rfl) rfl (by show 2 * 0 + _ ≤ _; exact Nat.le_of_eq rfl) (hb hby at_171) (fun _ _ => ⟨rfl, e219, (by decide : 3 + 0 ≤ _), (by decide : 36 + 0 ≤ _)⟩)
    dsimp only [Pt.U, Pt.locs, Pt.cells, Pt.slots] at X221 l221 y221 z221 st221 hQ221
    subst l221 y221 z221
    obtain ⟨rfl, Nq221, e221⟩ := hQ221
    have N221 := Fr.app N219 Nq221
    obtain ⟨x222, hx222⟩ : ∃ z : Int64, z = ((((((((((-3750763034362895579 : Int64) ^^^ (((f220 x4) &&& (255 : Int32)).toInt64)) * (1099511628211 : Int64)) ^^^ (((f220 (x4 + (1 : Int32))) &&& (255 : Int32)).toInt64)) * (1099511628211 : Int64)) ^^^ (((((((-3750763034362895579 : Int64) ^^^ (((f220 x4) &&& (255 : Int32)).toInt64)) * (1099511628211 : Int64)) ^^^ (((f220 (x4 + (1 : Int32))) &&& (255 : Int32)).toInt64)) * (1099511628211 : Int64)).toUInt64 >>> ((33 : Int32) &&& 0x3f).toInt64.toUInt64).toInt64)) * (-49064778989728563 : Int64)) ^^^ (((((((((-3750763034362895579 : Int64) ^^^ (((f220 x4) &&& (255 : Int32)).toInt64)) * (1099511628211 : Int64)) ^^^ (((f220 (x4 + (1 : Int32))) &&& (255 : Int32)).toInt64)) * (1099511628211 : Int64)) ^^^ (((((((-3750763034362895579 : Int64) ^^^ (((f220 x4) &&& (255 : Int32)).toInt64)) * (1099511628211 : Int64)) ^^^ (((f220 (x4 + (1 : Int32))) &&& (255 : Int32)).toInt64)) * (1099511628211 : Int64)).toUInt64 >>> ((33 : Int32) &&& 0x3f).toInt64.toUInt64).toInt64)) * (-49064778989728563 : Int64)).toUInt64 >>> ((33 : Int32) &&& 0x3f).toInt64.toUInt64).toInt64)) * (-4265267296055464877 : Int64)) ^^^ (((((((((((-3750763034362895579 : Int64) ^^^ (((f220 x4) &&& (255 : Int32)).toInt64)) * (1099511628211 : Int64)) ^^^ (((f220 (x4 + (1 : Int32))) &&& (255 : Int32)).toInt64)) * (1099511628211 : Int64)) ^^^ (((((((-3750763034362895579 : Int64) ^^^ (((f220 x4) &&& (255 : Int32)).toInt64)) * (1099511628211 : Int64)) ^^^ (((f220 (x4 + (1 : Int32))) &&& (255 : Int32)).toInt64)) * (1099511628211 : Int64)).toUInt64 >>> ((33 : Int32) &&& 0x3f).toInt64.toUInt64).toInt64)) * (-49064778989728563 : Int64)) ^^^ (((((((((-3750763034362895579 : Int64) ^^^ (((f220 x4) &&& (255 : Int32)).toInt64)) * (1099511628211 : Int64)) ^^^ (((f220 (x4 + (1 : Int32))) &&& (255 : Int32)).toInt64)) * (1099511628211 : Int64)) ^^^ (((((((-3750763034362895579 : Int64) ^^^ (((f220 x4) &&& (255 : Int32)).toInt64)) * (1099511628211 : Int64)) ^^^ (((f220 (x4 + (1 : Int32))) &&& (255 : Int32)).toInt64)) * (1099511628211 : Int64)).toUInt64 >>> ((33 : Int32) &&& 0x3f).toInt64.toUInt64).toInt64)) * (-49064778989728563 : Int64)).toUInt64 >>> ((33 : Int32) &&& 0x3f).toInt64.toUInt64).toInt64)) * (-4265267296055464877 : Int64)).toUInt64 >>> ((33 : Int32) &&& 0x3f).toInt64.toUInt64).toInt64)) := ⟨_, rfl⟩
    let A223 : Array Slot := #[.val (.long q0_0), .second, .val (.long q0_1), .second, .val (.long q0_2), .second, .val (.int p0_3), .val (.int p0_4), .val (.int p0_5), .val (.int x2), .val (.int x4), .val (.int (2 : Int32)), .val (.int x8), .val (.ref bx1_0_150), .val (.ref bx1_0_167), .val (.ref bx1_0_184), .val (.long x204), .second, .val (.long x208), .second, .val (.int v212), .val (.int x215), .val (.long x222), .second]
    have G224 : ∀ t, Steps p.tables e below (T221.setTop (mkF m 178 A223 [(.int v212)])) t → Steps p.tables e below (T213.setTop (mkF m 129 A209 [(.int v212)])) t := by
      intro t k
      show Steps p.tables e below (T213.setTop (mkF m 129 A209 [(.int v212)])) _
      refine XS.istore X213.here hx rfl (hb hby at_129) rfl (l' := A214) rfl ?_
      show Steps p.tables e below (T213.setTop (mkF m 131 A214 [])) _
      refine XS.iload X213.here hx rfl (hb hby at_131) rfl ?_
      show Steps p.tables e below (T213.setTop (mkF m 133 A214 [(.int (2 : Int32))])) _
      refine XS.ifYes X213.here hx rfl (pc0 := 133) (pc' := 139) rfl (hb hby at_133) rfl ((if0 _ _).trans (feq (by decide : ¬ ((2 : Int32) = (0 : Int32)))).2) (by decide) (by decide) ?_
      show Steps p.tables e below (T213.setTop (mkF m 139 A214 [])) _
      refine XS.iload X213.here hx rfl (hb hby at_139) rfl ?_
      show Steps p.tables e below (T213.setTop (mkF m 141 A214 [(.int x4)])) _
      refine XS.iload X213.here hx rfl (hb hby at_141) rfl ?_
      show Steps p.tables e below (T213.setTop (mkF m 143 A214 [(.int (2 : Int32)), (.int x4)])) _
      refine XS.iadd X213.here hx rfl (hb hby at_143) rfl ?_
      show Steps p.tables e below (T213.setTop (mkF m 144 A214 [(.int (x4 + (2 : Int32)))])) _
      refine XS.iconst X213.here hx rfl (hb hby at_144) ?_
      show Steps p.tables e below (T213.setTop (mkF m 145 A214 [(.int (1 : Int32)), (.int (x4 + (2 : Int32)))])) _
      refine XS.isub X213.here hx rfl (hb hby at_145) rfl ?_
      show Steps p.tables e below (T213.setTop (mkF m 146 A214 [(.int ((x4 + (2 : Int32)) - (1 : Int32)))])) _
      refine XS.istore X213.here hx rfl (hb hby at_146) rfl (l' := #[.val (.long q0_0), .second, .val (.long q0_1), .second, .val (.long q0_2), .second, .val (.int p0_3), .val (.int p0_4), .val (.int p0_5), .val (.int x2), .val (.int x4), .val (.int (2 : Int32)), .val (.int x8), .val (.ref bx1_0_150), .val (.ref bx1_0_167), .val (.ref bx1_0_184), .val (.long x204), .second, .val (.long x208), .second, .val (.int v212), .val (.int ((x4 + (2 : Int32)) - (1 : Int32))), .unset, .unset]) rfl ?_
      show Steps p.tables e below (T213.setTop (mkF m 148 #[.val (.long q0_0), .second, .val (.long q0_1), .second, .val (.long q0_2), .second, .val (.int p0_3), .val (.int p0_4), .val (.int p0_5), .val (.int x2), .val (.int x4), .val (.int (2 : Int32)), .val (.int x8), .val (.ref bx1_0_150), .val (.ref bx1_0_167), .val (.ref bx1_0_184), .val (.long x204), .second, .val (.long x208), .second, .val (.int v212), .val (.int ((x4 + (2 : Int32)) - (1 : Int32))), .unset, .unset] [])) _
      rw [← hx215]
      show Steps p.tables e below (T213.setTop (mkF m 148 A216 [])) _
      refine XS.aload X213.here hx rfl (hb hby at_148) rfl rfl ?_
      show Steps p.tables e below (T213.setTop (mkF m 150 A216 [(.ref bx1_0_184)])) _
      refine XS.iload X213.here hx rfl (hb hby at_150) rfl ?_
      show Steps p.tables e below (T213.setTop (mkF m 152 A216 [(.int x215), (.ref bx1_0_184)])) _
      refine XS.aload X213.here hx rfl (hb hby at_152) rfl rfl ?_
      show Steps p.tables e below (T213.setTop (mkF m 154 A216 [(.ref bx1_0_184), (.int x215), (.ref bx1_0_184)])) _
      refine XS.iload X213.here hx rfl (hb hby at_154) rfl ?_
      show Steps p.tables e below (T213.setTop (mkF m 156 A216 [(.int x215), (.ref bx1_0_184), (.int x215), (.ref bx1_0_184)])) _
      refine X213.baloadBytes hx (j := x215) (v := (.int (f201 x215))) (by rw [e213]; exact Ar217.1) (State.isArrayOf_alike hZ.alike Ar217.2.1) Ar217.2.2 (inb_of Sz217 (hx215 ▸ (own_last (hx4 ▸ own_m7 ((p0_3.toUInt32 >>> ((3 : Int32) &&& 31).toUInt32).toInt32)) (c := (2 : Int32)) (d := (1 : Int32)) (by decide) (by decide)))) (Hh217 _ (hx215 ▸ (own_last (hx4 ▸ own_m7 ((p0_3.toUInt32 >>> ((3 : Int32) &&& 31).toUInt32).toInt32)) (c := (2 : Int32)) (d := (1 : Int32)) (by decide) (by decide))).1 (hx215 ▸ (own_last (hx4 ▸ own_m7 ((p0_3.toUInt32 >>> ((3 : Int32) &&& 31).toUInt32).toInt32)) (c := (2 : Int32)) (d := (1 : Int32)) (by decide) (by decide))).2) (g := (mkF m 156 A216 [(.int x215), (.ref bx1_0_184), (.int x215), (.ref bx1_0_184)])) rfl rfl (hb hby at_156) _ ?_
      show Steps p.tables e below (T213.setTop (mkF m 157 A216 [(.int (f201 x215)), (.int x215), (.ref bx1_0_184)])) _
      refine XS.iload X213.here hx rfl (hb hby at_157) rfl ?_
      show Steps p.tables e below (T213.setTop (mkF m 159 A216 [(.int x8), (.int (f201 x215)), (.int x215), (.ref bx1_0_184)])) _
      refine XS.ixor X213.here hx rfl (hb hby at_159) rfl ?_
      show Steps p.tables e below (T213.setTop (mkF m 160 A216 [(.int ((f201 x215) ^^^ x8)), (.int x215), (.ref bx1_0_184)])) _
      refine XS.i2b X213.here hx rfl (hb hby at_160) rfl ?_
      show Steps p.tables e below (T213.setTop (mkF m 161 A216 [(.int (((f201 x215) ^^^ x8).toInt8.toInt32)), (.int x215), (.ref bx1_0_184)])) _
      refine st219 _ ?_
      show Steps p.tables e below (T219.setTop (mkF m 162 A216 [])) _
      refine XS.aload X219.here hx rfl (hb hby at_162) rfl rfl ?_
      show Steps p.tables e below (T219.setTop (mkF m 164 A216 [(.ref bx1_0_184)])) _
      refine XS.iload X219.here hx rfl (hb hby at_164) rfl ?_
      show Steps p.tables e below (T219.setTop (mkF m 166 A216 [(.int x4), (.ref bx1_0_184)])) _
      refine XS.iload X219.here hx rfl (hb hby at_166) rfl ?_
      show Steps p.tables e below (T219.setTop (mkF m 168 A216 [(.int x4), (.int x4), (.ref bx1_0_184)])) _
      refine XS.iload X219.here hx rfl (hb hby at_168) rfl ?_
      show Steps p.tables e below (T219.setTop (mkF m 170 A216 [(.int (2 : Int32)), (.int x4), (.int x4), (.ref bx1_0_184)])) _
      refine XS.iadd X219.here hx rfl (hb hby at_170) rfl ?_
      show Steps p.tables e below (T219.setTop (mkF m 171 A216 [(.int (x4 + (2 : Int32))), (.int x4), (.ref bx1_0_184)])) _
      refine st221 _ ?_
      show Steps p.tables e below (T221.setTop (mkF m 174 #[.val (.long q0_0), .second, .val (.long q0_1), .second, .val (.long q0_2), .second, .val (.int p0_3), .val (.int p0_4), .val (.int p0_5), .val (.int x2), .val (.int x4), .val (.int (2 : Int32)), .val (.int x8), .val (.ref bx1_0_150), .val (.ref bx1_0_167), .val (.ref bx1_0_184), .val (.long x204), .second, .val (.long x208), .second, .val (.int v212), .val (.int x215), .unset, .unset] [(.long ((((((((((-3750763034362895579 : Int64) ^^^ (((f220 x4) &&& (255 : Int32)).toInt64)) * (1099511628211 : Int64)) ^^^ (((f220 (x4 + (1 : Int32))) &&& (255 : Int32)).toInt64)) * (1099511628211 : Int64)) ^^^ (((((((-3750763034362895579 : Int64) ^^^ (((f220 x4) &&& (255 : Int32)).toInt64)) * (1099511628211 : Int64)) ^^^ (((f220 (x4 + (1 : Int32))) &&& (255 : Int32)).toInt64)) * (1099511628211 : Int64)).toUInt64 >>> ((33 : Int32) &&& 0x3f).toInt64.toUInt64).toInt64)) * (-49064778989728563 : Int64)) ^^^ (((((((((-3750763034362895579 : Int64) ^^^ (((f220 x4) &&& (255 : Int32)).toInt64)) * (1099511628211 : Int64)) ^^^ (((f220 (x4 + (1 : Int32))) &&& (255 : Int32)).toInt64)) * (1099511628211 : Int64)) ^^^ (((((((-3750763034362895579 : Int64) ^^^ (((f220 x4) &&& (255 : Int32)).toInt64)) * (1099511628211 : Int64)) ^^^ (((f220 (x4 + (1 : Int32))) &&& (255 : Int32)).toInt64)) * (1099511628211 : Int64)).toUInt64 >>> ((33 : Int32) &&& 0x3f).toInt64.toUInt64).toInt64)) * (-49064778989728563 : Int64)).toUInt64 >>> ((33 : Int32) &&& 0x3f).toInt64.toUInt64).toInt64)) * (-4265267296055464877 : Int64)) ^^^ (((((((((((-3750763034362895579 : Int64) ^^^ (((f220 x4) &&& (255 : Int32)).toInt64)) * (1099511628211 : Int64)) ^^^ (((f220 (x4 + (1 : Int32))) &&& (255 : Int32)).toInt64)) * (1099511628211 : Int64)) ^^^ (((((((-3750763034362895579 : Int64) ^^^ (((f220 x4) &&& (255 : Int32)).toInt64)) * (1099511628211 : Int64)) ^^^ (((f220 (x4 + (1 : Int32))) &&& (255 : Int32)).toInt64)) * (1099511628211 : Int64)).toUInt64 >>> ((33 : Int32) &&& 0x3f).toInt64.toUInt64).toInt64)) * (-49064778989728563 : Int64)) ^^^ (((((((((-3750763034362895579 : Int64) ^^^ (((f220 x4) &&& (255 : Int32)).toInt64)) * (1099511628211 : Int64)) ^^^ (((f220 (x4 + (1 : Int32))) &&& (255 : Int32)).toInt64)) * (1099511628211 : Int64)) ^^^ (((((((-3750763034362895579 : Int64) ^^^ (((f220 x4) &&& (255 : Int32)).toInt64)) * (1099511628211 : Int64)) ^^^ (((f220 (x4 + (1 : Int32))) &&& (255 : Int32)).toInt64)) * (1099511628211 : Int64)).toUInt64 >>> ((33 : Int32) &&& 0x3f).toInt64.toUInt64).toInt64)) * (-49064778989728563 : Int64)).toUInt64 >>> ((33 : Int32) &&& 0x3f).toInt64.toUInt64).toInt64)) * (-4265267296055464877 : Int64)).toUInt64 >>> ((33 : Int32) &&& 0x3f).toInt64.toUInt64).toInt64)))])) _
      rw [← hx222]
      show Steps p.tables e below (T221.setTop (mkF m 174 A216 [(.long x222)])) _
      refine XS.lstore X221.here hx rfl (hb hby at_174) rfl (l' := A223) rfl ?_
      show Steps p.tables e below (T221.setTop (mkF m 176 A223 [])) _
      refine XS.iload X221.here hx rfl (hb hby at_176) rfl ?_
      exact k
    obtain ⟨v228, hv228⟩ : ∃ z : Int32, z = (if v212 = (0 : Int32) then (0 : Int32) else (if x222 = x208 then (0 : Int32) else (1 : Int32))) := ⟨_, rfl⟩
    obtain ⟨T229, Lo229, X229, N229, e229, G229⟩ := own_join X221 N221 (h := h219) (mkF m 178 A223 [(.int v212)]) (mkF m 194 A223 [(.int v228)]) (by
      by_cases h178_225 : v212 = (0 : Int32)
      · refine ⟨T221, _, X221, N221, e221, fun t k => ?_⟩
        rw [show v228 = (0 : Int32) from hv228.trans (if_pos h178_225)] at k
        show Steps p.tables e below (T221.setTop (mkF m 178 A223 [(.int v212)])) _
        refine XS.ifYes X221.here hx rfl (pc0 := 178) (pc' := 193) rfl (hb hby at_178) rfl ((if0 _ _).trans (teq h178_225).1) (by decide) (by decide) ?_
        show Steps p.tables e below (T221.setTop (mkF m 193 A223 [])) _
        refine XS.iconst X221.here hx rfl (hb hby at_193) ?_
        exact k
      · have G226 : ∀ t, Steps p.tables e below (T221.setTop (mkF m 186 A223 [(.int (lcmpW x222 x208))])) t → Steps p.tables e below (T221.setTop (mkF m 178 A223 [(.int v212)])) t := by
          intro t k
          show Steps p.tables e below (T221.setTop (mkF m 178 A223 [(.int v212)])) _
          refine XS.ifNo X221.here hx rfl (hb hby at_178) rfl ((if0 _ _).trans (feq h178_225).1) ?_
          show Steps p.tables e below (T221.setTop (mkF m 181 A223 [])) _
          refine XS.lload X221.here hx rfl (hb hby at_181) rfl ?_
          show Steps p.tables e below (T221.setTop (mkF m 183 A223 [(.long x222)])) _
          refine XS.lload X221.here hx rfl (hb hby at_183) rfl ?_
          show Steps p.tables e below (T221.setTop (mkF m 185 A223 [(.long x208), (.long x222)])) _
          refine XS.lcmp X221.here hx rfl (hb hby at_185) rfl ?_
          exact k
        by_cases h186_227 : x222 = x208
        · refine ⟨T221, _, X221, N221, e221, fun t k => ?_⟩
          rw [show v228 = (0 : Int32) from hv228.trans ((if_neg h178_225).trans (if_pos h186_227))] at k
          refine G226 _ ?_
          show Steps p.tables e below (T221.setTop (mkF m 186 A223 [(.int (lcmpW x222 x208))])) _
          refine XS.ifYes X221.here hx rfl (pc0 := 186) (pc' := 193) rfl (hb hby at_186) rfl ((if0 _ _).trans (teq ((lw_eq _ _).mpr h186_227)).1) (by decide) (by decide) ?_
          show Steps p.tables e below (T221.setTop (mkF m 193 A223 [])) _
          refine XS.iconst X221.here hx rfl (hb hby at_193) ?_
          exact k
        · refine ⟨T221, _, X221, N221, e221, fun t k => ?_⟩
          rw [show v228 = (1 : Int32) from hv228.trans ((if_neg h178_225).trans (if_neg h186_227))] at k
          refine G226 _ ?_
          show Steps p.tables e below (T221.setTop (mkF m 186 A223 [(.int (lcmpW x222 x208))])) _
          refine XS.ifNo X221.here hx rfl (hb hby at_186) rfl ((if0 _ _).trans (feq (fun q => h186_227 ((lw_eq _ _).mp q))).1) ?_
          show Steps p.tables e below (T221.setTop (mkF m 189 A223 [])) _
          refine XS.iconst X221.here hx rfl (hb hby at_189) ?_
          show Steps p.tables e below (T221.setTop (mkF m 190 A223 [(.int (1 : Int32))])) _
          refine XS.goto X221.here hx rfl (pc0 := 190) (pc' := 194) rfl (hb hby at_190) (by decide) (by decide) ?_
          exact k)
    have fin : v228 = (1 : Int32) := by
      exact own_fin2 q0_0 q0_1 q0_2 p0_3 p0_4 p0_5 x2 hx2 x4 hx4 x6 hx6 x8 hx8 y151 hy151 y152 hy152 y153 hy153 y154 hy154 y155 hy155 y156 hy156 y157 hy157 y158 hy158 y159 hy159 y160 hy160 y161 hy161 y162 hy162 f164 hf164 f166 hf166 y168 hy168 y169 hy169 y170 hy170 y171 hy171 y172 hy172 y173 hy173 y174 hy174 y175 hy175 y176 hy176 y177 hy177 y178 hy178 y179 hy179 f181 hf181 f183 hf183 y186 hy186 y187 hy187 y188 hy188 y189 hy189 y190 hy190 y191 hy191 y192 hy192 y193 hy193 y194 hy194 y195 hy195 y196 hy196 y197 hy197 f199 hf199 f201 hf201 x204 hx204 x208 hx208 v212 hv212 x215 hx215 f220 hf220 x222 hx222 v228 hv228 hc13
    obtain ⟨fs, hr, hrun, hended, hW, hsame⟩ := X229.leave (v := some (.int (1 : Int32))) (fun h => by rw [Bd.returns] at h; cases h)
    refine ⟨_, _, pre0 _ ?_, hrun, hended, _, _, rfl, ?_, ⟨_, rfl⟩, hW, hsame.mono (by decide) (by decide)⟩
    · refine G10 _ ?_
      refine G210 _ ?_
      refine G213 _ ?_
      refine G224 _ ?_
      refine G229 _ ?_
      show Steps p.tables e below (T229.setTop (mkF m 194 A223 [(.int v228)])) _
      rw [fin]
      exact retN X229 hx (t := .boolean) Bd.returns (by simp) (hb hby at_194) hr
    · exact ⟨rfl, N229⟩
  · let A230 : Array Slot := #[.val (.long q0_0), .second, .val (.long q0_1), .second, .val (.long q0_2), .second, .val (.int p0_3), .val (.int p0_4), .val (.int p0_5), .val (.int x2), .val (.int x4), .val (.int (3 : Int32)), .val (.int x8), .unset, .unset, .unset, .unset, .unset, .unset, .unset, .unset, .unset, .unset, .unset]
    have own_t14 : True := trivial
    obtain ⟨_, _, ⟨T231, L231, k231, n231⟩, -, X231, ⟨Lc231, hQ231, l231, y231, z231⟩, st231⟩ := Jvm.LawKit.callS X0 hx (y := (⟨"com/example/mortise/mortise/join/RecordKeyHashPinLaw", "fill", "(J)[B"⟩ : MethodName)) hown (mvT hZ (ow1 hw)) (mvT hZ (ow2 hw)) (mvT hZ (ow3 hw)) (mvT hZ (ow4 hw)) (by decide) (backOf (W := 0) (rm1 l Z a0 hw [] q0_1 h0 n0 Z0 ) hZ (ow4 hw) (ow3 hw) (by decide) (by decide)) (g := (mkF m 39 A230 [(.long q0_1)])) rfl (by rw [hml]; rfl) (argsL := [(.long q0_1)]) (rest := []) (lenOf pd__J__B rfl) rfl (by show 2 * 0 + _ ≤ _; exact Nat.le_of_eq rfl) (hb hby at_39) (fun _ _ => ⟨rfl, e0, (by decide : 0 + 1 ≤ _), (by decide : 0 + 12 ≤ _)⟩)
    dsimp only [Pt.U, Pt.locs, Pt.cells, Pt.slots] at X231 l231 y231 z231 st231 hQ231
    subst l231 y231 z231
    obtain ⟨bx1_0_231, kx1_0_231, rfl, Nq231, Kc231, P231_0, P231_1⟩ := hQ231
    have K231 : Keep h0 T231.heap [] := Keep.trans (Keep.refl h0 []) Kc231 all0
    have Z231 : n0 ≤ T231.heap.size := Nat.le_trans Z0 K231.1
    have g_bx1_0_231 : n0 ≤ bx1_0_231 := Nat.le_trans Z0 P231_0
    have sz_bx1_0_231 : h0.size ≤ bx1_0_231 := Nat.le_trans (Nat.le_refl _) P231_0
    obtain ⟨y232, hy232⟩ : ∃ z : Int32, z = (nar .byte ((q0_1.toInt32).toInt8.toInt32)) := ⟨_, rfl⟩
    rw [← hy232] at P231_1
    obtain ⟨y233, hy233⟩ : ∃ z : Int32, z = (nar .byte ((((q0_1.toUInt64 >>> ((8 : Int32) &&& 0x3f).toInt64.toUInt64).toInt64).toInt32).toInt8.toInt32)) := ⟨_, rfl⟩
    rw [← hy233] at P231_1
    obtain ⟨y234, hy234⟩ : ∃ z : Int32, z = (nar .byte ((((q0_1.toUInt64 >>> ((16 : Int32) &&& 0x3f).toInt64.toUInt64).toInt64).toInt32).toInt8.toInt32)) := ⟨_, rfl⟩
    rw [← hy234] at P231_1
    obtain ⟨y235, hy235⟩ : ∃ z : Int32, z = (nar .byte ((((q0_1.toUInt64 >>> ((24 : Int32) &&& 0x3f).toInt64.toUInt64).toInt64).toInt32).toInt8.toInt32)) := ⟨_, rfl⟩
    rw [← hy235] at P231_1
    obtain ⟨y236, hy236⟩ : ∃ z : Int32, z = (nar .byte ((((q0_1.toUInt64 >>> ((32 : Int32) &&& 0x3f).toInt64.toUInt64).toInt64).toInt32).toInt8.toInt32)) := ⟨_, rfl⟩
    rw [← hy236] at P231_1
    obtain ⟨y237, hy237⟩ : ∃ z : Int32, z = (nar .byte ((((q0_1.toUInt64 >>> ((40 : Int32) &&& 0x3f).toInt64.toUInt64).toInt64).toInt32).toInt8.toInt32)) := ⟨_, rfl⟩
    rw [← hy237] at P231_1
    obtain ⟨y238, hy238⟩ : ∃ z : Int32, z = (nar .byte ((((q0_1.toUInt64 >>> ((48 : Int32) &&& 0x3f).toInt64.toUInt64).toInt64).toInt32).toInt8.toInt32)) := ⟨_, rfl⟩
    rw [← hy238] at P231_1
    obtain ⟨y239, hy239⟩ : ∃ z : Int32, z = (nar .byte ((((q0_1.toUInt64 >>> ((56 : Int32) &&& 0x3f).toInt64.toUInt64).toInt64).toInt32).toInt8.toInt32)) := ⟨_, rfl⟩
    rw [← hy239] at P231_1
    obtain ⟨y240, hy240⟩ : ∃ z : Int32, z = (nar .byte ((((q0_1.toUInt64 >>> ((4 : Int32) &&& 0x3f).toInt64.toUInt64).toInt64).toInt32).toInt8.toInt32)) := ⟨_, rfl⟩
    rw [← hy240] at P231_1
    obtain ⟨y241, hy241⟩ : ∃ z : Int32, z = (nar .byte ((((q0_1.toUInt64 >>> ((12 : Int32) &&& 0x3f).toInt64.toUInt64).toInt64).toInt32).toInt8.toInt32)) := ⟨_, rfl⟩
    rw [← hy241] at P231_1
    obtain ⟨y242, hy242⟩ : ∃ z : Int32, z = (nar .byte ((((q0_1.toUInt64 >>> ((20 : Int32) &&& 0x3f).toInt64.toUInt64).toInt64).toInt32).toInt8.toInt32)) := ⟨_, rfl⟩
    rw [← hy242] at P231_1
    obtain ⟨y243, hy243⟩ : ∃ z : Int32, z = (nar .byte ((((q0_1.toUInt64 >>> ((28 : Int32) &&& 0x3f).toInt64.toUInt64).toInt64).toInt32).toInt8.toInt32)) := ⟨_, rfl⟩
    rw [← hy243] at P231_1
    have N231 := Fr.app N0 Nq231
    let A244 : Array Slot := #[.val (.long q0_0), .second, .val (.long q0_1), .second, .val (.long q0_2), .second, .val (.int p0_3), .val (.int p0_4), .val (.int p0_5), .val (.int x2), .val (.int x4), .val (.int (3 : Int32)), .val (.int x8), .val (.ref bx1_0_231), .unset, .unset, .unset, .unset, .unset, .unset, .unset, .unset, .unset, .unset]
    have Bf245 := Bya.of_arv (es := [y232, y233, y234, y235, y236, y237, y238, y239, y240, y241, y242, y243]) P231_1 rfl
    obtain ⟨f245, hf245⟩ : ∃ g : Int32 → Int32, g = (fun i => ([y232, y233, y234, y235, y236, y237, y238, y239, y240, y241, y242, y243] : List Int32).getD i.toNatClampNeg 0) := ⟨_, rfl⟩
    rw [← hf245] at Bf245
    obtain ⟨_, _, ⟨T246, L246, k246, n246⟩, -, X246, ⟨Lc246, hQ246, l246, y246, z246⟩, st246⟩ := Jvm.LawKit.callS X231 hx (y := (⟨"com/example/mortise/mortise/join/RecordKeyHashPinLaw", "place", "([BIJI)V"⟩ : MethodName)) hown (mvT hZ (ow6 hw)) (mvT hZ (ow7 hw)) (mvT hZ (ow3 hw)) (mvT hZ (ow8 hw)) (by decide) (backOf (W := 0) (rm2_l3 l Z a0 hw [] bx1_0_231 x2 q0_0 f245 T231.heap n0 Z231 (hx2 ▸ own_m7 p0_3) Bf245 g_bx1_0_231) hZ (ow8 hw) (ow3 hw) (by decide) (by decide)) (g := (mkF m 51 A244 [(.int (3 : Int32)), (.long q0_0), (.int x2), (.ref bx1_0_231)])) rfl (by rw [hml]; rfl) (argsL := [(.ref bx1_0_231), (.int x2), (.long q0_0), (.int (3 : Int32))]) (rest := []) (lenOf pd___BIJI_V rfl) rfl (by show 2 * 0 + _ ≤ _; exact Nat.le_of_eq rfl) (hb hby at_51) (fun _ _ => ⟨rfl, rfl, (by decide : 1 + 0 ≤ _), (by decide : 12 + 0 ≤ _)⟩)
    dsimp only [Pt.U, Pt.locs, Pt.cells, Pt.slots] at X246 l246 y246 z246 st246 hQ246
    subst l246 y246 z246
    obtain ⟨rfl, Nq246, Kc246, P246_0⟩ := hQ246
    have K246 : Keep h0 T246.heap [] := Keep.trans K231 Kc246 (allS (P := fun x => x ∈ ([] : List Addr) ∨ h0.size ≤ x) (Or.inr sz_bx1_0_231) all0)
    have Z246 : n0 ≤ T246.heap.size := Nat.le_trans Z0 K246.1
    obtain ⟨f247, hf247⟩ : ∃ g : Int32 → Int32, g = (fun i => if i = (x2 + (2 : Int32)) then (nar .byte ((((q0_0.toUInt64 >>> ((16 : Int32) &&& 0x3f).toInt64.toUInt64).toInt64).toInt32).toInt8.toInt32)) else (fun i => if i = (x2 + (1 : Int32)) then (nar .byte ((((q0_0.toUInt64 >>> ((8 : Int32) &&& 0x3f).toInt64.toUInt64).toInt64).toInt32).toInt8.toInt32)) else (fun i => if i = x2 then (nar .byte ((q0_0.toInt32).toInt8.toInt32)) else f245 i) i) i) := ⟨_, rfl⟩
    rw [← hf247] at P246_0
    have N246 := Fr.app N231 Nq246
    obtain ⟨_, _, ⟨T248, L248, k248, n248⟩, -, X248, ⟨Lc248, hQ248, l248, y248, z248⟩, st248⟩ := Jvm.LawKit.callS X246 hx (y := (⟨"com/example/mortise/mortise/join/RecordKeyHashPinLaw", "fill", "(J)[B"⟩ : MethodName)) hown (mvT hZ (ow1 hw)) (mvT hZ (ow2 hw)) (mvT hZ (ow3 hw)) (mvT hZ (ow4 hw)) (by decide) (backOf (W := 0) (rm1 l Z a0 hw [] q0_2 T246.heap n0 Z246 ) hZ (ow4 hw) (ow3 hw) (by decide) (by decide)) (g := (mkF m 56 A244 [(.long q0_2)])) rfl (by rw [hml]; rfl) (argsL := [(.long q0_2)]) (rest := []) (lenOf pd__J__B rfl) rfl (by show 2 * 0 + _ ≤ _; exact Nat.le_of_eq rfl) (hb hby at_56) (fun _ _ => ⟨rfl, rfl, (by decide : 1 + 1 ≤ _), (by decide : 12 + 12 ≤ _)⟩)
    dsimp only [Pt.U, Pt.locs, Pt.cells, Pt.slots] at X248 l248 y248 z248 st248 hQ248
    subst l248 y248 z248
    obtain ⟨bx1_0_248, kx1_0_248, rfl, Nq248, Kc248, P248_0, P248_1⟩ := hQ248
    have K248 : Keep h0 T248.heap [] := Keep.trans K246 Kc248 all0
    have Z248 : n0 ≤ T248.heap.size := Nat.le_trans Z0 K248.1
    have g_bx1_0_248 : n0 ≤ bx1_0_248 := Nat.le_trans Z246 P248_0
    have sz_bx1_0_248 : h0.size ≤ bx1_0_248 := Nat.le_trans K246.1 P248_0
    have ne_bx1_0_231_bx1_0_248 : bx1_0_231 ≠ bx1_0_248 := Nat.ne_of_lt (Nat.lt_of_lt_of_le P246_0.lt P248_0)
    obtain ⟨y249, hy249⟩ : ∃ z : Int32, z = (nar .byte ((q0_2.toInt32).toInt8.toInt32)) := ⟨_, rfl⟩
    rw [← hy249] at P248_1
    obtain ⟨y250, hy250⟩ : ∃ z : Int32, z = (nar .byte ((((q0_2.toUInt64 >>> ((8 : Int32) &&& 0x3f).toInt64.toUInt64).toInt64).toInt32).toInt8.toInt32)) := ⟨_, rfl⟩
    rw [← hy250] at P248_1
    obtain ⟨y251, hy251⟩ : ∃ z : Int32, z = (nar .byte ((((q0_2.toUInt64 >>> ((16 : Int32) &&& 0x3f).toInt64.toUInt64).toInt64).toInt32).toInt8.toInt32)) := ⟨_, rfl⟩
    rw [← hy251] at P248_1
    obtain ⟨y252, hy252⟩ : ∃ z : Int32, z = (nar .byte ((((q0_2.toUInt64 >>> ((24 : Int32) &&& 0x3f).toInt64.toUInt64).toInt64).toInt32).toInt8.toInt32)) := ⟨_, rfl⟩
    rw [← hy252] at P248_1
    obtain ⟨y253, hy253⟩ : ∃ z : Int32, z = (nar .byte ((((q0_2.toUInt64 >>> ((32 : Int32) &&& 0x3f).toInt64.toUInt64).toInt64).toInt32).toInt8.toInt32)) := ⟨_, rfl⟩
    rw [← hy253] at P248_1
    obtain ⟨y254, hy254⟩ : ∃ z : Int32, z = (nar .byte ((((q0_2.toUInt64 >>> ((40 : Int32) &&& 0x3f).toInt64.toUInt64).toInt64).toInt32).toInt8.toInt32)) := ⟨_, rfl⟩
    rw [← hy254] at P248_1
    obtain ⟨y255, hy255⟩ : ∃ z : Int32, z = (nar .byte ((((q0_2.toUInt64 >>> ((48 : Int32) &&& 0x3f).toInt64.toUInt64).toInt64).toInt32).toInt8.toInt32)) := ⟨_, rfl⟩
    rw [← hy255] at P248_1
    obtain ⟨y256, hy256⟩ : ∃ z : Int32, z = (nar .byte ((((q0_2.toUInt64 >>> ((56 : Int32) &&& 0x3f).toInt64.toUInt64).toInt64).toInt32).toInt8.toInt32)) := ⟨_, rfl⟩
    rw [← hy256] at P248_1
    obtain ⟨y257, hy257⟩ : ∃ z : Int32, z = (nar .byte ((((q0_2.toUInt64 >>> ((4 : Int32) &&& 0x3f).toInt64.toUInt64).toInt64).toInt32).toInt8.toInt32)) := ⟨_, rfl⟩
    rw [← hy257] at P248_1
    obtain ⟨y258, hy258⟩ : ∃ z : Int32, z = (nar .byte ((((q0_2.toUInt64 >>> ((12 : Int32) &&& 0x3f).toInt64.toUInt64).toInt64).toInt32).toInt8.toInt32)) := ⟨_, rfl⟩
    rw [← hy258] at P248_1
    obtain ⟨y259, hy259⟩ : ∃ z : Int32, z = (nar .byte ((((q0_2.toUInt64 >>> ((20 : Int32) &&& 0x3f).toInt64.toUInt64).toInt64).toInt32).toInt8.toInt32)) := ⟨_, rfl⟩
    rw [← hy259] at P248_1
    obtain ⟨y260, hy260⟩ : ∃ z : Int32, z = (nar .byte ((((q0_2.toUInt64 >>> ((28 : Int32) &&& 0x3f).toInt64.toUInt64).toInt64).toInt32).toInt8.toInt32)) := ⟨_, rfl⟩
    rw [← hy260] at P248_1
    have N248 := Fr.app N246 Nq248
    let A261 : Array Slot := #[.val (.long q0_0), .second, .val (.long q0_1), .second, .val (.long q0_2), .second, .val (.int p0_3), .val (.int p0_4), .val (.int p0_5), .val (.int x2), .val (.int x4), .val (.int (3 : Int32)), .val (.int x8), .val (.ref bx1_0_231), .val (.ref bx1_0_248), .unset, .unset, .unset, .unset, .unset, .unset, .unset, .unset, .unset]
    have Bf262 := Bya.of_arv (es := [y249, y250, y251, y252, y253, y254, y255, y256, y257, y258, y259, y260]) P248_1 rfl
    obtain ⟨f262, hf262⟩ : ∃ g : Int32 → Int32, g = (fun i => ([y249, y250, y251, y252, y253, y254, y255, y256, y257, y258, y259, y260] : List Int32).getD i.toNatClampNeg 0) := ⟨_, rfl⟩
    rw [← hf262] at Bf262
    obtain ⟨_, _, ⟨T263, L263, k263, n263⟩, -, X263, ⟨Lc263, hQ263, l263, y263, z263⟩, st263⟩ := Jvm.LawKit.callS X248 hx (y := (⟨"com/example/mortise/mortise/join/RecordKeyHashPinLaw", "place", "([BIJI)V"⟩ : MethodName)) hown (mvT hZ (ow6 hw)) (mvT hZ (ow7 hw)) (mvT hZ (ow3 hw)) (mvT hZ (ow8 hw)) (by decide) (backOf (W := 0) (rm2_l3 l Z a0 hw [] bx1_0_248 x4 q0_0 f262 T248.heap n0 Z248 (hx4 ▸ own_m7 ((p0_3.toUInt32 >>> ((3 : Int32) &&& 31).toUInt32).toInt32)) Bf262 g_bx1_0_248) hZ (ow8 hw) (ow3 hw) (by decide) (by decide)) (g := (mkF m 68 A261 [(.int (3 : Int32)), (.long q0_0), (.int x4), (.ref bx1_0_248)])) rfl (by rw [hml]; rfl) (argsL := [(.ref bx1_0_248), (.int x4), (.long q0_0), (.int (3 : Int32))]) (rest := []) (lenOf pd___BIJI_V rfl) rfl (by show 2 * 0 + _ ≤ _; exact Nat.le_of_eq rfl) (hb hby at_68) (fun _ _ => ⟨rfl, rfl, (by decide : 2 + 0 ≤ _), (by decide : 24 + 0 ≤ _)⟩)
    dsimp only [Pt.U, Pt.locs, Pt.cells, Pt.slots] at X263 l263 y263 z263 st263 hQ263
    subst l263 y263 z263
    obtain ⟨rfl, Nq263, Kc263, P263_0⟩ := hQ263
    have K263 : Keep h0 T263.heap [] := Keep.trans K248 Kc263 (allS (P := fun x => x ∈ ([] : List Addr) ∨ h0.size ≤ x) (Or.inr sz_bx1_0_248) all0)
    have Z263 : n0 ≤ T263.heap.size := Nat.le_trans Z0 K263.1
    obtain ⟨f264, hf264⟩ : ∃ g : Int32 → Int32, g = (fun i => if i = (x4 + (2 : Int32)) then (nar .byte ((((q0_0.toUInt64 >>> ((16 : Int32) &&& 0x3f).toInt64.toUInt64).toInt64).toInt32).toInt8.toInt32)) else (fun i => if i = (x4 + (1 : Int32)) then (nar .byte ((((q0_0.toUInt64 >>> ((8 : Int32) &&& 0x3f).toInt64.toUInt64).toInt64).toInt32).toInt8.toInt32)) else (fun i => if i = x4 then (nar .byte ((q0_0.toInt32).toInt8.toInt32)) else f262 i) i) i) := ⟨_, rfl⟩
    rw [← hf264] at P263_0
    have N263 := Fr.app N248 Nq263
    have f266 := ((P246_0.keep Kc248 nin0).keep Kc263 (ninS ne_bx1_0_231_bx1_0_248 nin0))
    obtain ⟨_, _, ⟨T265, L265, k265, n265⟩, -, X265, ⟨Lc265, hQ265, l265, y265, z265⟩, st265⟩ := Jvm.LawKit.callS X263 hx (y := (⟨"com/example/mortise/mortise/join/RecordKeyHashPinLaw", "fill", "(J)[B"⟩ : MethodName)) hown (mvT hZ (ow1 hw)) (mvT hZ (ow2 hw)) (mvT hZ (ow3 hw)) (mvT hZ (ow4 hw)) (by decide) (backOf (W := 0) (rm1 l Z a0 hw [] q0_2 T263.heap n0 Z263 ) hZ (ow4 hw) (ow3 hw) (by decide) (by decide)) (g := (mkF m 73 A261 [(.long q0_2)])) rfl (by rw [hml]; rfl) (argsL := [(.long q0_2)]) (rest := []) (lenOf pd__J__B rfl) rfl (by show 2 * 0 + _ ≤ _; exact Nat.le_of_eq rfl) (hb hby at_73) (fun _ _ => ⟨rfl, rfl, (by decide : 2 + 1 ≤ _), (by decide : 24 + 12 ≤ _)⟩)
    dsimp only [Pt.U, Pt.locs, Pt.cells, Pt.slots] at X265 l265 y265 z265 st265 hQ265
    subst l265 y265 z265
    obtain ⟨bx1_0_265, kx1_0_265, rfl, Nq265, Kc265, P265_0, P265_1⟩ := hQ265
    have K265 : Keep h0 T265.heap [] := Keep.trans K263 Kc265 all0
    have Z265 : n0 ≤ T265.heap.size := Nat.le_trans Z0 K265.1
    have g_bx1_0_265 : n0 ≤ bx1_0_265 := Nat.le_trans Z263 P265_0
    have sz_bx1_0_265 : h0.size ≤ bx1_0_265 := Nat.le_trans K263.1 P265_0
    have ne_bx1_0_231_bx1_0_265 : bx1_0_231 ≠ bx1_0_265 := Nat.ne_of_lt (Nat.lt_of_lt_of_le f266.lt P265_0)
    have ne_bx1_0_248_bx1_0_265 : bx1_0_248 ≠ bx1_0_265 := Nat.ne_of_lt (Nat.lt_of_lt_of_le P263_0.lt P265_0)
    obtain ⟨y267, hy267⟩ : ∃ z : Int32, z = (nar .byte ((q0_2.toInt32).toInt8.toInt32)) := ⟨_, rfl⟩
    rw [← hy267] at P265_1
    obtain ⟨y268, hy268⟩ : ∃ z : Int32, z = (nar .byte ((((q0_2.toUInt64 >>> ((8 : Int32) &&& 0x3f).toInt64.toUInt64).toInt64).toInt32).toInt8.toInt32)) := ⟨_, rfl⟩
    rw [← hy268] at P265_1
    obtain ⟨y269, hy269⟩ : ∃ z : Int32, z = (nar .byte ((((q0_2.toUInt64 >>> ((16 : Int32) &&& 0x3f).toInt64.toUInt64).toInt64).toInt32).toInt8.toInt32)) := ⟨_, rfl⟩
    rw [← hy269] at P265_1
    obtain ⟨y270, hy270⟩ : ∃ z : Int32, z = (nar .byte ((((q0_2.toUInt64 >>> ((24 : Int32) &&& 0x3f).toInt64.toUInt64).toInt64).toInt32).toInt8.toInt32)) := ⟨_, rfl⟩
    rw [← hy270] at P265_1
    obtain ⟨y271, hy271⟩ : ∃ z : Int32, z = (nar .byte ((((q0_2.toUInt64 >>> ((32 : Int32) &&& 0x3f).toInt64.toUInt64).toInt64).toInt32).toInt8.toInt32)) := ⟨_, rfl⟩
    rw [← hy271] at P265_1
    obtain ⟨y272, hy272⟩ : ∃ z : Int32, z = (nar .byte ((((q0_2.toUInt64 >>> ((40 : Int32) &&& 0x3f).toInt64.toUInt64).toInt64).toInt32).toInt8.toInt32)) := ⟨_, rfl⟩
    rw [← hy272] at P265_1
    obtain ⟨y273, hy273⟩ : ∃ z : Int32, z = (nar .byte ((((q0_2.toUInt64 >>> ((48 : Int32) &&& 0x3f).toInt64.toUInt64).toInt64).toInt32).toInt8.toInt32)) := ⟨_, rfl⟩
    rw [← hy273] at P265_1
    obtain ⟨y274, hy274⟩ : ∃ z : Int32, z = (nar .byte ((((q0_2.toUInt64 >>> ((56 : Int32) &&& 0x3f).toInt64.toUInt64).toInt64).toInt32).toInt8.toInt32)) := ⟨_, rfl⟩
    rw [← hy274] at P265_1
    obtain ⟨y275, hy275⟩ : ∃ z : Int32, z = (nar .byte ((((q0_2.toUInt64 >>> ((4 : Int32) &&& 0x3f).toInt64.toUInt64).toInt64).toInt32).toInt8.toInt32)) := ⟨_, rfl⟩
    rw [← hy275] at P265_1
    obtain ⟨y276, hy276⟩ : ∃ z : Int32, z = (nar .byte ((((q0_2.toUInt64 >>> ((12 : Int32) &&& 0x3f).toInt64.toUInt64).toInt64).toInt32).toInt8.toInt32)) := ⟨_, rfl⟩
    rw [← hy276] at P265_1
    obtain ⟨y277, hy277⟩ : ∃ z : Int32, z = (nar .byte ((((q0_2.toUInt64 >>> ((20 : Int32) &&& 0x3f).toInt64.toUInt64).toInt64).toInt32).toInt8.toInt32)) := ⟨_, rfl⟩
    rw [← hy277] at P265_1
    obtain ⟨y278, hy278⟩ : ∃ z : Int32, z = (nar .byte ((((q0_2.toUInt64 >>> ((28 : Int32) &&& 0x3f).toInt64.toUInt64).toInt64).toInt32).toInt8.toInt32)) := ⟨_, rfl⟩
    rw [← hy278] at P265_1
    have N265 := Fr.app N263 Nq265
    let A279 : Array Slot := #[.val (.long q0_0), .second, .val (.long q0_1), .second, .val (.long q0_2), .second, .val (.int p0_3), .val (.int p0_4), .val (.int p0_5), .val (.int x2), .val (.int x4), .val (.int (3 : Int32)), .val (.int x8), .val (.ref bx1_0_231), .val (.ref bx1_0_248), .val (.ref bx1_0_265), .unset, .unset, .unset, .unset, .unset, .unset, .unset, .unset]
    have Bf280 := Bya.of_arv (es := [y267, y268, y269, y270, y271, y272, y273, y274, y275, y276, y277, y278]) P265_1 rfl
    obtain ⟨f280, hf280⟩ : ∃ g : Int32 → Int32, g = (fun i => ([y267, y268, y269, y270, y271, y272, y273, y274, y275, y276, y277, y278] : List Int32).getD i.toNatClampNeg 0) := ⟨_, rfl⟩
    rw [← hf280] at Bf280
    obtain ⟨_, _, ⟨T281, L281, k281, n281⟩, -, X281, ⟨Lc281, hQ281, l281, y281, z281⟩, st281⟩ := Jvm.LawKit.callS X265 hx (y := (⟨"com/example/mortise/mortise/join/RecordKeyHashPinLaw", "place", "([BIJI)V"⟩ : MethodName)) hown (mvT hZ (ow6 hw)) (mvT hZ (ow7 hw)) (mvT hZ (ow3 hw)) (mvT hZ (ow8 hw)) (by decide) (backOf (W := 0) (rm2_l3 l Z a0 hw [] bx1_0_265 x4 q0_0 f280 T265.heap n0 Z265 (hx4 ▸ own_m7 ((p0_3.toUInt32 >>> ((3 : Int32) &&& 31).toUInt32).toInt32)) Bf280 g_bx1_0_265) hZ (ow8 hw) (ow3 hw) (by decide) (by decide)) (g := (mkF m 85 A279 [(.int (3 : Int32)), (.long q0_0), (.int x4), (.ref bx1_0_265)])) rfl (by rw [hml]; rfl) (argsL := [(.ref bx1_0_265), (.int x4), (.long q0_0), (.int (3 : Int32))]) (rest := []) (lenOf pd___BIJI_V rfl) rfl (by show 2 * 0 + _ ≤ _; exact Nat.le_of_eq rfl) (hb hby at_85) (fun _ _ => ⟨rfl, rfl, (by decide : 3 + 0 ≤ _), (by decide : 36 + 0 ≤ _)⟩)
    dsimp only [Pt.U, Pt.locs, Pt.cells, Pt.slots] at X281 l281 y281 z281 st281 hQ281
    subst l281 y281 z281
    obtain ⟨rfl, Nq281, Kc281, P281_0⟩ := hQ281
    have K281 : Keep h0 T281.heap [] := Keep.trans K265 Kc281 (allS (P := fun x => x ∈ ([] : List Addr) ∨ h0.size ≤ x) (Or.inr sz_bx1_0_265) all0)
    have Z281 : n0 ≤ T281.heap.size := Nat.le_trans Z0 K281.1
    obtain ⟨f282, hf282⟩ : ∃ g : Int32 → Int32, g = (fun i => if i = (x4 + (2 : Int32)) then (nar .byte ((((q0_0.toUInt64 >>> ((16 : Int32) &&& 0x3f).toInt64.toUInt64).toInt64).toInt32).toInt8.toInt32)) else (fun i => if i = (x4 + (1 : Int32)) then (nar .byte ((((q0_0.toUInt64 >>> ((8 : Int32) &&& 0x3f).toInt64.toUInt64).toInt64).toInt32).toInt8.toInt32)) else (fun i => if i = x4 then (nar .byte ((q0_0.toInt32).toInt8.toInt32)) else f280 i) i) i) := ⟨_, rfl⟩
    rw [← hf282] at P281_0
    have N281 := Fr.app N265 Nq281
    have f283 := ((f266.keep Kc265 nin0).keep Kc281 (ninS ne_bx1_0_231_bx1_0_265 nin0))
    obtain ⟨_, _, ⟨T284, L284, k284, n284⟩, -, X284, ⟨Lc284, hQ284, l284, y284, z284⟩, st284⟩ := Jvm.LawKit.callS X281 hx (y := (⟨"com/example/mortise/mortise/join/Record", "keyHash", "([BII)J"⟩ : MethodName)) hown (mvT hZ (ow9 hw)) (mvT hZ (ow10 hw)) (mvT hZ (ow11 hw)) (mvT hZ (ow12 hw)) (by decide) (backOf (W := 0) (rm3_l3 l Z a0 hw [] bx1_0_231 x2 f247 T281.heap n0 Z281 (hx2 ▸ own_m7 p0_3) f283) hZ (ow12 hw) (ow11 hw) (by decide) (by decide)) (g := (mkF m 97 A279 [(.int (x2 + (3 : Int32))), (.int x2), (.ref bx1_0_231)])) rfl (by rw [hml]; rfl) (argsL := [(.ref bx1_0_231), (.int x2), (.int (x2 + (3 : Int32)))]) (rest := []) (lenOf pd___BII_J rfl) rfl (by show 2 * 0 + _ ≤ _; exact Nat.le_of_eq rfl) (hb hby at_97) (fun _ _ => ⟨rfl, rfl, (by decide : 3 + 0 ≤ _), (by decide : 36 + 0 ≤ _)⟩)
    dsimp only [Pt.U, Pt.locs, Pt.cells, Pt.slots] at X284 l284 y284 z284 st284 hQ284
    subst l284 y284 z284
    obtain ⟨rfl, Nq284, e284⟩ := hQ284
    have N284 := Fr.app N281 Nq284
    obtain ⟨x285, hx285⟩ : ∃ z : Int64, z = ((((((((((((-3750763034362895579 : Int64) ^^^ (((f247 x2) &&& (255 : Int32)).toInt64)) * (1099511628211 : Int64)) ^^^ (((f247 (x2 + (1 : Int32))) &&& (255 : Int32)).toInt64)) * (1099511628211 : Int64)) ^^^ (((f247 (x2 + (2 : Int32))) &&& (255 : Int32)).toInt64)) * (1099511628211 : Int64)) ^^^ (((((((((-3750763034362895579 : Int64) ^^^ (((f247 x2) &&& (255 : Int32)).toInt64)) * (1099511628211 : Int64)) ^^^ (((f247 (x2 + (1 : Int32))) &&& (255 : Int32)).toInt64)) * (1099511628211 : Int64)) ^^^ (((f247 (x2 + (2 : Int32))) &&& (255 : Int32)).toInt64)) * (1099511628211 : Int64)).toUInt64 >>> ((33 : Int32) &&& 0x3f).toInt64.toUInt64).toInt64)) * (-49064778989728563 : Int64)) ^^^ (((((((((((-3750763034362895579 : Int64) ^^^ (((f247 x2) &&& (255 : Int32)).toInt64)) * (1099511628211 : Int64)) ^^^ (((f247 (x2 + (1 : Int32))) &&& (255 : Int32)).toInt64)) * (1099511628211 : Int64)) ^^^ (((f247 (x2 + (2 : Int32))) &&& (255 : Int32)).toInt64)) * (1099511628211 : Int64)) ^^^ (((((((((-3750763034362895579 : Int64) ^^^ (((f247 x2) &&& (255 : Int32)).toInt64)) * (1099511628211 : Int64)) ^^^ (((f247 (x2 + (1 : Int32))) &&& (255 : Int32)).toInt64)) * (1099511628211 : Int64)) ^^^ (((f247 (x2 + (2 : Int32))) &&& (255 : Int32)).toInt64)) * (1099511628211 : Int64)).toUInt64 >>> ((33 : Int32) &&& 0x3f).toInt64.toUInt64).toInt64)) * (-49064778989728563 : Int64)).toUInt64 >>> ((33 : Int32) &&& 0x3f).toInt64.toUInt64).toInt64)) * (-4265267296055464877 : Int64)) ^^^ (((((((((((((-3750763034362895579 : Int64) ^^^ (((f247 x2) &&& (255 : Int32)).toInt64)) * (1099511628211 : Int64)) ^^^ (((f247 (x2 + (1 : Int32))) &&& (255 : Int32)).toInt64)) * (1099511628211 : Int64)) ^^^ (((f247 (x2 + (2 : Int32))) &&& (255 : Int32)).toInt64)) * (1099511628211 : Int64)) ^^^ (((((((((-3750763034362895579 : Int64) ^^^ (((f247 x2) &&& (255 : Int32)).toInt64)) * (1099511628211 : Int64)) ^^^ (((f247 (x2 + (1 : Int32))) &&& (255 : Int32)).toInt64)) * (1099511628211 : Int64)) ^^^ (((f247 (x2 + (2 : Int32))) &&& (255 : Int32)).toInt64)) * (1099511628211 : Int64)).toUInt64 >>> ((33 : Int32) &&& 0x3f).toInt64.toUInt64).toInt64)) * (-49064778989728563 : Int64)) ^^^ (((((((((((-3750763034362895579 : Int64) ^^^ (((f247 x2) &&& (255 : Int32)).toInt64)) * (1099511628211 : Int64)) ^^^ (((f247 (x2 + (1 : Int32))) &&& (255 : Int32)).toInt64)) * (1099511628211 : Int64)) ^^^ (((f247 (x2 + (2 : Int32))) &&& (255 : Int32)).toInt64)) * (1099511628211 : Int64)) ^^^ (((((((((-3750763034362895579 : Int64) ^^^ (((f247 x2) &&& (255 : Int32)).toInt64)) * (1099511628211 : Int64)) ^^^ (((f247 (x2 + (1 : Int32))) &&& (255 : Int32)).toInt64)) * (1099511628211 : Int64)) ^^^ (((f247 (x2 + (2 : Int32))) &&& (255 : Int32)).toInt64)) * (1099511628211 : Int64)).toUInt64 >>> ((33 : Int32) &&& 0x3f).toInt64.toUInt64).toInt64)) * (-49064778989728563 : Int64)).toUInt64 >>> ((33 : Int32) &&& 0x3f).toInt64.toUInt64).toInt64)) * (-4265267296055464877 : Int64)).toUInt64 >>> ((33 : Int32) &&& 0x3f).toInt64.toUInt64).toInt64)) := ⟨_, rfl⟩
    let A286 : Array Slot := #[.val (.long q0_0), .second, .val (.long q0_1), .second, .val (.long q0_2), .second, .val (.int p0_3), .val (.int p0_4), .val (.int p0_5), .val (.int x2), .val (.int x4), .val (.int (3 : Int32)), .val (.int x8), .val (.ref bx1_0_231), .val (.ref bx1_0_248), .val (.ref bx1_0_265), .val (.long x285), .second, .unset, .unset, .unset, .unset, .unset, .unset]
    have f287 := ((P263_0.keep Kc265 nin0).keep Kc281 (ninS ne_bx1_0_248_bx1_0_265 nin0))
    obtain ⟨_, _, ⟨T288, L288, k288, n288⟩, -, X288, ⟨Lc288, hQ288, l288, y288, z288⟩, st288⟩ := Jvm.LawKit.callS X284 hx (y := (⟨"com/example/mortise/mortise/join/Record", "keyHash", "([BII)J"⟩ : MethodName)) hown (mvT hZ (ow9 hw)) (mvT hZ (ow10 hw)) (mvT hZ (ow11 hw)) (mvT hZ (ow12 hw)) (by decide) (backOf (W := 0) (rm3_l3 l Z a0 hw [] bx1_0_248 x4 f264 T281.heap n0 Z281 (hx4 ▸ own_m7 ((p0_3.toUInt32 >>> ((3 : Int32) &&& 31).toUInt32).toInt32)) f287) hZ (ow12 hw) (ow11 hw) (by decide) (by decide)) (g := (mkF m 111 A286 [(.int (x4 + (3 : Int32))), (.int x4), (.ref bx1_0_248)])) rfl (by rw [hml]; rfl) (argsL := [(.ref bx1_0_248), (.int x4), (.int (x4 + (3 : Int32)))]) (rest := []) (lenOf pd___BII_J rfl) rfl (by show 2 * 0 + _ ≤ _; exact Nat.le_of_eq rfl) (hb hby at_111) (fun _ _ => ⟨rfl, e284, (by decide : 3 + 0 ≤ _), (by decide : 36 + 0 ≤ _)⟩)
    dsimp only [Pt.U, Pt.locs, Pt.cells, Pt.slots] at X288 l288 y288 z288 st288 hQ288
    subst l288 y288 z288
    obtain ⟨rfl, Nq288, e288⟩ := hQ288
    have N288 := Fr.app N284 Nq288
    obtain ⟨x289, hx289⟩ : ∃ z : Int64, z = ((((((((((((-3750763034362895579 : Int64) ^^^ (((f264 x4) &&& (255 : Int32)).toInt64)) * (1099511628211 : Int64)) ^^^ (((f264 (x4 + (1 : Int32))) &&& (255 : Int32)).toInt64)) * (1099511628211 : Int64)) ^^^ (((f264 (x4 + (2 : Int32))) &&& (255 : Int32)).toInt64)) * (1099511628211 : Int64)) ^^^ (((((((((-3750763034362895579 : Int64) ^^^ (((f264 x4) &&& (255 : Int32)).toInt64)) * (1099511628211 : Int64)) ^^^ (((f264 (x4 + (1 : Int32))) &&& (255 : Int32)).toInt64)) * (1099511628211 : Int64)) ^^^ (((f264 (x4 + (2 : Int32))) &&& (255 : Int32)).toInt64)) * (1099511628211 : Int64)).toUInt64 >>> ((33 : Int32) &&& 0x3f).toInt64.toUInt64).toInt64)) * (-49064778989728563 : Int64)) ^^^ (((((((((((-3750763034362895579 : Int64) ^^^ (((f264 x4) &&& (255 : Int32)).toInt64)) * (1099511628211 : Int64)) ^^^ (((f264 (x4 + (1 : Int32))) &&& (255 : Int32)).toInt64)) * (1099511628211 : Int64)) ^^^ (((f264 (x4 + (2 : Int32))) &&& (255 : Int32)).toInt64)) * (1099511628211 : Int64)) ^^^ (((((((((-3750763034362895579 : Int64) ^^^ (((f264 x4) &&& (255 : Int32)).toInt64)) * (1099511628211 : Int64)) ^^^ (((f264 (x4 + (1 : Int32))) &&& (255 : Int32)).toInt64)) * (1099511628211 : Int64)) ^^^ (((f264 (x4 + (2 : Int32))) &&& (255 : Int32)).toInt64)) * (1099511628211 : Int64)).toUInt64 >>> ((33 : Int32) &&& 0x3f).toInt64.toUInt64).toInt64)) * (-49064778989728563 : Int64)).toUInt64 >>> ((33 : Int32) &&& 0x3f).toInt64.toUInt64).toInt64)) * (-4265267296055464877 : Int64)) ^^^ (((((((((((((-3750763034362895579 : Int64) ^^^ (((f264 x4) &&& (255 : Int32)).toInt64)) * (1099511628211 : Int64)) ^^^ (((f264 (x4 + (1 : Int32))) &&& (255 : Int32)).toInt64)) * (1099511628211 : Int64)) ^^^ (((f264 (x4 + (2 : Int32))) &&& (255 : Int32)).toInt64)) * (1099511628211 : Int64)) ^^^ (((((((((-3750763034362895579 : Int64) ^^^ (((f264 x4) &&& (255 : Int32)).toInt64)) * (1099511628211 : Int64)) ^^^ (((f264 (x4 + (1 : Int32))) &&& (255 : Int32)).toInt64)) * (1099511628211 : Int64)) ^^^ (((f264 (x4 + (2 : Int32))) &&& (255 : Int32)).toInt64)) * (1099511628211 : Int64)).toUInt64 >>> ((33 : Int32) &&& 0x3f).toInt64.toUInt64).toInt64)) * (-49064778989728563 : Int64)) ^^^ (((((((((((-3750763034362895579 : Int64) ^^^ (((f264 x4) &&& (255 : Int32)).toInt64)) * (1099511628211 : Int64)) ^^^ (((f264 (x4 + (1 : Int32))) &&& (255 : Int32)).toInt64)) * (1099511628211 : Int64)) ^^^ (((f264 (x4 + (2 : Int32))) &&& (255 : Int32)).toInt64)) * (1099511628211 : Int64)) ^^^ (((((((((-3750763034362895579 : Int64) ^^^ (((f264 x4) &&& (255 : Int32)).toInt64)) * (1099511628211 : Int64)) ^^^ (((f264 (x4 + (1 : Int32))) &&& (255 : Int32)).toInt64)) * (1099511628211 : Int64)) ^^^ (((f264 (x4 + (2 : Int32))) &&& (255 : Int32)).toInt64)) * (1099511628211 : Int64)).toUInt64 >>> ((33 : Int32) &&& 0x3f).toInt64.toUInt64).toInt64)) * (-49064778989728563 : Int64)).toUInt64 >>> ((33 : Int32) &&& 0x3f).toInt64.toUInt64).toInt64)) * (-4265267296055464877 : Int64)).toUInt64 >>> ((33 : Int32) &&& 0x3f).toInt64.toUInt64).toInt64)) := ⟨_, rfl⟩
    let A290 : Array Slot := #[.val (.long q0_0), .second, .val (.long q0_1), .second, .val (.long q0_2), .second, .val (.int p0_3), .val (.int p0_4), .val (.int p0_5), .val (.int x2), .val (.int x4), .val (.int (3 : Int32)), .val (.int x8), .val (.ref bx1_0_231), .val (.ref bx1_0_248), .val (.ref bx1_0_265), .val (.long x285), .second, .val (.long x289), .second, .unset, .unset, .unset, .unset]
    have G291 : ∀ t, Steps p.tables e below (T288.setTop (mkF m 121 A290 [(.int (lcmpW x285 x289))])) t → Steps p.tables e below (s₁.setTop (mkF m 38 A9 [])) t := by
      intro t k
      show Steps p.tables e below (s₁.setTop (mkF m 38 #[.val (.long q0_0), .second, .val (.long q0_1), .second, .val (.long q0_2), .second, .val (.int p0_3), .val (.int p0_4), .val (.int p0_5), .val (.int x2), .val (.int x4), .val (.int x6), .val (.int x8), .unset, .unset, .unset, .unset, .unset, .unset, .unset, .unset, .unset, .unset, .unset] [])) _
      rw [hc14]
      show Steps p.tables e below (s₁.setTop (mkF m 38 A230 [])) _
      show Steps p.tables e below (s₁.setTop (mkF m 38 A230 [])) _
      refine XS.lloadN X0.here hx rfl (hb hby at_38) rfl ?_
      show Steps p.tables e below (s₁.setTop (mkF m 39 A230 [(.long q0_1)])) _
      refine st231 _ ?_
      show Steps p.tables e below (T231.setTop (mkF m 42 A230 [(.ref bx1_0_231)])) _
      refine XS.astore X231.here hx rfl (hb hby at_42) rfl rfl (l' := A244) rfl ?_
      show Steps p.tables e below (T231.setTop (mkF m 44 A244 [])) _
      refine XS.aload X231.here hx rfl (hb hby at_44) rfl rfl ?_
      show Steps p.tables e below (T231.setTop (mkF m 46 A244 [(.ref bx1_0_231)])) _
      refine XS.iload X231.here hx rfl (hb hby at_46) rfl ?_
      show Steps p.tables e below (T231.setTop (mkF m 48 A244 [(.int x2), (.ref bx1_0_231)])) _
      refine XS.lloadN X231.here hx rfl (hb hby at_48) rfl ?_
      show Steps p.tables e below (T231.setTop (mkF m 49 A244 [(.long q0_0), (.int x2), (.ref bx1_0_231)])) _
      refine XS.iload X231.here hx rfl (hb hby at_49) rfl ?_
      show Steps p.tables e below (T231.setTop (mkF m 51 A244 [(.int (3 : Int32)), (.long q0_0), (.int x2), (.ref bx1_0_231)])) _
      refine st246 _ ?_
      show Steps p.tables e below (T246.setTop (mkF m 54 A244 [])) _
      refine XS.lload X246.here hx rfl (hb hby at_54) rfl ?_
      show Steps p.tables e below (T246.setTop (mkF m 56 A244 [(.long q0_2)])) _
      refine st248 _ ?_
      show Steps p.tables e below (T248.setTop (mkF m 59 A244 [(.ref bx1_0_248)])) _
      refine XS.astore X248.here hx rfl (hb hby at_59) rfl rfl (l' := A261) rfl ?_
      show Steps p.tables e below (T248.setTop (mkF m 61 A261 [])) _
      refine XS.aload X248.here hx rfl (hb hby at_61) rfl rfl ?_
      show Steps p.tables e below (T248.setTop (mkF m 63 A261 [(.ref bx1_0_248)])) _
      refine XS.iload X248.here hx rfl (hb hby at_63) rfl ?_
      show Steps p.tables e below (T248.setTop (mkF m 65 A261 [(.int x4), (.ref bx1_0_248)])) _
      refine XS.lloadN X248.here hx rfl (hb hby at_65) rfl ?_
      show Steps p.tables e below (T248.setTop (mkF m 66 A261 [(.long q0_0), (.int x4), (.ref bx1_0_248)])) _
      refine XS.iload X248.here hx rfl (hb hby at_66) rfl ?_
      show Steps p.tables e below (T248.setTop (mkF m 68 A261 [(.int (3 : Int32)), (.long q0_0), (.int x4), (.ref bx1_0_248)])) _
      refine st263 _ ?_
      show Steps p.tables e below (T263.setTop (mkF m 71 A261 [])) _
      refine XS.lload X263.here hx rfl (hb hby at_71) rfl ?_
      show Steps p.tables e below (T263.setTop (mkF m 73 A261 [(.long q0_2)])) _
      refine st265 _ ?_
      show Steps p.tables e below (T265.setTop (mkF m 76 A261 [(.ref bx1_0_265)])) _
      refine XS.astore X265.here hx rfl (hb hby at_76) rfl rfl (l' := A279) rfl ?_
      show Steps p.tables e below (T265.setTop (mkF m 78 A279 [])) _
      refine XS.aload X265.here hx rfl (hb hby at_78) rfl rfl ?_
      show Steps p.tables e below (T265.setTop (mkF m 80 A279 [(.ref bx1_0_265)])) _
      refine XS.iload X265.here hx rfl (hb hby at_80) rfl ?_
      show Steps p.tables e below (T265.setTop (mkF m 82 A279 [(.int x4), (.ref bx1_0_265)])) _
      refine XS.lloadN X265.here hx rfl (hb hby at_82) rfl ?_
      show Steps p.tables e below (T265.setTop (mkF m 83 A279 [(.long q0_0), (.int x4), (.ref bx1_0_265)])) _
      refine XS.iload X265.here hx rfl (hb hby at_83) rfl ?_
      show Steps p.tables e below (T265.setTop (mkF m 85 A279 [(.int (3 : Int32)), (.long q0_0), (.int x4), (.ref bx1_0_265)])) _
      refine st281 _ ?_
      show Steps p.tables e below (T281.setTop (mkF m 88 A279 [])) _
      refine XS.aload X281.here hx rfl (hb hby at_88) rfl rfl ?_
      show Steps p.tables e below (T281.setTop (mkF m 90 A279 [(.ref bx1_0_231)])) _
      refine XS.iload X281.here hx rfl (hb hby at_90) rfl ?_
      show Steps p.tables e below (T281.setTop (mkF m 92 A279 [(.int x2), (.ref bx1_0_231)])) _
      refine XS.iload X281.here hx rfl (hb hby at_92) rfl ?_
      show Steps p.tables e below (T281.setTop (mkF m 94 A279 [(.int x2), (.int x2), (.ref bx1_0_231)])) _
      refine XS.iload X281.here hx rfl (hb hby at_94) rfl ?_
      show Steps p.tables e below (T281.setTop (mkF m 96 A279 [(.int (3 : Int32)), (.int x2), (.int x2), (.ref bx1_0_231)])) _
      refine XS.iadd X281.here hx rfl (hb hby at_96) rfl ?_
      show Steps p.tables e below (T281.setTop (mkF m 97 A279 [(.int (x2 + (3 : Int32))), (.int x2), (.ref bx1_0_231)])) _
      refine st284 _ ?_
      show Steps p.tables e below (T284.setTop (mkF m 100 #[.val (.long q0_0), .second, .val (.long q0_1), .second, .val (.long q0_2), .second, .val (.int p0_3), .val (.int p0_4), .val (.int p0_5), .val (.int x2), .val (.int x4), .val (.int (3 : Int32)), .val (.int x8), .val (.ref bx1_0_231), .val (.ref bx1_0_248), .val (.ref bx1_0_265), .unset, .unset, .unset, .unset, .unset, .unset, .unset, .unset] [(.long ((((((((((((-3750763034362895579 : Int64) ^^^ (((f247 x2) &&& (255 : Int32)).toInt64)) * (1099511628211 : Int64)) ^^^ (((f247 (x2 + (1 : Int32))) &&& (255 : Int32)).toInt64)) * (1099511628211 : Int64)) ^^^ (((f247 (x2 + (2 : Int32))) &&& (255 : Int32)).toInt64)) * (1099511628211 : Int64)) ^^^ (((((((((-3750763034362895579 : Int64) ^^^ (((f247 x2) &&& (255 : Int32)).toInt64)) * (1099511628211 : Int64)) ^^^ (((f247 (x2 + (1 : Int32))) &&& (255 : Int32)).toInt64)) * (1099511628211 : Int64)) ^^^ (((f247 (x2 + (2 : Int32))) &&& (255 : Int32)).toInt64)) * (1099511628211 : Int64)).toUInt64 >>> ((33 : Int32) &&& 0x3f).toInt64.toUInt64).toInt64)) * (-49064778989728563 : Int64)) ^^^ (((((((((((-3750763034362895579 : Int64) ^^^ (((f247 x2) &&& (255 : Int32)).toInt64)) * (1099511628211 : Int64)) ^^^ (((f247 (x2 + (1 : Int32))) &&& (255 : Int32)).toInt64)) * (1099511628211 : Int64)) ^^^ (((f247 (x2 + (2 : Int32))) &&& (255 : Int32)).toInt64)) * (1099511628211 : Int64)) ^^^ (((((((((-3750763034362895579 : Int64) ^^^ (((f247 x2) &&& (255 : Int32)).toInt64)) * (1099511628211 : Int64)) ^^^ (((f247 (x2 + (1 : Int32))) &&& (255 : Int32)).toInt64)) * (1099511628211 : Int64)) ^^^ (((f247 (x2 + (2 : Int32))) &&& (255 : Int32)).toInt64)) * (1099511628211 : Int64)).toUInt64 >>> ((33 : Int32) &&& 0x3f).toInt64.toUInt64).toInt64)) * (-49064778989728563 : Int64)).toUInt64 >>> ((33 : Int32) &&& 0x3f).toInt64.toUInt64).toInt64)) * (-4265267296055464877 : Int64)) ^^^ (((((((((((((-3750763034362895579 : Int64) ^^^ (((f247 x2) &&& (255 : Int32)).toInt64)) * (1099511628211 : Int64)) ^^^ (((f247 (x2 + (1 : Int32))) &&& (255 : Int32)).toInt64)) * (1099511628211 : Int64)) ^^^ (((f247 (x2 + (2 : Int32))) &&& (255 : Int32)).toInt64)) * (1099511628211 : Int64)) ^^^ (((((((((-3750763034362895579 : Int64) ^^^ (((f247 x2) &&& (255 : Int32)).toInt64)) * (1099511628211 : Int64)) ^^^ (((f247 (x2 + (1 : Int32))) &&& (255 : Int32)).toInt64)) * (1099511628211 : Int64)) ^^^ (((f247 (x2 + (2 : Int32))) &&& (255 : Int32)).toInt64)) * (1099511628211 : Int64)).toUInt64 >>> ((33 : Int32) &&& 0x3f).toInt64.toUInt64).toInt64)) * (-49064778989728563 : Int64)) ^^^ (((((((((((-3750763034362895579 : Int64) ^^^ (((f247 x2) &&& (255 : Int32)).toInt64)) * (1099511628211 : Int64)) ^^^ (((f247 (x2 + (1 : Int32))) &&& (255 : Int32)).toInt64)) * (1099511628211 : Int64)) ^^^ (((f247 (x2 + (2 : Int32))) &&& (255 : Int32)).toInt64)) * (1099511628211 : Int64)) ^^^ (((((((((-3750763034362895579 : Int64) ^^^ (((f247 x2) &&& (255 : Int32)).toInt64)) * (1099511628211 : Int64)) ^^^ (((f247 (x2 + (1 : Int32))) &&& (255 : Int32)).toInt64)) * (1099511628211 : Int64)) ^^^ (((f247 (x2 + (2 : Int32))) &&& (255 : Int32)).toInt64)) * (1099511628211 : Int64)).toUInt64 >>> ((33 : Int32) &&& 0x3f).toInt64.toUInt64).toInt64)) * (-49064778989728563 : Int64)).toUInt64 >>> ((33 : Int32) &&& 0x3f).toInt64.toUInt64).toInt64)) * (-4265267296055464877 : Int64)).toUInt64 >>> ((33 : Int32) &&& 0x3f).toInt64.toUInt64).toInt64)))])) _
      rw [← hx285]
      show Steps p.tables e below (T284.setTop (mkF m 100 A279 [(.long x285)])) _
      refine XS.lstore X284.here hx rfl (hb hby at_100) rfl (l' := A286) rfl ?_
      show Steps p.tables e below (T284.setTop (mkF m 102 A286 [])) _
      refine XS.aload X284.here hx rfl (hb hby at_102) rfl rfl ?_
      show Steps p.tables e below (T284.setTop (mkF m 104 A286 [(.ref bx1_0_248)])) _
      refine XS.iload X284.here hx rfl (hb hby at_104) rfl ?_
      show Steps p.tables e below (T284.setTop (mkF m 106 A286 [(.int x4), (.ref bx1_0_248)])) _
      refine XS.iload X284.here hx rfl (hb hby at_106) rfl ?_
      show Steps p.tables e below (T284.setTop (mkF m 108 A286 [(.int x4), (.int x4), (.ref bx1_0_248)])) _
      refine XS.iload X284.here hx rfl (hb hby at_108) rfl ?_
      show Steps p.tables e below (T284.setTop (mkF m 110 A286 [(.int (3 : Int32)), (.int x4), (.int x4), (.ref bx1_0_248)])) _
      refine XS.iadd X284.here hx rfl (hb hby at_110) rfl ?_
      show Steps p.tables e below (T284.setTop (mkF m 111 A286 [(.int (x4 + (3 : Int32))), (.int x4), (.ref bx1_0_248)])) _
      refine st288 _ ?_
      show Steps p.tables e below (T288.setTop (mkF m 114 #[.val (.long q0_0), .second, .val (.long q0_1), .second, .val (.long q0_2), .second, .val (.int p0_3), .val (.int p0_4), .val (.int p0_5), .val (.int x2), .val (.int x4), .val (.int (3 : Int32)), .val (.int x8), .val (.ref bx1_0_231), .val (.ref bx1_0_248), .val (.ref bx1_0_265), .val (.long x285), .second, .unset, .unset, .unset, .unset, .unset, .unset] [(.long ((((((((((((-3750763034362895579 : Int64) ^^^ (((f264 x4) &&& (255 : Int32)).toInt64)) * (1099511628211 : Int64)) ^^^ (((f264 (x4 + (1 : Int32))) &&& (255 : Int32)).toInt64)) * (1099511628211 : Int64)) ^^^ (((f264 (x4 + (2 : Int32))) &&& (255 : Int32)).toInt64)) * (1099511628211 : Int64)) ^^^ (((((((((-3750763034362895579 : Int64) ^^^ (((f264 x4) &&& (255 : Int32)).toInt64)) * (1099511628211 : Int64)) ^^^ (((f264 (x4 + (1 : Int32))) &&& (255 : Int32)).toInt64)) * (1099511628211 : Int64)) ^^^ (((f264 (x4 + (2 : Int32))) &&& (255 : Int32)).toInt64)) * (1099511628211 : Int64)).toUInt64 >>> ((33 : Int32) &&& 0x3f).toInt64.toUInt64).toInt64)) * (-49064778989728563 : Int64)) ^^^ (((((((((((-3750763034362895579 : Int64) ^^^ (((f264 x4) &&& (255 : Int32)).toInt64)) * (1099511628211 : Int64)) ^^^ (((f264 (x4 + (1 : Int32))) &&& (255 : Int32)).toInt64)) * (1099511628211 : Int64)) ^^^ (((f264 (x4 + (2 : Int32))) &&& (255 : Int32)).toInt64)) * (1099511628211 : Int64)) ^^^ (((((((((-3750763034362895579 : Int64) ^^^ (((f264 x4) &&& (255 : Int32)).toInt64)) * (1099511628211 : Int64)) ^^^ (((f264 (x4 + (1 : Int32))) &&& (255 : Int32)).toInt64)) * (1099511628211 : Int64)) ^^^ (((f264 (x4 + (2 : Int32))) &&& (255 : Int32)).toInt64)) * (1099511628211 : Int64)).toUInt64 >>> ((33 : Int32) &&& 0x3f).toInt64.toUInt64).toInt64)) * (-49064778989728563 : Int64)).toUInt64 >>> ((33 : Int32) &&& 0x3f).toInt64.toUInt64).toInt64)) * (-4265267296055464877 : Int64)) ^^^ (((((((((((((-3750763034362895579 : Int64) ^^^ (((f264 x4) &&& (255 : Int32)).toInt64)) * (1099511628211 : Int64)) ^^^ (((f264 (x4 + (1 : Int32))) &&& (255 : Int32)).toInt64)) * (1099511628211 : Int64)) ^^^ (((f264 (x4 + (2 : Int32))) &&& (255 : Int32)).toInt64)) * (1099511628211 : Int64)) ^^^ (((((((((-3750763034362895579 : Int64) ^^^ (((f264 x4) &&& (255 : Int32)).toInt64)) * (1099511628211 : Int64)) ^^^ (((f264 (x4 + (1 : Int32))) &&& (255 : Int32)).toInt64)) * (1099511628211 : Int64)) ^^^ (((f264 (x4 + (2 : Int32))) &&& (255 : Int32)).toInt64)) * (1099511628211 : Int64)).toUInt64 >>> ((33 : Int32) &&& 0x3f).toInt64.toUInt64).toInt64)) * (-49064778989728563 : Int64)) ^^^ (((((((((((-3750763034362895579 : Int64) ^^^ (((f264 x4) &&& (255 : Int32)).toInt64)) * (1099511628211 : Int64)) ^^^ (((f264 (x4 + (1 : Int32))) &&& (255 : Int32)).toInt64)) * (1099511628211 : Int64)) ^^^ (((f264 (x4 + (2 : Int32))) &&& (255 : Int32)).toInt64)) * (1099511628211 : Int64)) ^^^ (((((((((-3750763034362895579 : Int64) ^^^ (((f264 x4) &&& (255 : Int32)).toInt64)) * (1099511628211 : Int64)) ^^^ (((f264 (x4 + (1 : Int32))) &&& (255 : Int32)).toInt64)) * (1099511628211 : Int64)) ^^^ (((f264 (x4 + (2 : Int32))) &&& (255 : Int32)).toInt64)) * (1099511628211 : Int64)).toUInt64 >>> ((33 : Int32) &&& 0x3f).toInt64.toUInt64).toInt64)) * (-49064778989728563 : Int64)).toUInt64 >>> ((33 : Int32) &&& 0x3f).toInt64.toUInt64).toInt64)) * (-4265267296055464877 : Int64)).toUInt64 >>> ((33 : Int32) &&& 0x3f).toInt64.toUInt64).toInt64)))])) _
      rw [← hx289]
      show Steps p.tables e below (T288.setTop (mkF m 114 A286 [(.long x289)])) _
      refine XS.lstore X288.here hx rfl (hb hby at_114) rfl (l' := A290) rfl ?_
      show Steps p.tables e below (T288.setTop (mkF m 116 A290 [])) _
      refine XS.lload X288.here hx rfl (hb hby at_116) rfl ?_
      show Steps p.tables e below (T288.setTop (mkF m 118 A290 [(.long x285)])) _
      refine XS.lload X288.here hx rfl (hb hby at_118) rfl ?_
      show Steps p.tables e below (T288.setTop (mkF m 120 A290 [(.long x289), (.long x285)])) _
      refine XS.lcmp X288.here hx rfl (hb hby at_120) rfl ?_
      exact k
    obtain ⟨v293, hv293⟩ : ∃ z : Int32, z = (if x285 = x289 then (1 : Int32) else (0 : Int32)) := ⟨_, rfl⟩
    obtain ⟨T294, Lo294, X294, N294, e294, G294⟩ := own_join X288 N288 (h := T281.heap) (mkF m 121 A290 [(.int (lcmpW x285 x289))]) (mkF m 129 A290 [(.int v293)]) (by
      by_cases h121_292 : x285 = x289
      · refine ⟨T288, _, X288, N288, e288, fun t k => ?_⟩
        rw [show v293 = (1 : Int32) from hv293.trans (if_pos h121_292)] at k
        show Steps p.tables e below (T288.setTop (mkF m 121 A290 [(.int (lcmpW x285 x289))])) _
        refine XS.ifNo X288.here hx rfl (hb hby at_121) rfl ((if0 _ _).trans (teq ((lw_eq _ _).mpr h121_292)).2) ?_
        show Steps p.tables e below (T288.setTop (mkF m 124 A290 [])) _
        refine XS.iconst X288.here hx rfl (hb hby at_124) ?_
        show Steps p.tables e below (T288.setTop (mkF m 125 A290 [(.int (1 : Int32))])) _
        refine XS.goto X288.here hx rfl (pc0 := 125) (pc' := 129) rfl (hb hby at_125) (by decide) (by decide) ?_
        exact k
      · refine ⟨T288, _, X288, N288, e288, fun t k => ?_⟩
        rw [show v293 = (0 : Int32) from hv293.trans (if_neg h121_292)] at k
        show Steps p.tables e below (T288.setTop (mkF m 121 A290 [(.int (lcmpW x285 x289))])) _
        refine XS.ifYes X288.here hx rfl (pc0 := 121) (pc' := 128) rfl (hb hby at_121) rfl ((if0 _ _).trans (feq (fun q => h121_292 ((lw_eq _ _).mp q))).2) (by decide) (by decide) ?_
        show Steps p.tables e below (T288.setTop (mkF m 128 A290 [])) _
        refine XS.iconst X288.here hx rfl (hb hby at_128) ?_
        exact k)
    let A295 : Array Slot := #[.val (.long q0_0), .second, .val (.long q0_1), .second, .val (.long q0_2), .second, .val (.int p0_3), .val (.int p0_4), .val (.int p0_5), .val (.int x2), .val (.int x4), .val (.int (3 : Int32)), .val (.int x8), .val (.ref bx1_0_231), .val (.ref bx1_0_248), .val (.ref bx1_0_265), .val (.long x285), .second, .val (.long x289), .second, .val (.int v293), .unset, .unset, .unset]
    obtain ⟨x296, hx296⟩ : ∃ z : Int32, z = ((x4 + (3 : Int32)) - (1 : Int32)) := ⟨_, rfl⟩
    let A297 : Array Slot := #[.val (.long q0_0), .second, .val (.long q0_1), .second, .val (.long q0_2), .second, .val (.int p0_3), .val (.int p0_4), .val (.int p0_5), .val (.int x2), .val (.int x4), .val (.int (3 : Int32)), .val (.int x8), .val (.ref bx1_0_231), .val (.ref bx1_0_248), .val (.ref bx1_0_265), .val (.long x285), .second, .val (.long x289), .second, .val (.int v293), .val (.int x296), .unset, .unset]
    obtain ⟨cl298, Ar298, Sz298, Hh298⟩ := id P281_0
    obtain ⟨cl299, Ar299, Sz299, Hh299⟩ := id P281_0
    obtain ⟨T300, h300, X300, e300, W300, st300⟩ := stB X294 hx hZ e294 Ar299 (j := x296) (inb_of Sz299 (hx296 ▸ (own_last (hx4 ▸ own_m7 ((p0_3.toUInt32 >>> ((3 : Int32) &&& 31).toUInt32).toInt32)) (c := (3 : Int32)) (d := (2 : Int32)) (by decide) (by decide)))) (g := (mkF m 161 A297 [(.int (((f282 x296) ^^^ x8).toInt8.toInt32)), (.int x296), (.ref bx1_0_265)])) rfl rfl (hb hby at_161)
    have B300 := Bya.set Ar299 Sz299 Hh299 (hx296 ▸ (own_last (hx4 ▸ own_m7 ((p0_3.toUInt32 >>> ((3 : Int32) &&& 31).toUInt32).toInt32)) (c := (3 : Int32)) (d := (2 : Int32)) (by decide) (by decide))) W300
    obtain ⟨f301, hf301⟩ : ∃ g : Int32 → Int32, g = (fun i => if i = x296 then (nar .byte (((f282 x296) ^^^ x8).toInt8.toInt32)) else f282 i) := ⟨_, rfl⟩
    rw [← hf301] at B300
    have K300 : Keep h0 h300 [] := K281.wr W300 (Or.inr sz_bx1_0_265)
    have Z300 : n0 ≤ h300.size := Nat.le_trans Z0 K300.1
    have N300 := Fr.snoc X300 N294 g_bx1_0_265
    obtain ⟨_, _, ⟨T302, L302, k302, n302⟩, -, X302, ⟨Lc302, hQ302, l302, y302, z302⟩, st302⟩ := Jvm.LawKit.callS X300 hx (y := (⟨"com/example/mortise/mortise/join/Record", "keyHash", "([BII)J"⟩ : MethodName)) hown (mvT hZ (ow9 hw)) (mvT hZ (ow10 hw)) (mvT hZ (ow11 hw)) (mvT hZ (ow12 hw)) (by decide) (backOf (W := 0) (rm3_l3 l Z a0 hw [] bx1_0_265 x4 f301 h300 n0 Z300 (hx4 ▸ own_m7 ((p0_3.toUInt32 >>> ((3 : Int32) &&& 31).toUInt32).toInt32)) B300) hZ (ow12 hw) (ow11 hw) (by decide) (by decide)) (g := (mkF m 171 A297 [(.int (x4 + (3 : Int32))), (.int x4), (.ref bx1_0_265)])) rfl (by rw [hml]; rfl) (argsL := [(.ref bx1_0_265), (.int x4), (.int (x4 + (3 : Int32)))]) (rest := []) (lenOf pd___BII_J rfl) rfl (by show 2 * 0 + _ ≤ _; exact Nat.le_of_eq rfl) (hb hby at_171) (fun _ _ => ⟨rfl, e300, (by decide : 3 + 0 ≤ _), (by decide : 36 + 0 ≤ _)⟩)
    dsimp only [Pt.U, Pt.locs, Pt.cells, Pt.slots] at X302 l302 y302 z302 st302 hQ302
    subst l302 y302 z302
    obtain ⟨rfl, Nq302, e302⟩ := hQ302
    have N302 := Fr.app N300 Nq302
    obtain ⟨x303, hx303⟩ : ∃ z : Int64, z = ((((((((((((-3750763034362895579 : Int64) ^^^ (((f301 x4) &&& (255 : Int32)).toInt64)) * (1099511628211 : Int64)) ^^^ (((f301 (x4 + (1 : Int32))) &&& (255 : Int32)).toInt64)) * (1099511628211 : Int64)) ^^^ (((f301 (x4 + (2 : Int32))) &&& (255 : Int32)).toInt64)) * (1099511628211 : Int64)) ^^^ (((((((((-3750763034362895579 : Int64) ^^^ (((f301 x4) &&& (255 : Int32)).toInt64)) * (1099511628211 : Int64)) ^^^ (((f301 (x4 + (1 : Int32))) &&& (255 : Int32)).toInt64)) * (1099511628211 : Int64)) ^^^ (((f301 (x4 + (2 : Int32))) &&& (255 : Int32)).toInt64)) * (1099511628211 : Int64)).toUInt64 >>> ((33 : Int32) &&& 0x3f).toInt64.toUInt64).toInt64)) * (-49064778989728563 : Int64)) ^^^ (((((((((((-3750763034362895579 : Int64) ^^^ (((f301 x4) &&& (255 : Int32)).toInt64)) * (1099511628211 : Int64)) ^^^ (((f301 (x4 + (1 : Int32))) &&& (255 : Int32)).toInt64)) * (1099511628211 : Int64)) ^^^ (((f301 (x4 + (2 : Int32))) &&& (255 : Int32)).toInt64)) * (1099511628211 : Int64)) ^^^ (((((((((-3750763034362895579 : Int64) ^^^ (((f301 x4) &&& (255 : Int32)).toInt64)) * (1099511628211 : Int64)) ^^^ (((f301 (x4 + (1 : Int32))) &&& (255 : Int32)).toInt64)) * (1099511628211 : Int64)) ^^^ (((f301 (x4 + (2 : Int32))) &&& (255 : Int32)).toInt64)) * (1099511628211 : Int64)).toUInt64 >>> ((33 : Int32) &&& 0x3f).toInt64.toUInt64).toInt64)) * (-49064778989728563 : Int64)).toUInt64 >>> ((33 : Int32) &&& 0x3f).toInt64.toUInt64).toInt64)) * (-4265267296055464877 : Int64)) ^^^ (((((((((((((-3750763034362895579 : Int64) ^^^ (((f301 x4) &&& (255 : Int32)).toInt64)) * (1099511628211 : Int64)) ^^^ (((f301 (x4 + (1 : Int32))) &&& (255 : Int32)).toInt64)) * (1099511628211 : Int64)) ^^^ (((f301 (x4 + (2 : Int32))) &&& (255 : Int32)).toInt64)) * (1099511628211 : Int64)) ^^^ (((((((((-3750763034362895579 : Int64) ^^^ (((f301 x4) &&& (255 : Int32)).toInt64)) * (1099511628211 : Int64)) ^^^ (((f301 (x4 + (1 : Int32))) &&& (255 : Int32)).toInt64)) * (1099511628211 : Int64)) ^^^ (((f301 (x4 + (2 : Int32))) &&& (255 : Int32)).toInt64)) * (1099511628211 : Int64)).toUInt64 >>> ((33 : Int32) &&& 0x3f).toInt64.toUInt64).toInt64)) * (-49064778989728563 : Int64)) ^^^ (((((((((((-3750763034362895579 : Int64) ^^^ (((f301 x4) &&& (255 : Int32)).toInt64)) * (1099511628211 : Int64)) ^^^ (((f301 (x4 + (1 : Int32))) &&& (255 : Int32)).toInt64)) * (1099511628211 : Int64)) ^^^ (((f301 (x4 + (2 : Int32))) &&& (255 : Int32)).toInt64)) * (1099511628211 : Int64)) ^^^ (((((((((-3750763034362895579 : Int64) ^^^ (((f301 x4) &&& (255 : Int32)).toInt64)) * (1099511628211 : Int64)) ^^^ (((f301 (x4 + (1 : Int32))) &&& (255 : Int32)).toInt64)) * (1099511628211 : Int64)) ^^^ (((f301 (x4 + (2 : Int32))) &&& (255 : Int32)).toInt64)) * (1099511628211 : Int64)).toUInt64 >>> ((33 : Int32) &&& 0x3f).toInt64.toUInt64).toInt64)) * (-49064778989728563 : Int64)).toUInt64 >>> ((33 : Int32) &&& 0x3f).toInt64.toUInt64).toInt64)) * (-4265267296055464877 : Int64)).toUInt64 >>> ((33 : Int32) &&& 0x3f).toInt64.toUInt64).toInt64)) := ⟨_, rfl⟩
    let A304 : Array Slot := #[.val (.long q0_0), .second, .val (.long q0_1), .second, .val (.long q0_2), .second, .val (.int p0_3), .val (.int p0_4), .val (.int p0_5), .val (.int x2), .val (.int x4), .val (.int (3 : Int32)), .val (.int x8), .val (.ref bx1_0_231), .val (.ref bx1_0_248), .val (.ref bx1_0_265), .val (.long x285), .second, .val (.long x289), .second, .val (.int v293), .val (.int x296), .val (.long x303), .second]
    have G305 : ∀ t, Steps p.tables e below (T302.setTop (mkF m 178 A304 [(.int v293)])) t → Steps p.tables e below (T294.setTop (mkF m 129 A290 [(.int v293)])) t := by
      intro t k
      show Steps p.tables e below (T294.setTop (mkF m 129 A290 [(.int v293)])) _
      refine XS.istore X294.here hx rfl (hb hby at_129) rfl (l' := A295) rfl ?_
      show Steps p.tables e below (T294.setTop (mkF m 131 A295 [])) _
      refine XS.iload X294.here hx rfl (hb hby at_131) rfl ?_
      show Steps p.tables e below (T294.setTop (mkF m 133 A295 [(.int (3 : Int32))])) _
      refine XS.ifYes X294.here hx rfl (pc0 := 133) (pc' := 139) rfl (hb hby at_133) rfl ((if0 _ _).trans (feq (by decide : ¬ ((3 : Int32) = (0 : Int32)))).2) (by decide) (by decide) ?_
      show Steps p.tables e below (T294.setTop (mkF m 139 A295 [])) _
      refine XS.iload X294.here hx rfl (hb hby at_139) rfl ?_
      show Steps p.tables e below (T294.setTop (mkF m 141 A295 [(.int x4)])) _
      refine XS.iload X294.here hx rfl (hb hby at_141) rfl ?_
      show Steps p.tables e below (T294.setTop (mkF m 143 A295 [(.int (3 : Int32)), (.int x4)])) _
      refine XS.iadd X294.here hx rfl (hb hby at_143) rfl ?_
      show Steps p.tables e below (T294.setTop (mkF m 144 A295 [(.int (x4 + (3 : Int32)))])) _
      refine XS.iconst X294.here hx rfl (hb hby at_144) ?_
      show Steps p.tables e below (T294.setTop (mkF m 145 A295 [(.int (1 : Int32)), (.int (x4 + (3 : Int32)))])) _
      refine XS.isub X294.here hx rfl (hb hby at_145) rfl ?_
      show Steps p.tables e below (T294.setTop (mkF m 146 A295 [(.int ((x4 + (3 : Int32)) - (1 : Int32)))])) _
      refine XS.istore X294.here hx rfl (hb hby at_146) rfl (l' := #[.val (.long q0_0), .second, .val (.long q0_1), .second, .val (.long q0_2), .second, .val (.int p0_3), .val (.int p0_4), .val (.int p0_5), .val (.int x2), .val (.int x4), .val (.int (3 : Int32)), .val (.int x8), .val (.ref bx1_0_231), .val (.ref bx1_0_248), .val (.ref bx1_0_265), .val (.long x285), .second, .val (.long x289), .second, .val (.int v293), .val (.int ((x4 + (3 : Int32)) - (1 : Int32))), .unset, .unset]) rfl ?_
      show Steps p.tables e below (T294.setTop (mkF m 148 #[.val (.long q0_0), .second, .val (.long q0_1), .second, .val (.long q0_2), .second, .val (.int p0_3), .val (.int p0_4), .val (.int p0_5), .val (.int x2), .val (.int x4), .val (.int (3 : Int32)), .val (.int x8), .val (.ref bx1_0_231), .val (.ref bx1_0_248), .val (.ref bx1_0_265), .val (.long x285), .second, .val (.long x289), .second, .val (.int v293), .val (.int ((x4 + (3 : Int32)) - (1 : Int32))), .unset, .unset] [])) _
      rw [← hx296]
      show Steps p.tables e below (T294.setTop (mkF m 148 A297 [])) _
      refine XS.aload X294.here hx rfl (hb hby at_148) rfl rfl ?_
      show Steps p.tables e below (T294.setTop (mkF m 150 A297 [(.ref bx1_0_265)])) _
      refine XS.iload X294.here hx rfl (hb hby at_150) rfl ?_
      show Steps p.tables e below (T294.setTop (mkF m 152 A297 [(.int x296), (.ref bx1_0_265)])) _
      refine XS.aload X294.here hx rfl (hb hby at_152) rfl rfl ?_
      show Steps p.tables e below (T294.setTop (mkF m 154 A297 [(.ref bx1_0_265), (.int x296), (.ref bx1_0_265)])) _
      refine XS.iload X294.here hx rfl (hb hby at_154) rfl ?_
      show Steps p.tables e below (T294.setTop (mkF m 156 A297 [(.int x296), (.ref bx1_0_265), (.int x296), (.ref bx1_0_265)])) _
      refine X294.baloadBytes hx (j := x296) (v := (.int (f282 x296))) (by rw [e294]; exact Ar298.1) (State.isArrayOf_alike hZ.alike Ar298.2.1) Ar298.2.2 (inb_of Sz298 (hx296 ▸ (own_last (hx4 ▸ own_m7 ((p0_3.toUInt32 >>> ((3 : Int32) &&& 31).toUInt32).toInt32)) (c := (3 : Int32)) (d := (2 : Int32)) (by decide) (by decide)))) (Hh298 _ (hx296 ▸ (own_last (hx4 ▸ own_m7 ((p0_3.toUInt32 >>> ((3 : Int32) &&& 31).toUInt32).toInt32)) (c := (3 : Int32)) (d := (2 : Int32)) (by decide) (by decide))).1 (hx296 ▸ (own_last (hx4 ▸ own_m7 ((p0_3.toUInt32 >>> ((3 : Int32) &&& 31).toUInt32).toInt32)) (c := (3 : Int32)) (d := (2 : Int32)) (by decide) (by decide))).2) (g := (mkF m 156 A297 [(.int x296), (.ref bx1_0_265), (.int x296), (.ref bx1_0_265)])) rfl rfl (hb hby at_156) _ ?_
      show Steps p.tables e below (T294.setTop (mkF m 157 A297 [(.int (f282 x296)), (.int x296), (.ref bx1_0_265)])) _
      refine XS.iload X294.here hx rfl (hb hby at_157) rfl ?_
      show Steps p.tables e below (T294.setTop (mkF m 159 A297 [(.int x8), (.int (f282 x296)), (.int x296), (.ref bx1_0_265)])) _
      refine XS.ixor X294.here hx rfl (hb hby at_159) rfl ?_
      show Steps p.tables e below (T294.setTop (mkF m 160 A297 [(.int ((f282 x296) ^^^ x8)), (.int x296), (.ref bx1_0_265)])) _
      refine XS.i2b X294.here hx rfl (hb hby at_160) rfl ?_
      show Steps p.tables e below (T294.setTop (mkF m 161 A297 [(.int (((f282 x296) ^^^ x8).toInt8.toInt32)), (.int x296), (.ref bx1_0_265)])) _
      refine st300 _ ?_
      show Steps p.tables e below (T300.setTop (mkF m 162 A297 [])) _
      refine XS.aload X300.here hx rfl (hb hby at_162) rfl rfl ?_
      show Steps p.tables e below (T300.setTop (mkF m 164 A297 [(.ref bx1_0_265)])) _
      refine XS.iload X300.here hx rfl (hb hby at_164) rfl ?_
      show Steps p.tables e below (T300.setTop (mkF m 166 A297 [(.int x4), (.ref bx1_0_265)])) _
      refine XS.iload X300.here hx rfl (hb hby at_166) rfl ?_
      show Steps p.tables e below (T300.setTop (mkF m 168 A297 [(.int x4), (.int x4), (.ref bx1_0_265)])) _
      refine XS.iload X300.here hx rfl (hb hby at_168) rfl ?_
      show Steps p.tables e below (T300.setTop (mkF m 170 A297 [(.int (3 : Int32)), (.int x4), (.int x4), (.ref bx1_0_265)])) _
      refine XS.iadd X300.here hx rfl (hb hby at_170) rfl ?_
      show Steps p.tables e below (T300.setTop (mkF m 171 A297 [(.int (x4 + (3 : Int32))), (.int x4), (.ref bx1_0_265)])) _
      refine st302 _ ?_
      show Steps p.tables e below (T302.setTop (mkF m 174 #[.val (.long q0_0), .second, .val (.long q0_1), .second, .val (.long q0_2), .second, .val (.int p0_3), .val (.int p0_4), .val (.int p0_5), .val (.int x2), .val (.int x4), .val (.int (3 : Int32)), .val (.int x8), .val (.ref bx1_0_231), .val (.ref bx1_0_248), .val (.ref bx1_0_265), .val (.long x285), .second, .val (.long x289), .second, .val (.int v293), .val (.int x296), .unset, .unset] [(.long ((((((((((((-3750763034362895579 : Int64) ^^^ (((f301 x4) &&& (255 : Int32)).toInt64)) * (1099511628211 : Int64)) ^^^ (((f301 (x4 + (1 : Int32))) &&& (255 : Int32)).toInt64)) * (1099511628211 : Int64)) ^^^ (((f301 (x4 + (2 : Int32))) &&& (255 : Int32)).toInt64)) * (1099511628211 : Int64)) ^^^ (((((((((-3750763034362895579 : Int64) ^^^ (((f301 x4) &&& (255 : Int32)).toInt64)) * (1099511628211 : Int64)) ^^^ (((f301 (x4 + (1 : Int32))) &&& (255 : Int32)).toInt64)) * (1099511628211 : Int64)) ^^^ (((f301 (x4 + (2 : Int32))) &&& (255 : Int32)).toInt64)) * (1099511628211 : Int64)).toUInt64 >>> ((33 : Int32) &&& 0x3f).toInt64.toUInt64).toInt64)) * (-49064778989728563 : Int64)) ^^^ (((((((((((-3750763034362895579 : Int64) ^^^ (((f301 x4) &&& (255 : Int32)).toInt64)) * (1099511628211 : Int64)) ^^^ (((f301 (x4 + (1 : Int32))) &&& (255 : Int32)).toInt64)) * (1099511628211 : Int64)) ^^^ (((f301 (x4 + (2 : Int32))) &&& (255 : Int32)).toInt64)) * (1099511628211 : Int64)) ^^^ (((((((((-3750763034362895579 : Int64) ^^^ (((f301 x4) &&& (255 : Int32)).toInt64)) * (1099511628211 : Int64)) ^^^ (((f301 (x4 + (1 : Int32))) &&& (255 : Int32)).toInt64)) * (1099511628211 : Int64)) ^^^ (((f301 (x4 + (2 : Int32))) &&& (255 : Int32)).toInt64)) * (1099511628211 : Int64)).toUInt64 >>> ((33 : Int32) &&& 0x3f).toInt64.toUInt64).toInt64)) * (-49064778989728563 : Int64)).toUInt64 >>> ((33 : Int32) &&& 0x3f).toInt64.toUInt64).toInt64)) * (-4265267296055464877 : Int64)) ^^^ (((((((((((((-3750763034362895579 : Int64) ^^^ (((f301 x4) &&& (255 : Int32)).toInt64)) * (1099511628211 : Int64)) ^^^ (((f301 (x4 + (1 : Int32))) &&& (255 : Int32)).toInt64)) * (1099511628211 : Int64)) ^^^ (((f301 (x4 + (2 : Int32))) &&& (255 : Int32)).toInt64)) * (1099511628211 : Int64)) ^^^ (((((((((-3750763034362895579 : Int64) ^^^ (((f301 x4) &&& (255 : Int32)).toInt64)) * (1099511628211 : Int64)) ^^^ (((f301 (x4 + (1 : Int32))) &&& (255 : Int32)).toInt64)) * (1099511628211 : Int64)) ^^^ (((f301 (x4 + (2 : Int32))) &&& (255 : Int32)).toInt64)) * (1099511628211 : Int64)).toUInt64 >>> ((33 : Int32) &&& 0x3f).toInt64.toUInt64).toInt64)) * (-49064778989728563 : Int64)) ^^^ (((((((((((-3750763034362895579 : Int64) ^^^ (((f301 x4) &&& (255 : Int32)).toInt64)) * (1099511628211 : Int64)) ^^^ (((f301 (x4 + (1 : Int32))) &&& (255 : Int32)).toInt64)) * (1099511628211 : Int64)) ^^^ (((f301 (x4 + (2 : Int32))) &&& (255 : Int32)).toInt64)) * (1099511628211 : Int64)) ^^^ (((((((((-3750763034362895579 : Int64) ^^^ (((f301 x4) &&& (255 : Int32)).toInt64)) * (1099511628211 : Int64)) ^^^ (((f301 (x4 + (1 : Int32))) &&& (255 : Int32)).toInt64)) * (1099511628211 : Int64)) ^^^ (((f301 (x4 + (2 : Int32))) &&& (255 : Int32)).toInt64)) * (1099511628211 : Int64)).toUInt64 >>> ((33 : Int32) &&& 0x3f).toInt64.toUInt64).toInt64)) * (-49064778989728563 : Int64)).toUInt64 >>> ((33 : Int32) &&& 0x3f).toInt64.toUInt64).toInt64)) * (-4265267296055464877 : Int64)).toUInt64 >>> ((33 : Int32) &&& 0x3f).toInt64.toUInt64).toInt64)))])) _
      rw [← hx303]
      show Steps p.tables e below (T302.setTop (mkF m 174 A297 [(.long x303)])) _
      refine XS.lstore X302.here hx rfl (hb hby at_174) rfl (l' := A304) rfl ?_
      show Steps p.tables e below (T302.setTop (mkF m 176 A304 [])) _
      refine XS.iload X302.here hx rfl (hb hby at_176) rfl ?_
      exact k
    obtain ⟨v309, hv309⟩ : ∃ z : Int32, z = (if v293 = (0 : Int32) then (0 : Int32) else (if x303 = x289 then (0 : Int32) else (1 : Int32))) := ⟨_, rfl⟩
    obtain ⟨T310, Lo310, X310, N310, e310, G310⟩ := own_join X302 N302 (h := h300) (mkF m 178 A304 [(.int v293)]) (mkF m 194 A304 [(.int v309)]) (by
      by_cases h178_306 : v293 = (0 : Int32)
      · refine ⟨T302, _, X302, N302, e302, fun t k => ?_⟩
        rw [show v309 = (0 : Int32) from hv309.trans (if_pos h178_306)] at k
        show Steps p.tables e below (T302.setTop (mkF m 178 A304 [(.int v293)])) _
        refine XS.ifYes X302.here hx rfl (pc0 := 178) (pc' := 193) rfl (hb hby at_178) rfl ((if0 _ _).trans (teq h178_306).1) (by decide) (by decide) ?_
        show Steps p.tables e below (T302.setTop (mkF m 193 A304 [])) _
        refine XS.iconst X302.here hx rfl (hb hby at_193) ?_
        exact k
      · have G307 : ∀ t, Steps p.tables e below (T302.setTop (mkF m 186 A304 [(.int (lcmpW x303 x289))])) t → Steps p.tables e below (T302.setTop (mkF m 178 A304 [(.int v293)])) t := by
          intro t k
          show Steps p.tables e below (T302.setTop (mkF m 178 A304 [(.int v293)])) _
          refine XS.ifNo X302.here hx rfl (hb hby at_178) rfl ((if0 _ _).trans (feq h178_306).1) ?_
          show Steps p.tables e below (T302.setTop (mkF m 181 A304 [])) _
          refine XS.lload X302.here hx rfl (hb hby at_181) rfl ?_
          show Steps p.tables e below (T302.setTop (mkF m 183 A304 [(.long x303)])) _
          refine XS.lload X302.here hx rfl (hb hby at_183) rfl ?_
          show Steps p.tables e below (T302.setTop (mkF m 185 A304 [(.long x289), (.long x303)])) _
          refine XS.lcmp X302.here hx rfl (hb hby at_185) rfl ?_
          exact k
        by_cases h186_308 : x303 = x289
        · refine ⟨T302, _, X302, N302, e302, fun t k => ?_⟩
          rw [show v309 = (0 : Int32) from hv309.trans ((if_neg h178_306).trans (if_pos h186_308))] at k
          refine G307 _ ?_
          show Steps p.tables e below (T302.setTop (mkF m 186 A304 [(.int (lcmpW x303 x289))])) _
          refine XS.ifYes X302.here hx rfl (pc0 := 186) (pc' := 193) rfl (hb hby at_186) rfl ((if0 _ _).trans (teq ((lw_eq _ _).mpr h186_308)).1) (by decide) (by decide) ?_
          show Steps p.tables e below (T302.setTop (mkF m 193 A304 [])) _
          refine XS.iconst X302.here hx rfl (hb hby at_193) ?_
          exact k
        · refine ⟨T302, _, X302, N302, e302, fun t k => ?_⟩
          rw [show v309 = (1 : Int32) from hv309.trans ((if_neg h178_306).trans (if_neg h186_308))] at k
          refine G307 _ ?_
          show Steps p.tables e below (T302.setTop (mkF m 186 A304 [(.int (lcmpW x303 x289))])) _
          refine XS.ifNo X302.here hx rfl (hb hby at_186) rfl ((if0 _ _).trans (feq (fun q => h186_308 ((lw_eq _ _).mp q))).1) ?_
          show Steps p.tables e below (T302.setTop (mkF m 189 A304 [])) _
          refine XS.iconst X302.here hx rfl (hb hby at_189) ?_
          show Steps p.tables e below (T302.setTop (mkF m 190 A304 [(.int (1 : Int32))])) _
          refine XS.goto X302.here hx rfl (pc0 := 190) (pc' := 194) rfl (hb hby at_190) (by decide) (by decide) ?_
          exact k)
    have fin : v309 = (1 : Int32) := by
      exact own_fin3 q0_0 q0_1 q0_2 p0_3 p0_4 p0_5 x2 hx2 x4 hx4 x6 hx6 x8 hx8 y232 hy232 y233 hy233 y234 hy234 y235 hy235 y236 hy236 y237 hy237 y238 hy238 y239 hy239 y240 hy240 y241 hy241 y242 hy242 y243 hy243 f245 hf245 f247 hf247 y249 hy249 y250 hy250 y251 hy251 y252 hy252 y253 hy253 y254 hy254 y255 hy255 y256 hy256 y257 hy257 y258 hy258 y259 hy259 y260 hy260 f262 hf262 f264 hf264 y267 hy267 y268 hy268 y269 hy269 y270 hy270 y271 hy271 y272 hy272 y273 hy273 y274 hy274 y275 hy275 y276 hy276 y277 hy277 y278 hy278 f280 hf280 f282 hf282 x285 hx285 x289 hx289 v293 hv293 x296 hx296 f301 hf301 x303 hx303 v309 hv309 hc14
    obtain ⟨fs, hr, hrun, hended, hW, hsame⟩ := X310.leave (v := some (.int (1 : Int32))) (fun h => by rw [Bd.returns] at h; cases h)
    refine ⟨_, _, pre0 _ ?_, hrun, hended, _, _, rfl, ?_, ⟨_, rfl⟩, hW, hsame.mono (by decide) (by decide)⟩
    · refine G10 _ ?_
      refine G291 _ ?_
      refine G294 _ ?_
      refine G305 _ ?_
      refine G310 _ ?_
      show Steps p.tables e below (T310.setTop (mkF m 194 A304 [(.int v309)])) _
      rw [fin]
      exact retN X310 hx (t := .boolean) Bd.returns (by simp) (hb hby at_194) hr
    · exact ⟨rfl, N310⟩
  · let A311 : Array Slot := #[.val (.long q0_0), .second, .val (.long q0_1), .second, .val (.long q0_2), .second, .val (.int p0_3), .val (.int p0_4), .val (.int p0_5), .val (.int x2), .val (.int x4), .val (.int (4 : Int32)), .val (.int x8), .unset, .unset, .unset, .unset, .unset, .unset, .unset, .unset, .unset, .unset, .unset]
    have own_t15 : True := trivial
    obtain ⟨_, _, ⟨T312, L312, k312, n312⟩, -, X312, ⟨Lc312, hQ312, l312, y312, z312⟩, st312⟩ := Jvm.LawKit.callS X0 hx (y := (⟨"com/example/mortise/mortise/join/RecordKeyHashPinLaw", "fill", "(J)[B"⟩ : MethodName)) hown (mvT hZ (ow1 hw)) (mvT hZ (ow2 hw)) (mvT hZ (ow3 hw)) (mvT hZ (ow4 hw)) (by decide) (backOf (W := 0) (rm1 l Z a0 hw [] q0_1 h0 n0 Z0 ) hZ (ow4 hw) (ow3 hw) (by decide) (by decide)) (g := (mkF m 39 A311 [(.long q0_1)])) rfl (by rw [hml]; rfl) (argsL := [(.long q0_1)]) (rest := []) (lenOf pd__J__B rfl) rfl (by show 2 * 0 + _ ≤ _; exact Nat.le_of_eq rfl) (hb hby at_39) (fun _ _ => ⟨rfl, e0, (by decide : 0 + 1 ≤ _), (by decide : 0 + 12 ≤ _)⟩)
    dsimp only [Pt.U, Pt.locs, Pt.cells, Pt.slots] at X312 l312 y312 z312 st312 hQ312
    subst l312 y312 z312
    obtain ⟨bx1_0_312, kx1_0_312, rfl, Nq312, Kc312, P312_0, P312_1⟩ := hQ312
    have K312 : Keep h0 T312.heap [] := Keep.trans (Keep.refl h0 []) Kc312 all0
    have Z312 : n0 ≤ T312.heap.size := Nat.le_trans Z0 K312.1
    have g_bx1_0_312 : n0 ≤ bx1_0_312 := Nat.le_trans Z0 P312_0
    have sz_bx1_0_312 : h0.size ≤ bx1_0_312 := Nat.le_trans (Nat.le_refl _) P312_0
    obtain ⟨y313, hy313⟩ : ∃ z : Int32, z = (nar .byte ((q0_1.toInt32).toInt8.toInt32)) := ⟨_, rfl⟩
    rw [← hy313] at P312_1
    obtain ⟨y314, hy314⟩ : ∃ z : Int32, z = (nar .byte ((((q0_1.toUInt64 >>> ((8 : Int32) &&& 0x3f).toInt64.toUInt64).toInt64).toInt32).toInt8.toInt32)) := ⟨_, rfl⟩
    rw [← hy314] at P312_1
    obtain ⟨y315, hy315⟩ : ∃ z : Int32, z = (nar .byte ((((q0_1.toUInt64 >>> ((16 : Int32) &&& 0x3f).toInt64.toUInt64).toInt64).toInt32).toInt8.toInt32)) := ⟨_, rfl⟩
    rw [← hy315] at P312_1
    obtain ⟨y316, hy316⟩ : ∃ z : Int32, z = (nar .byte ((((q0_1.toUInt64 >>> ((24 : Int32) &&& 0x3f).toInt64.toUInt64).toInt64).toInt32).toInt8.toInt32)) := ⟨_, rfl⟩
    rw [← hy316] at P312_1
    obtain ⟨y317, hy317⟩ : ∃ z : Int32, z = (nar .byte ((((q0_1.toUInt64 >>> ((32 : Int32) &&& 0x3f).toInt64.toUInt64).toInt64).toInt32).toInt8.toInt32)) := ⟨_, rfl⟩
    rw [← hy317] at P312_1
    obtain ⟨y318, hy318⟩ : ∃ z : Int32, z = (nar .byte ((((q0_1.toUInt64 >>> ((40 : Int32) &&& 0x3f).toInt64.toUInt64).toInt64).toInt32).toInt8.toInt32)) := ⟨_, rfl⟩
    rw [← hy318] at P312_1
    obtain ⟨y319, hy319⟩ : ∃ z : Int32, z = (nar .byte ((((q0_1.toUInt64 >>> ((48 : Int32) &&& 0x3f).toInt64.toUInt64).toInt64).toInt32).toInt8.toInt32)) := ⟨_, rfl⟩
    rw [← hy319] at P312_1
    obtain ⟨y320, hy320⟩ : ∃ z : Int32, z = (nar .byte ((((q0_1.toUInt64 >>> ((56 : Int32) &&& 0x3f).toInt64.toUInt64).toInt64).toInt32).toInt8.toInt32)) := ⟨_, rfl⟩
    rw [← hy320] at P312_1
    obtain ⟨y321, hy321⟩ : ∃ z : Int32, z = (nar .byte ((((q0_1.toUInt64 >>> ((4 : Int32) &&& 0x3f).toInt64.toUInt64).toInt64).toInt32).toInt8.toInt32)) := ⟨_, rfl⟩
    rw [← hy321] at P312_1
    obtain ⟨y322, hy322⟩ : ∃ z : Int32, z = (nar .byte ((((q0_1.toUInt64 >>> ((12 : Int32) &&& 0x3f).toInt64.toUInt64).toInt64).toInt32).toInt8.toInt32)) := ⟨_, rfl⟩
    rw [← hy322] at P312_1
    obtain ⟨y323, hy323⟩ : ∃ z : Int32, z = (nar .byte ((((q0_1.toUInt64 >>> ((20 : Int32) &&& 0x3f).toInt64.toUInt64).toInt64).toInt32).toInt8.toInt32)) := ⟨_, rfl⟩
    rw [← hy323] at P312_1
    obtain ⟨y324, hy324⟩ : ∃ z : Int32, z = (nar .byte ((((q0_1.toUInt64 >>> ((28 : Int32) &&& 0x3f).toInt64.toUInt64).toInt64).toInt32).toInt8.toInt32)) := ⟨_, rfl⟩
    rw [← hy324] at P312_1
    have N312 := Fr.app N0 Nq312
    let A325 : Array Slot := #[.val (.long q0_0), .second, .val (.long q0_1), .second, .val (.long q0_2), .second, .val (.int p0_3), .val (.int p0_4), .val (.int p0_5), .val (.int x2), .val (.int x4), .val (.int (4 : Int32)), .val (.int x8), .val (.ref bx1_0_312), .unset, .unset, .unset, .unset, .unset, .unset, .unset, .unset, .unset, .unset]
    have Bf326 := Bya.of_arv (es := [y313, y314, y315, y316, y317, y318, y319, y320, y321, y322, y323, y324]) P312_1 rfl
    obtain ⟨f326, hf326⟩ : ∃ g : Int32 → Int32, g = (fun i => ([y313, y314, y315, y316, y317, y318, y319, y320, y321, y322, y323, y324] : List Int32).getD i.toNatClampNeg 0) := ⟨_, rfl⟩
    rw [← hf326] at Bf326
    obtain ⟨_, _, ⟨T327, L327, k327, n327⟩, -, X327, ⟨Lc327, hQ327, l327, y327, z327⟩, st327⟩ := Jvm.LawKit.callS X312 hx (y := (⟨"com/example/mortise/mortise/join/RecordKeyHashPinLaw", "place", "([BIJI)V"⟩ : MethodName)) hown (mvT hZ (ow6 hw)) (mvT hZ (ow7 hw)) (mvT hZ (ow3 hw)) (mvT hZ (ow8 hw)) (by decide) (backOf (W := 0) (rm2_l4 l Z a0 hw [] bx1_0_312 x2 q0_0 f326 T312.heap n0 Z312 (hx2 ▸ own_m7 p0_3) Bf326 g_bx1_0_312) hZ (ow8 hw) (ow3 hw) (by decide) (by decide)) (g := (mkF m 51 A325 [(.int (4 : Int32)), (.long q0_0), (.int x2), (.ref bx1_0_312)])) rfl (by rw [hml]; rfl) (argsL := [(.ref bx1_0_312), (.int x2), (.long q0_0), (.int (4 : Int32))]) (rest := []) (lenOf pd___BIJI_V rfl) rfl (by show 2 * 0 + _ ≤ _; exact Nat.le_of_eq rfl) (hb hby at_51) (fun _ _ => ⟨rfl, rfl, (by decide : 1 + 0 ≤ _), (by decide : 12 + 0 ≤ _)⟩)
    dsimp only [Pt.U, Pt.locs, Pt.cells, Pt.slots] at X327 l327 y327 z327 st327 hQ327
    subst l327 y327 z327
    obtain ⟨rfl, Nq327, Kc327, P327_0⟩ := hQ327
    have K327 : Keep h0 T327.heap [] := Keep.trans K312 Kc327 (allS (P := fun x => x ∈ ([] : List Addr) ∨ h0.size ≤ x) (Or.inr sz_bx1_0_312) all0)
    have Z327 : n0 ≤ T327.heap.size := Nat.le_trans Z0 K327.1
    obtain ⟨f328, hf328⟩ : ∃ g : Int32 → Int32, g = (fun i => if i = (x2 + (3 : Int32)) then (nar .byte ((((q0_0.toUInt64 >>> ((24 : Int32) &&& 0x3f).toInt64.toUInt64).toInt64).toInt32).toInt8.toInt32)) else (fun i => if i = (x2 + (2 : Int32)) then (nar .byte ((((q0_0.toUInt64 >>> ((16 : Int32) &&& 0x3f).toInt64.toUInt64).toInt64).toInt32).toInt8.toInt32)) else (fun i => if i = (x2 + (1 : Int32)) then (nar .byte ((((q0_0.toUInt64 >>> ((8 : Int32) &&& 0x3f).toInt64.toUInt64).toInt64).toInt32).toInt8.toInt32)) else (fun i => if i = x2 then (nar .byte ((q0_0.toInt32).toInt8.toInt32)) else f326 i) i) i) i) := ⟨_, rfl⟩
    rw [← hf328] at P327_0
    have N327 := Fr.app N312 Nq327
    obtain ⟨_, _, ⟨T329, L329, k329, n329⟩, -, X329, ⟨Lc329, hQ329, l329, y329, z329⟩, st329⟩ := Jvm.LawKit.callS X327 hx (y := (⟨"com/example/mortise/mortise/join/RecordKeyHashPinLaw", "fill", "(J)[B"⟩ : MethodName)) hown (mvT hZ (ow1 hw)) (mvT hZ (ow2 hw)) (mvT hZ (ow3 hw)) (mvT hZ (ow4 hw)) (by decide) (backOf (W := 0) (rm1 l Z a0 hw [] q0_2 T327.heap n0 Z327 ) hZ (ow4 hw) (ow3 hw) (by decide) (by decide)) (g := (mkF m 56 A325 [(.long q0_2)])) rfl (by rw [hml]; rfl) (argsL := [(.long q0_2)]) (rest := []) (lenOf pd__J__B rfl) rfl (by show 2 * 0 + _ ≤ _; exact Nat.le_of_eq rfl) (hb hby at_56) (fun _ _ => ⟨rfl, rfl, (by decide : 1 + 1 ≤ _), (by decide : 12 + 12 ≤ _)⟩)
    dsimp only [Pt.U, Pt.locs, Pt.cells, Pt.slots] at X329 l329 y329 z329 st329 hQ329
    subst l329 y329 z329
    obtain ⟨bx1_0_329, kx1_0_329, rfl, Nq329, Kc329, P329_0, P329_1⟩ := hQ329
    have K329 : Keep h0 T329.heap [] := Keep.trans K327 Kc329 all0
    have Z329 : n0 ≤ T329.heap.size := Nat.le_trans Z0 K329.1
    have g_bx1_0_329 : n0 ≤ bx1_0_329 := Nat.le_trans Z327 P329_0
    have sz_bx1_0_329 : h0.size ≤ bx1_0_329 := Nat.le_trans K327.1 P329_0
    have ne_bx1_0_312_bx1_0_329 : bx1_0_312 ≠ bx1_0_329 := Nat.ne_of_lt (Nat.lt_of_lt_of_le P327_0.lt P329_0)
    obtain ⟨y330, hy330⟩ : ∃ z : Int32, z = (nar .byte ((q0_2.toInt32).toInt8.toInt32)) := ⟨_, rfl⟩
    rw [← hy330] at P329_1
    obtain ⟨y331, hy331⟩ : ∃ z : Int32, z = (nar .byte ((((q0_2.toUInt64 >>> ((8 : Int32) &&& 0x3f).toInt64.toUInt64).toInt64).toInt32).toInt8.toInt32)) := ⟨_, rfl⟩
    rw [← hy331] at P329_1
    obtain ⟨y332, hy332⟩ : ∃ z : Int32, z = (nar .byte ((((q0_2.toUInt64 >>> ((16 : Int32) &&& 0x3f).toInt64.toUInt64).toInt64).toInt32).toInt8.toInt32)) := ⟨_, rfl⟩
    rw [← hy332] at P329_1
    obtain ⟨y333, hy333⟩ : ∃ z : Int32, z = (nar .byte ((((q0_2.toUInt64 >>> ((24 : Int32) &&& 0x3f).toInt64.toUInt64).toInt64).toInt32).toInt8.toInt32)) := ⟨_, rfl⟩
    rw [← hy333] at P329_1
    obtain ⟨y334, hy334⟩ : ∃ z : Int32, z = (nar .byte ((((q0_2.toUInt64 >>> ((32 : Int32) &&& 0x3f).toInt64.toUInt64).toInt64).toInt32).toInt8.toInt32)) := ⟨_, rfl⟩
    rw [← hy334] at P329_1
    obtain ⟨y335, hy335⟩ : ∃ z : Int32, z = (nar .byte ((((q0_2.toUInt64 >>> ((40 : Int32) &&& 0x3f).toInt64.toUInt64).toInt64).toInt32).toInt8.toInt32)) := ⟨_, rfl⟩
    rw [← hy335] at P329_1
    obtain ⟨y336, hy336⟩ : ∃ z : Int32, z = (nar .byte ((((q0_2.toUInt64 >>> ((48 : Int32) &&& 0x3f).toInt64.toUInt64).toInt64).toInt32).toInt8.toInt32)) := ⟨_, rfl⟩
    rw [← hy336] at P329_1
    obtain ⟨y337, hy337⟩ : ∃ z : Int32, z = (nar .byte ((((q0_2.toUInt64 >>> ((56 : Int32) &&& 0x3f).toInt64.toUInt64).toInt64).toInt32).toInt8.toInt32)) := ⟨_, rfl⟩
    rw [← hy337] at P329_1
    obtain ⟨y338, hy338⟩ : ∃ z : Int32, z = (nar .byte ((((q0_2.toUInt64 >>> ((4 : Int32) &&& 0x3f).toInt64.toUInt64).toInt64).toInt32).toInt8.toInt32)) := ⟨_, rfl⟩
    rw [← hy338] at P329_1
    obtain ⟨y339, hy339⟩ : ∃ z : Int32, z = (nar .byte ((((q0_2.toUInt64 >>> ((12 : Int32) &&& 0x3f).toInt64.toUInt64).toInt64).toInt32).toInt8.toInt32)) := ⟨_, rfl⟩
    rw [← hy339] at P329_1
    obtain ⟨y340, hy340⟩ : ∃ z : Int32, z = (nar .byte ((((q0_2.toUInt64 >>> ((20 : Int32) &&& 0x3f).toInt64.toUInt64).toInt64).toInt32).toInt8.toInt32)) := ⟨_, rfl⟩
    rw [← hy340] at P329_1
    obtain ⟨y341, hy341⟩ : ∃ z : Int32, z = (nar .byte ((((q0_2.toUInt64 >>> ((28 : Int32) &&& 0x3f).toInt64.toUInt64).toInt64).toInt32).toInt8.toInt32)) := ⟨_, rfl⟩
    rw [← hy341] at P329_1
    have N329 := Fr.app N327 Nq329
    let A342 : Array Slot := #[.val (.long q0_0), .second, .val (.long q0_1), .second, .val (.long q0_2), .second, .val (.int p0_3), .val (.int p0_4), .val (.int p0_5), .val (.int x2), .val (.int x4), .val (.int (4 : Int32)), .val (.int x8), .val (.ref bx1_0_312), .val (.ref bx1_0_329), .unset, .unset, .unset, .unset, .unset, .unset, .unset, .unset, .unset]
    have Bf343 := Bya.of_arv (es := [y330, y331, y332, y333, y334, y335, y336, y337, y338, y339, y340, y341]) P329_1 rfl
    obtain ⟨f343, hf343⟩ : ∃ g : Int32 → Int32, g = (fun i => ([y330, y331, y332, y333, y334, y335, y336, y337, y338, y339, y340, y341] : List Int32).getD i.toNatClampNeg 0) := ⟨_, rfl⟩
    rw [← hf343] at Bf343
    obtain ⟨_, _, ⟨T344, L344, k344, n344⟩, -, X344, ⟨Lc344, hQ344, l344, y344, z344⟩, st344⟩ := Jvm.LawKit.callS X329 hx (y := (⟨"com/example/mortise/mortise/join/RecordKeyHashPinLaw", "place", "([BIJI)V"⟩ : MethodName)) hown (mvT hZ (ow6 hw)) (mvT hZ (ow7 hw)) (mvT hZ (ow3 hw)) (mvT hZ (ow8 hw)) (by decide) (backOf (W := 0) (rm2_l4 l Z a0 hw [] bx1_0_329 x4 q0_0 f343 T329.heap n0 Z329 (hx4 ▸ own_m7 ((p0_3.toUInt32 >>> ((3 : Int32) &&& 31).toUInt32).toInt32)) Bf343 g_bx1_0_329) hZ (ow8 hw) (ow3 hw) (by decide) (by decide)) (g := (mkF m 68 A342 [(.int (4 : Int32)), (.long q0_0), (.int x4), (.ref bx1_0_329)])) rfl (by rw [hml]; rfl) (argsL := [(.ref bx1_0_329), (.int x4), (.long q0_0), (.int (4 : Int32))]) (rest := []) (lenOf pd___BIJI_V rfl) rfl (by show 2 * 0 + _ ≤ _; exact Nat.le_of_eq rfl) (hb hby at_68) (fun _ _ => ⟨rfl, rfl, (by decide : 2 + 0 ≤ _), (by decide : 24 + 0 ≤ _)⟩)
    dsimp only [Pt.U, Pt.locs, Pt.cells, Pt.slots] at X344 l344 y344 z344 st344 hQ344
    subst l344 y344 z344
    obtain ⟨rfl, Nq344, Kc344, P344_0⟩ := hQ344
    have K344 : Keep h0 T344.heap [] := Keep.trans K329 Kc344 (allS (P := fun x => x ∈ ([] : List Addr) ∨ h0.size ≤ x) (Or.inr sz_bx1_0_329) all0)
    have Z344 : n0 ≤ T344.heap.size := Nat.le_trans Z0 K344.1
    obtain ⟨f345, hf345⟩ : ∃ g : Int32 → Int32, g = (fun i => if i = (x4 + (3 : Int32)) then (nar .byte ((((q0_0.toUInt64 >>> ((24 : Int32) &&& 0x3f).toInt64.toUInt64).toInt64).toInt32).toInt8.toInt32)) else (fun i => if i = (x4 + (2 : Int32)) then (nar .byte ((((q0_0.toUInt64 >>> ((16 : Int32) &&& 0x3f).toInt64.toUInt64).toInt64).toInt32).toInt8.toInt32)) else (fun i => if i = (x4 + (1 : Int32)) then (nar .byte ((((q0_0.toUInt64 >>> ((8 : Int32) &&& 0x3f).toInt64.toUInt64).toInt64).toInt32).toInt8.toInt32)) else (fun i => if i = x4 then (nar .byte ((q0_0.toInt32).toInt8.toInt32)) else f343 i) i) i) i) := ⟨_, rfl⟩
    rw [← hf345] at P344_0
    have N344 := Fr.app N329 Nq344
    have f347 := ((P327_0.keep Kc329 nin0).keep Kc344 (ninS ne_bx1_0_312_bx1_0_329 nin0))
    obtain ⟨_, _, ⟨T346, L346, k346, n346⟩, -, X346, ⟨Lc346, hQ346, l346, y346, z346⟩, st346⟩ := Jvm.LawKit.callS X344 hx (y := (⟨"com/example/mortise/mortise/join/RecordKeyHashPinLaw", "fill", "(J)[B"⟩ : MethodName)) hown (mvT hZ (ow1 hw)) (mvT hZ (ow2 hw)) (mvT hZ (ow3 hw)) (mvT hZ (ow4 hw)) (by decide) (backOf (W := 0) (rm1 l Z a0 hw [] q0_2 T344.heap n0 Z344 ) hZ (ow4 hw) (ow3 hw) (by decide) (by decide)) (g := (mkF m 73 A342 [(.long q0_2)])) rfl (by rw [hml]; rfl) (argsL := [(.long q0_2)]) (rest := []) (lenOf pd__J__B rfl) rfl (by show 2 * 0 + _ ≤ _; exact Nat.le_of_eq rfl) (hb hby at_73) (fun _ _ => ⟨rfl, rfl, (by decide : 2 + 1 ≤ _), (by decide : 24 + 12 ≤ _)⟩)
    dsimp only [Pt.U, Pt.locs, Pt.cells, Pt.slots] at X346 l346 y346 z346 st346 hQ346
    subst l346 y346 z346
    obtain ⟨bx1_0_346, kx1_0_346, rfl, Nq346, Kc346, P346_0, P346_1⟩ := hQ346
    have K346 : Keep h0 T346.heap [] := Keep.trans K344 Kc346 all0
    have Z346 : n0 ≤ T346.heap.size := Nat.le_trans Z0 K346.1
    have g_bx1_0_346 : n0 ≤ bx1_0_346 := Nat.le_trans Z344 P346_0
    have sz_bx1_0_346 : h0.size ≤ bx1_0_346 := Nat.le_trans K344.1 P346_0
    have ne_bx1_0_312_bx1_0_346 : bx1_0_312 ≠ bx1_0_346 := Nat.ne_of_lt (Nat.lt_of_lt_of_le f347.lt P346_0)
    have ne_bx1_0_329_bx1_0_346 : bx1_0_329 ≠ bx1_0_346 := Nat.ne_of_lt (Nat.lt_of_lt_of_le P344_0.lt P346_0)
    obtain ⟨y348, hy348⟩ : ∃ z : Int32, z = (nar .byte ((q0_2.toInt32).toInt8.toInt32)) := ⟨_, rfl⟩
    rw [← hy348] at P346_1
    obtain ⟨y349, hy349⟩ : ∃ z : Int32, z = (nar .byte ((((q0_2.toUInt64 >>> ((8 : Int32) &&& 0x3f).toInt64.toUInt64).toInt64).toInt32).toInt8.toInt32)) := ⟨_, rfl⟩
    rw [← hy349] at P346_1
    obtain ⟨y350, hy350⟩ : ∃ z : Int32, z = (nar .byte ((((q0_2.toUInt64 >>> ((16 : Int32) &&& 0x3f).toInt64.toUInt64).toInt64).toInt32).toInt8.toInt32)) := ⟨_, rfl⟩
    rw [← hy350] at P346_1
    obtain ⟨y351, hy351⟩ : ∃ z : Int32, z = (nar .byte ((((q0_2.toUInt64 >>> ((24 : Int32) &&& 0x3f).toInt64.toUInt64).toInt64).toInt32).toInt8.toInt32)) := ⟨_, rfl⟩
    rw [← hy351] at P346_1
    obtain ⟨y352, hy352⟩ : ∃ z : Int32, z = (nar .byte ((((q0_2.toUInt64 >>> ((32 : Int32) &&& 0x3f).toInt64.toUInt64).toInt64).toInt32).toInt8.toInt32)) := ⟨_, rfl⟩
    rw [← hy352] at P346_1
    obtain ⟨y353, hy353⟩ : ∃ z : Int32, z = (nar .byte ((((q0_2.toUInt64 >>> ((40 : Int32) &&& 0x3f).toInt64.toUInt64).toInt64).toInt32).toInt8.toInt32)) := ⟨_, rfl⟩
    rw [← hy353] at P346_1
    obtain ⟨y354, hy354⟩ : ∃ z : Int32, z = (nar .byte ((((q0_2.toUInt64 >>> ((48 : Int32) &&& 0x3f).toInt64.toUInt64).toInt64).toInt32).toInt8.toInt32)) := ⟨_, rfl⟩
    rw [← hy354] at P346_1
    obtain ⟨y355, hy355⟩ : ∃ z : Int32, z = (nar .byte ((((q0_2.toUInt64 >>> ((56 : Int32) &&& 0x3f).toInt64.toUInt64).toInt64).toInt32).toInt8.toInt32)) := ⟨_, rfl⟩
    rw [← hy355] at P346_1
    obtain ⟨y356, hy356⟩ : ∃ z : Int32, z = (nar .byte ((((q0_2.toUInt64 >>> ((4 : Int32) &&& 0x3f).toInt64.toUInt64).toInt64).toInt32).toInt8.toInt32)) := ⟨_, rfl⟩
    rw [← hy356] at P346_1
    obtain ⟨y357, hy357⟩ : ∃ z : Int32, z = (nar .byte ((((q0_2.toUInt64 >>> ((12 : Int32) &&& 0x3f).toInt64.toUInt64).toInt64).toInt32).toInt8.toInt32)) := ⟨_, rfl⟩
    rw [← hy357] at P346_1
    obtain ⟨y358, hy358⟩ : ∃ z : Int32, z = (nar .byte ((((q0_2.toUInt64 >>> ((20 : Int32) &&& 0x3f).toInt64.toUInt64).toInt64).toInt32).toInt8.toInt32)) := ⟨_, rfl⟩
    rw [← hy358] at P346_1
    obtain ⟨y359, hy359⟩ : ∃ z : Int32, z = (nar .byte ((((q0_2.toUInt64 >>> ((28 : Int32) &&& 0x3f).toInt64.toUInt64).toInt64).toInt32).toInt8.toInt32)) := ⟨_, rfl⟩
    rw [← hy359] at P346_1
    have N346 := Fr.app N344 Nq346
    let A360 : Array Slot := #[.val (.long q0_0), .second, .val (.long q0_1), .second, .val (.long q0_2), .second, .val (.int p0_3), .val (.int p0_4), .val (.int p0_5), .val (.int x2), .val (.int x4), .val (.int (4 : Int32)), .val (.int x8), .val (.ref bx1_0_312), .val (.ref bx1_0_329), .val (.ref bx1_0_346), .unset, .unset, .unset, .unset, .unset, .unset, .unset, .unset]
    have Bf361 := Bya.of_arv (es := [y348, y349, y350, y351, y352, y353, y354, y355, y356, y357, y358, y359]) P346_1 rfl
    obtain ⟨f361, hf361⟩ : ∃ g : Int32 → Int32, g = (fun i => ([y348, y349, y350, y351, y352, y353, y354, y355, y356, y357, y358, y359] : List Int32).getD i.toNatClampNeg 0) := ⟨_, rfl⟩
    rw [← hf361] at Bf361
    obtain ⟨_, _, ⟨T362, L362, k362, n362⟩, -, X362, ⟨Lc362, hQ362, l362, y362, z362⟩, st362⟩ := Jvm.LawKit.callS X346 hx (y := (⟨"com/example/mortise/mortise/join/RecordKeyHashPinLaw", "place", "([BIJI)V"⟩ : MethodName)) hown (mvT hZ (ow6 hw)) (mvT hZ (ow7 hw)) (mvT hZ (ow3 hw)) (mvT hZ (ow8 hw)) (by decide) (backOf (W := 0) (rm2_l4 l Z a0 hw [] bx1_0_346 x4 q0_0 f361 T346.heap n0 Z346 (hx4 ▸ own_m7 ((p0_3.toUInt32 >>> ((3 : Int32) &&& 31).toUInt32).toInt32)) Bf361 g_bx1_0_346) hZ (ow8 hw) (ow3 hw) (by decide) (by decide)) (g := (mkF m 85 A360 [(.int (4 : Int32)), (.long q0_0), (.int x4), (.ref bx1_0_346)])) rfl (by rw [hml]; rfl) (argsL := [(.ref bx1_0_346), (.int x4), (.long q0_0), (.int (4 : Int32))]) (rest := []) (lenOf pd___BIJI_V rfl) rfl (by show 2 * 0 + _ ≤ _; exact Nat.le_of_eq rfl) (hb hby at_85) (fun _ _ => ⟨rfl, rfl, (by decide : 3 + 0 ≤ _), (by decide : 36 + 0 ≤ _)⟩)
    dsimp only [Pt.U, Pt.locs, Pt.cells, Pt.slots] at X362 l362 y362 z362 st362 hQ362
    subst l362 y362 z362
    obtain ⟨rfl, Nq362, Kc362, P362_0⟩ := hQ362
    have K362 : Keep h0 T362.heap [] := Keep.trans K346 Kc362 (allS (P := fun x => x ∈ ([] : List Addr) ∨ h0.size ≤ x) (Or.inr sz_bx1_0_346) all0)
    have Z362 : n0 ≤ T362.heap.size := Nat.le_trans Z0 K362.1
    obtain ⟨f363, hf363⟩ : ∃ g : Int32 → Int32, g = (fun i => if i = (x4 + (3 : Int32)) then (nar .byte ((((q0_0.toUInt64 >>> ((24 : Int32) &&& 0x3f).toInt64.toUInt64).toInt64).toInt32).toInt8.toInt32)) else (fun i => if i = (x4 + (2 : Int32)) then (nar .byte ((((q0_0.toUInt64 >>> ((16 : Int32) &&& 0x3f).toInt64.toUInt64).toInt64).toInt32).toInt8.toInt32)) else (fun i => if i = (x4 + (1 : Int32)) then (nar .byte ((((q0_0.toUInt64 >>> ((8 : Int32) &&& 0x3f).toInt64.toUInt64).toInt64).toInt32).toInt8.toInt32)) else (fun i => if i = x4 then (nar .byte ((q0_0.toInt32).toInt8.toInt32)) else f361 i) i) i) i) := ⟨_, rfl⟩
    rw [← hf363] at P362_0
    have N362 := Fr.app N346 Nq362
    have f364 := ((f347.keep Kc346 nin0).keep Kc362 (ninS ne_bx1_0_312_bx1_0_346 nin0))
    obtain ⟨_, _, ⟨T365, L365, k365, n365⟩, -, X365, ⟨Lc365, hQ365, l365, y365, z365⟩, st365⟩ := Jvm.LawKit.callS X362 hx (y := (⟨"com/example/mortise/mortise/join/Record", "keyHash", "([BII)J"⟩ : MethodName)) hown (mvT hZ (ow9 hw)) (mvT hZ (ow10 hw)) (mvT hZ (ow11 hw)) (mvT hZ (ow12 hw)) (by decide) (backOf (W := 0) (rm3_l4 l Z a0 hw [] bx1_0_312 x2 f328 T362.heap n0 Z362 (hx2 ▸ own_m7 p0_3) f364) hZ (ow12 hw) (ow11 hw) (by decide) (by decide)) (g := (mkF m 97 A360 [(.int (x2 + (4 : Int32))), (.int x2), (.ref bx1_0_312)])) rfl (by rw [hml]; rfl) (argsL := [(.ref bx1_0_312), (.int x2), (.int (x2 + (4 : Int32)))]) (rest := []) (lenOf pd___BII_J rfl) rfl (by show 2 * 0 + _ ≤ _; exact Nat.le_of_eq rfl) (hb hby at_97) (fun _ _ => ⟨rfl, rfl, (by decide : 3 + 0 ≤ _), (by decide : 36 + 0 ≤ _)⟩)
    dsimp only [Pt.U, Pt.locs, Pt.cells, Pt.slots] at X365 l365 y365 z365 st365 hQ365
    subst l365 y365 z365
    obtain ⟨rfl, Nq365, e365⟩ := hQ365
    have N365 := Fr.app N362 Nq365
    obtain ⟨x366, hx366⟩ : ∃ z : Int64, z = ((((((((((((((-3750763034362895579 : Int64) ^^^ (((f328 x2) &&& (255 : Int32)).toInt64)) * (1099511628211 : Int64)) ^^^ (((f328 (x2 + (1 : Int32))) &&& (255 : Int32)).toInt64)) * (1099511628211 : Int64)) ^^^ (((f328 (x2 + (2 : Int32))) &&& (255 : Int32)).toInt64)) * (1099511628211 : Int64)) ^^^ (((f328 (x2 + (3 : Int32))) &&& (255 : Int32)).toInt64)) * (1099511628211 : Int64)) ^^^ (((((((((((-3750763034362895579 : Int64) ^^^ (((f328 x2) &&& (255 : Int32)).toInt64)) * (1099511628211 : Int64)) ^^^ (((f328 (x2 + (1 : Int32))) &&& (255 : Int32)).toInt64)) * (1099511628211 : Int64)) ^^^ (((f328 (x2 + (2 : Int32))) &&& (255 : Int32)).toInt64)) * (1099511628211 : Int64)) ^^^ (((f328 (x2 + (3 : Int32))) &&& (255 : Int32)).toInt64)) * (1099511628211 : Int64)).toUInt64 >>> ((33 : Int32) &&& 0x3f).toInt64.toUInt64).toInt64)) * (-49064778989728563 : Int64)) ^^^ (((((((((((((-3750763034362895579 : Int64) ^^^ (((f328 x2) &&& (255 : Int32)).toInt64)) * (1099511628211 : Int64)) ^^^ (((f328 (x2 + (1 : Int32))) &&& (255 : Int32)).toInt64)) * (1099511628211 : Int64)) ^^^ (((f328 (x2 + (2 : Int32))) &&& (255 : Int32)).toInt64)) * (1099511628211 : Int64)) ^^^ (((f328 (x2 + (3 : Int32))) &&& (255 : Int32)).toInt64)) * (1099511628211 : Int64)) ^^^ (((((((((((-3750763034362895579 : Int64) ^^^ (((f328 x2) &&& (255 : Int32)).toInt64)) * (1099511628211 : Int64)) ^^^ (((f328 (x2 + (1 : Int32))) &&& (255 : Int32)).toInt64)) * (1099511628211 : Int64)) ^^^ (((f328 (x2 + (2 : Int32))) &&& (255 : Int32)).toInt64)) * (1099511628211 : Int64)) ^^^ (((f328 (x2 + (3 : Int32))) &&& (255 : Int32)).toInt64)) * (1099511628211 : Int64)).toUInt64 >>> ((33 : Int32) &&& 0x3f).toInt64.toUInt64).toInt64)) * (-49064778989728563 : Int64)).toUInt64 >>> ((33 : Int32) &&& 0x3f).toInt64.toUInt64).toInt64)) * (-4265267296055464877 : Int64)) ^^^ (((((((((((((((-3750763034362895579 : Int64) ^^^ (((f328 x2) &&& (255 : Int32)).toInt64)) * (1099511628211 : Int64)) ^^^ (((f328 (x2 + (1 : Int32))) &&& (255 : Int32)).toInt64)) * (1099511628211 : Int64)) ^^^ (((f328 (x2 + (2 : Int32))) &&& (255 : Int32)).toInt64)) * (1099511628211 : Int64)) ^^^ (((f328 (x2 + (3 : Int32))) &&& (255 : Int32)).toInt64)) * (1099511628211 : Int64)) ^^^ (((((((((((-3750763034362895579 : Int64) ^^^ (((f328 x2) &&& (255 : Int32)).toInt64)) * (1099511628211 : Int64)) ^^^ (((f328 (x2 + (1 : Int32))) &&& (255 : Int32)).toInt64)) * (1099511628211 : Int64)) ^^^ (((f328 (x2 + (2 : Int32))) &&& (255 : Int32)).toInt64)) * (1099511628211 : Int64)) ^^^ (((f328 (x2 + (3 : Int32))) &&& (255 : Int32)).toInt64)) * (1099511628211 : Int64)).toUInt64 >>> ((33 : Int32) &&& 0x3f).toInt64.toUInt64).toInt64)) * (-49064778989728563 : Int64)) ^^^ (((((((((((((-3750763034362895579 : Int64) ^^^ (((f328 x2) &&& (255 : Int32)).toInt64)) * (1099511628211 : Int64)) ^^^ (((f328 (x2 + (1 : Int32))) &&& (255 : Int32)).toInt64)) * (1099511628211 : Int64)) ^^^ (((f328 (x2 + (2 : Int32))) &&& (255 : Int32)).toInt64)) * (1099511628211 : Int64)) ^^^ (((f328 (x2 + (3 : Int32))) &&& (255 : Int32)).toInt64)) * (1099511628211 : Int64)) ^^^ (((((((((((-3750763034362895579 : Int64) ^^^ (((f328 x2) &&& (255 : Int32)).toInt64)) * (1099511628211 : Int64)) ^^^ (((f328 (x2 + (1 : Int32))) &&& (255 : Int32)).toInt64)) * (1099511628211 : Int64)) ^^^ (((f328 (x2 + (2 : Int32))) &&& (255 : Int32)).toInt64)) * (1099511628211 : Int64)) ^^^ (((f328 (x2 + (3 : Int32))) &&& (255 : Int32)).toInt64)) * (1099511628211 : Int64)).toUInt64 >>> ((33 : Int32) &&& 0x3f).toInt64.toUInt64).toInt64)) * (-49064778989728563 : Int64)).toUInt64 >>> ((33 : Int32) &&& 0x3f).toInt64.toUInt64).toInt64)) * (-4265267296055464877 : Int64)).toUInt64 >>> ((33 : Int32) &&& 0x3f).toInt64.toUInt64).toInt64)) := ⟨_, rfl⟩
    let A367 : Array Slot := #[.val (.long q0_0), .second, .val (.long q0_1), .second, .val (.long q0_2), .second, .val (.int p0_3), .val (.int p0_4), .val (.int p0_5), .val (.int x2), .val (.int x4), .val (.int (4 : Int32)), .val (.int x8), .val (.ref bx1_0_312), .val (.ref bx1_0_329), .val (.ref bx1_0_346), .val (.long x366), .second, .unset, .unset, .unset, .unset, .unset, .unset]
    have f368 := ((P344_0.keep Kc346 nin0).keep Kc362 (ninS ne_bx1_0_329_bx1_0_346 nin0))
    obtain ⟨_, _, ⟨T369, L369, k369, n369⟩, -, X369, ⟨Lc369, hQ369, l369, y369, z369⟩, st369⟩ := Jvm.LawKit.callS X365 hx (y := (⟨"com/example/mortise/mortise/join/Record", "keyHash", "([BII)J"⟩ : MethodName)) hown (mvT hZ (ow9 hw)) (mvT hZ (ow10 hw)) (mvT hZ (ow11 hw)) (mvT hZ (ow12 hw)) (by decide) (backOf (W := 0) (rm3_l4 l Z a0 hw [] bx1_0_329 x4 f345 T362.heap n0 Z362 (hx4 ▸ own_m7 ((p0_3.toUInt32 >>> ((3 : Int32) &&& 31).toUInt32).toInt32)) f368) hZ (ow12 hw) (ow11 hw) (by decide) (by decide)) (g := (mkF m 111 A367 [(.int (x4 + (4 : Int32))), (.int x4), (.ref bx1_0_329)])) rfl (by rw [hml]; rfl) (argsL := [(.ref bx1_0_329), (.int x4), (.int (x4 + (4 : Int32)))]) (rest := []) (lenOf pd___BII_J rfl) rfl (by show 2 * 0 + _ ≤ _; exact Nat.le_of_eq rfl) (hb hby at_111) (fun _ _ => ⟨rfl, e365, (by decide : 3 + 0 ≤ _), (by decide : 36 + 0 ≤ _)⟩)
    dsimp only [Pt.U, Pt.locs, Pt.cells, Pt.slots] at X369 l369 y369 z369 st369 hQ369
    subst l369 y369 z369
    obtain ⟨rfl, Nq369, e369⟩ := hQ369
    have N369 := Fr.app N365 Nq369
    obtain ⟨x370, hx370⟩ : ∃ z : Int64, z = ((((((((((((((-3750763034362895579 : Int64) ^^^ (((f345 x4) &&& (255 : Int32)).toInt64)) * (1099511628211 : Int64)) ^^^ (((f345 (x4 + (1 : Int32))) &&& (255 : Int32)).toInt64)) * (1099511628211 : Int64)) ^^^ (((f345 (x4 + (2 : Int32))) &&& (255 : Int32)).toInt64)) * (1099511628211 : Int64)) ^^^ (((f345 (x4 + (3 : Int32))) &&& (255 : Int32)).toInt64)) * (1099511628211 : Int64)) ^^^ (((((((((((-3750763034362895579 : Int64) ^^^ (((f345 x4) &&& (255 : Int32)).toInt64)) * (1099511628211 : Int64)) ^^^ (((f345 (x4 + (1 : Int32))) &&& (255 : Int32)).toInt64)) * (1099511628211 : Int64)) ^^^ (((f345 (x4 + (2 : Int32))) &&& (255 : Int32)).toInt64)) * (1099511628211 : Int64)) ^^^ (((f345 (x4 + (3 : Int32))) &&& (255 : Int32)).toInt64)) * (1099511628211 : Int64)).toUInt64 >>> ((33 : Int32) &&& 0x3f).toInt64.toUInt64).toInt64)) * (-49064778989728563 : Int64)) ^^^ (((((((((((((-3750763034362895579 : Int64) ^^^ (((f345 x4) &&& (255 : Int32)).toInt64)) * (1099511628211 : Int64)) ^^^ (((f345 (x4 + (1 : Int32))) &&& (255 : Int32)).toInt64)) * (1099511628211 : Int64)) ^^^ (((f345 (x4 + (2 : Int32))) &&& (255 : Int32)).toInt64)) * (1099511628211 : Int64)) ^^^ (((f345 (x4 + (3 : Int32))) &&& (255 : Int32)).toInt64)) * (1099511628211 : Int64)) ^^^ (((((((((((-3750763034362895579 : Int64) ^^^ (((f345 x4) &&& (255 : Int32)).toInt64)) * (1099511628211 : Int64)) ^^^ (((f345 (x4 + (1 : Int32))) &&& (255 : Int32)).toInt64)) * (1099511628211 : Int64)) ^^^ (((f345 (x4 + (2 : Int32))) &&& (255 : Int32)).toInt64)) * (1099511628211 : Int64)) ^^^ (((f345 (x4 + (3 : Int32))) &&& (255 : Int32)).toInt64)) * (1099511628211 : Int64)).toUInt64 >>> ((33 : Int32) &&& 0x3f).toInt64.toUInt64).toInt64)) * (-49064778989728563 : Int64)).toUInt64 >>> ((33 : Int32) &&& 0x3f).toInt64.toUInt64).toInt64)) * (-4265267296055464877 : Int64)) ^^^ (((((((((((((((-3750763034362895579 : Int64) ^^^ (((f345 x4) &&& (255 : Int32)).toInt64)) * (1099511628211 : Int64)) ^^^ (((f345 (x4 + (1 : Int32))) &&& (255 : Int32)).toInt64)) * (1099511628211 : Int64)) ^^^ (((f345 (x4 + (2 : Int32))) &&& (255 : Int32)).toInt64)) * (1099511628211 : Int64)) ^^^ (((f345 (x4 + (3 : Int32))) &&& (255 : Int32)).toInt64)) * (1099511628211 : Int64)) ^^^ (((((((((((-3750763034362895579 : Int64) ^^^ (((f345 x4) &&& (255 : Int32)).toInt64)) * (1099511628211 : Int64)) ^^^ (((f345 (x4 + (1 : Int32))) &&& (255 : Int32)).toInt64)) * (1099511628211 : Int64)) ^^^ (((f345 (x4 + (2 : Int32))) &&& (255 : Int32)).toInt64)) * (1099511628211 : Int64)) ^^^ (((f345 (x4 + (3 : Int32))) &&& (255 : Int32)).toInt64)) * (1099511628211 : Int64)).toUInt64 >>> ((33 : Int32) &&& 0x3f).toInt64.toUInt64).toInt64)) * (-49064778989728563 : Int64)) ^^^ (((((((((((((-3750763034362895579 : Int64) ^^^ (((f345 x4) &&& (255 : Int32)).toInt64)) * (1099511628211 : Int64)) ^^^ (((f345 (x4 + (1 : Int32))) &&& (255 : Int32)).toInt64)) * (1099511628211 : Int64)) ^^^ (((f345 (x4 + (2 : Int32))) &&& (255 : Int32)).toInt64)) * (1099511628211 : Int64)) ^^^ (((f345 (x4 + (3 : Int32))) &&& (255 : Int32)).toInt64)) * (1099511628211 : Int64)) ^^^ (((((((((((-3750763034362895579 : Int64) ^^^ (((f345 x4) &&& (255 : Int32)).toInt64)) * (1099511628211 : Int64)) ^^^ (((f345 (x4 + (1 : Int32))) &&& (255 : Int32)).toInt64)) * (1099511628211 : Int64)) ^^^ (((f345 (x4 + (2 : Int32))) &&& (255 : Int32)).toInt64)) * (1099511628211 : Int64)) ^^^ (((f345 (x4 + (3 : Int32))) &&& (255 : Int32)).toInt64)) * (1099511628211 : Int64)).toUInt64 >>> ((33 : Int32) &&& 0x3f).toInt64.toUInt64).toInt64)) * (-49064778989728563 : Int64)).toUInt64 >>> ((33 : Int32) &&& 0x3f).toInt64.toUInt64).toInt64)) * (-4265267296055464877 : Int64)).toUInt64 >>> ((33 : Int32) &&& 0x3f).toInt64.toUInt64).toInt64)) := ⟨_, rfl⟩
    let A371 : Array Slot := #[.val (.long q0_0), .second, .val (.long q0_1), .second, .val (.long q0_2), .second, .val (.int p0_3), .val (.int p0_4), .val (.int p0_5), .val (.int x2), .val (.int x4), .val (.int (4 : Int32)), .val (.int x8), .val (.ref bx1_0_312), .val (.ref bx1_0_329), .val (.ref bx1_0_346), .val (.long x366), .second, .val (.long x370), .second, .unset, .unset, .unset, .unset]
    have G372 : ∀ t, Steps p.tables e below (T369.setTop (mkF m 121 A371 [(.int (lcmpW x366 x370))])) t → Steps p.tables e below (s₁.setTop (mkF m 38 A9 [])) t := by
      intro t k
      show Steps p.tables e below (s₁.setTop (mkF m 38 #[.val (.long q0_0), .second, .val (.long q0_1), .second, .val (.long q0_2), .second, .val (.int p0_3), .val (.int p0_4), .val (.int p0_5), .val (.int x2), .val (.int x4), .val (.int x6), .val (.int x8), .unset, .unset, .unset, .unset, .unset, .unset, .unset, .unset, .unset, .unset, .unset] [])) _
      rw [hc15]
      show Steps p.tables e below (s₁.setTop (mkF m 38 A311 [])) _
      show Steps p.tables e below (s₁.setTop (mkF m 38 A311 [])) _
      refine XS.lloadN X0.here hx rfl (hb hby at_38) rfl ?_
      show Steps p.tables e below (s₁.setTop (mkF m 39 A311 [(.long q0_1)])) _
      refine st312 _ ?_
      show Steps p.tables e below (T312.setTop (mkF m 42 A311 [(.ref bx1_0_312)])) _
      refine XS.astore X312.here hx rfl (hb hby at_42) rfl rfl (l' := A325) rfl ?_
      show Steps p.tables e below (T312.setTop (mkF m 44 A325 [])) _
      refine XS.aload X312.here hx rfl (hb hby at_44) rfl rfl ?_
      show Steps p.tables e below (T312.setTop (mkF m 46 A325 [(.ref bx1_0_312)])) _
      refine XS.iload X312.here hx rfl (hb hby at_46) rfl ?_
      show Steps p.tables e below (T312.setTop (mkF m 48 A325 [(.int x2), (.ref bx1_0_312)])) _
      refine XS.lloadN X312.here hx rfl (hb hby at_48) rfl ?_
      show Steps p.tables e below (T312.setTop (mkF m 49 A325 [(.long q0_0), (.int x2), (.ref bx1_0_312)])) _
      refine XS.iload X312.here hx rfl (hb hby at_49) rfl ?_
      show Steps p.tables e below (T312.setTop (mkF m 51 A325 [(.int (4 : Int32)), (.long q0_0), (.int x2), (.ref bx1_0_312)])) _
      refine st327 _ ?_
      show Steps p.tables e below (T327.setTop (mkF m 54 A325 [])) _
      refine XS.lload X327.here hx rfl (hb hby at_54) rfl ?_
      show Steps p.tables e below (T327.setTop (mkF m 56 A325 [(.long q0_2)])) _
      refine st329 _ ?_
      show Steps p.tables e below (T329.setTop (mkF m 59 A325 [(.ref bx1_0_329)])) _
      refine XS.astore X329.here hx rfl (hb hby at_59) rfl rfl (l' := A342) rfl ?_
      show Steps p.tables e below (T329.setTop (mkF m 61 A342 [])) _
      refine XS.aload X329.here hx rfl (hb hby at_61) rfl rfl ?_
      show Steps p.tables e below (T329.setTop (mkF m 63 A342 [(.ref bx1_0_329)])) _
      refine XS.iload X329.here hx rfl (hb hby at_63) rfl ?_
      show Steps p.tables e below (T329.setTop (mkF m 65 A342 [(.int x4), (.ref bx1_0_329)])) _
      refine XS.lloadN X329.here hx rfl (hb hby at_65) rfl ?_
      show Steps p.tables e below (T329.setTop (mkF m 66 A342 [(.long q0_0), (.int x4), (.ref bx1_0_329)])) _
      refine XS.iload X329.here hx rfl (hb hby at_66) rfl ?_
      show Steps p.tables e below (T329.setTop (mkF m 68 A342 [(.int (4 : Int32)), (.long q0_0), (.int x4), (.ref bx1_0_329)])) _
      refine st344 _ ?_
      show Steps p.tables e below (T344.setTop (mkF m 71 A342 [])) _
      refine XS.lload X344.here hx rfl (hb hby at_71) rfl ?_
      show Steps p.tables e below (T344.setTop (mkF m 73 A342 [(.long q0_2)])) _
      refine st346 _ ?_
      show Steps p.tables e below (T346.setTop (mkF m 76 A342 [(.ref bx1_0_346)])) _
      refine XS.astore X346.here hx rfl (hb hby at_76) rfl rfl (l' := A360) rfl ?_
      show Steps p.tables e below (T346.setTop (mkF m 78 A360 [])) _
      refine XS.aload X346.here hx rfl (hb hby at_78) rfl rfl ?_
      show Steps p.tables e below (T346.setTop (mkF m 80 A360 [(.ref bx1_0_346)])) _
      refine XS.iload X346.here hx rfl (hb hby at_80) rfl ?_
      show Steps p.tables e below (T346.setTop (mkF m 82 A360 [(.int x4), (.ref bx1_0_346)])) _
      refine XS.lloadN X346.here hx rfl (hb hby at_82) rfl ?_
      show Steps p.tables e below (T346.setTop (mkF m 83 A360 [(.long q0_0), (.int x4), (.ref bx1_0_346)])) _
      refine XS.iload X346.here hx rfl (hb hby at_83) rfl ?_
      show Steps p.tables e below (T346.setTop (mkF m 85 A360 [(.int (4 : Int32)), (.long q0_0), (.int x4), (.ref bx1_0_346)])) _
      refine st362 _ ?_
      show Steps p.tables e below (T362.setTop (mkF m 88 A360 [])) _
      refine XS.aload X362.here hx rfl (hb hby at_88) rfl rfl ?_
      show Steps p.tables e below (T362.setTop (mkF m 90 A360 [(.ref bx1_0_312)])) _
      refine XS.iload X362.here hx rfl (hb hby at_90) rfl ?_
      show Steps p.tables e below (T362.setTop (mkF m 92 A360 [(.int x2), (.ref bx1_0_312)])) _
      refine XS.iload X362.here hx rfl (hb hby at_92) rfl ?_
      show Steps p.tables e below (T362.setTop (mkF m 94 A360 [(.int x2), (.int x2), (.ref bx1_0_312)])) _
      refine XS.iload X362.here hx rfl (hb hby at_94) rfl ?_
      show Steps p.tables e below (T362.setTop (mkF m 96 A360 [(.int (4 : Int32)), (.int x2), (.int x2), (.ref bx1_0_312)])) _
      refine XS.iadd X362.here hx rfl (hb hby at_96) rfl ?_
      show Steps p.tables e below (T362.setTop (mkF m 97 A360 [(.int (x2 + (4 : Int32))), (.int x2), (.ref bx1_0_312)])) _
      refine st365 _ ?_
      show Steps p.tables e below (T365.setTop (mkF m 100 #[.val (.long q0_0), .second, .val (.long q0_1), .second, .val (.long q0_2), .second, .val (.int p0_3), .val (.int p0_4), .val (.int p0_5), .val (.int x2), .val (.int x4), .val (.int (4 : Int32)), .val (.int x8), .val (.ref bx1_0_312), .val (.ref bx1_0_329), .val (.ref bx1_0_346), .unset, .unset, .unset, .unset, .unset, .unset, .unset, .unset] [(.long ((((((((((((((-3750763034362895579 : Int64) ^^^ (((f328 x2) &&& (255 : Int32)).toInt64)) * (1099511628211 : Int64)) ^^^ (((f328 (x2 + (1 : Int32))) &&& (255 : Int32)).toInt64)) * (1099511628211 : Int64)) ^^^ (((f328 (x2 + (2 : Int32))) &&& (255 : Int32)).toInt64)) * (1099511628211 : Int64)) ^^^ (((f328 (x2 + (3 : Int32))) &&& (255 : Int32)).toInt64)) * (1099511628211 : Int64)) ^^^ (((((((((((-3750763034362895579 : Int64) ^^^ (((f328 x2) &&& (255 : Int32)).toInt64)) * (1099511628211 : Int64)) ^^^ (((f328 (x2 + (1 : Int32))) &&& (255 : Int32)).toInt64)) * (1099511628211 : Int64)) ^^^ (((f328 (x2 + (2 : Int32))) &&& (255 : Int32)).toInt64)) * (1099511628211 : Int64)) ^^^ (((f328 (x2 + (3 : Int32))) &&& (255 : Int32)).toInt64)) * (1099511628211 : Int64)).toUInt64 >>> ((33 : Int32) &&& 0x3f).toInt64.toUInt64).toInt64)) * (-49064778989728563 : Int64)) ^^^ (((((((((((((-3750763034362895579 : Int64) ^^^ (((f328 x2) &&& (255 : Int32)).toInt64)) * (1099511628211 : Int64)) ^^^ (((f328 (x2 + (1 : Int32))) &&& (255 : Int32)).toInt64)) * (1099511628211 : Int64)) ^^^ (((f328 (x2 + (2 : Int32))) &&& (255 : Int32)).toInt64)) * (1099511628211 : Int64)) ^^^ (((f328 (x2 + (3 : Int32))) &&& (255 : Int32)).toInt64)) * (1099511628211 : Int64)) ^^^ (((((((((((-3750763034362895579 : Int64) ^^^ (((f328 x2) &&& (255 : Int32)).toInt64)) * (1099511628211 : Int64)) ^^^ (((f328 (x2 + (1 : Int32))) &&& (255 : Int32)).toInt64)) * (1099511628211 : Int64)) ^^^ (((f328 (x2 + (2 : Int32))) &&& (255 : Int32)).toInt64)) * (1099511628211 : Int64)) ^^^ (((f328 (x2 + (3 : Int32))) &&& (255 : Int32)).toInt64)) * (1099511628211 : Int64)).toUInt64 >>> ((33 : Int32) &&& 0x3f).toInt64.toUInt64).toInt64)) * (-49064778989728563 : Int64)).toUInt64 >>> ((33 : Int32) &&& 0x3f).toInt64.toUInt64).toInt64)) * (-4265267296055464877 : Int64)) ^^^ (((((((((((((((-3750763034362895579 : Int64) ^^^ (((f328 x2) &&& (255 : Int32)).toInt64)) * (1099511628211 : Int64)) ^^^ (((f328 (x2 + (1 : Int32))) &&& (255 : Int32)).toInt64)) * (1099511628211 : Int64)) ^^^ (((f328 (x2 + (2 : Int32))) &&& (255 : Int32)).toInt64)) * (1099511628211 : Int64)) ^^^ (((f328 (x2 + (3 : Int32))) &&& (255 : Int32)).toInt64)) * (1099511628211 : Int64)) ^^^ (((((((((((-3750763034362895579 : Int64) ^^^ (((f328 x2) &&& (255 : Int32)).toInt64)) * (1099511628211 : Int64)) ^^^ (((f328 (x2 + (1 : Int32))) &&& (255 : Int32)).toInt64)) * (1099511628211 : Int64)) ^^^ (((f328 (x2 + (2 : Int32))) &&& (255 : Int32)).toInt64)) * (1099511628211 : Int64)) ^^^ (((f328 (x2 + (3 : Int32))) &&& (255 : Int32)).toInt64)) * (1099511628211 : Int64)).toUInt64 >>> ((33 : Int32) &&& 0x3f).toInt64.toUInt64).toInt64)) * (-49064778989728563 : Int64)) ^^^ (((((((((((((-3750763034362895579 : Int64) ^^^ (((f328 x2) &&& (255 : Int32)).toInt64)) * (1099511628211 : Int64)) ^^^ (((f328 (x2 + (1 : Int32))) &&& (255 : Int32)).toInt64)) * (1099511628211 : Int64)) ^^^ (((f328 (x2 + (2 : Int32))) &&& (255 : Int32)).toInt64)) * (1099511628211 : Int64)) ^^^ (((f328 (x2 + (3 : Int32))) &&& (255 : Int32)).toInt64)) * (1099511628211 : Int64)) ^^^ (((((((((((-3750763034362895579 : Int64) ^^^ (((f328 x2) &&& (255 : Int32)).toInt64)) * (1099511628211 : Int64)) ^^^ (((f328 (x2 + (1 : Int32))) &&& (255 : Int32)).toInt64)) * (1099511628211 : Int64)) ^^^ (((f328 (x2 + (2 : Int32))) &&& (255 : Int32)).toInt64)) * (1099511628211 : Int64)) ^^^ (((f328 (x2 + (3 : Int32))) &&& (255 : Int32)).toInt64)) * (1099511628211 : Int64)).toUInt64 >>> ((33 : Int32) &&& 0x3f).toInt64.toUInt64).toInt64)) * (-49064778989728563 : Int64)).toUInt64 >>> ((33 : Int32) &&& 0x3f).toInt64.toUInt64).toInt64)) * (-4265267296055464877 : Int64)).toUInt64 >>> ((33 : Int32) &&& 0x3f).toInt64.toUInt64).toInt64)))])) _
      rw [← hx366]
      show Steps p.tables e below (T365.setTop (mkF m 100 A360 [(.long x366)])) _
      refine XS.lstore X365.here hx rfl (hb hby at_100) rfl (l' := A367) rfl ?_
      show Steps p.tables e below (T365.setTop (mkF m 102 A367 [])) _
      refine XS.aload X365.here hx rfl (hb hby at_102) rfl rfl ?_
      show Steps p.tables e below (T365.setTop (mkF m 104 A367 [(.ref bx1_0_329)])) _
      refine XS.iload X365.here hx rfl (hb hby at_104) rfl ?_
      show Steps p.tables e below (T365.setTop (mkF m 106 A367 [(.int x4), (.ref bx1_0_329)])) _
      refine XS.iload X365.here hx rfl (hb hby at_106) rfl ?_
      show Steps p.tables e below (T365.setTop (mkF m 108 A367 [(.int x4), (.int x4), (.ref bx1_0_329)])) _
      refine XS.iload X365.here hx rfl (hb hby at_108) rfl ?_
      show Steps p.tables e below (T365.setTop (mkF m 110 A367 [(.int (4 : Int32)), (.int x4), (.int x4), (.ref bx1_0_329)])) _
      refine XS.iadd X365.here hx rfl (hb hby at_110) rfl ?_
      show Steps p.tables e below (T365.setTop (mkF m 111 A367 [(.int (x4 + (4 : Int32))), (.int x4), (.ref bx1_0_329)])) _
      refine st369 _ ?_
      show Steps p.tables e below (T369.setTop (mkF m 114 #[.val (.long q0_0), .second, .val (.long q0_1), .second, .val (.long q0_2), .second, .val (.int p0_3), .val (.int p0_4), .val (.int p0_5), .val (.int x2), .val (.int x4), .val (.int (4 : Int32)), .val (.int x8), .val (.ref bx1_0_312), .val (.ref bx1_0_329), .val (.ref bx1_0_346), .val (.long x366), .second, .unset, .unset, .unset, .unset, .unset, .unset] [(.long ((((((((((((((-3750763034362895579 : Int64) ^^^ (((f345 x4) &&& (255 : Int32)).toInt64)) * (1099511628211 : Int64)) ^^^ (((f345 (x4 + (1 : Int32))) &&& (255 : Int32)).toInt64)) * (1099511628211 : Int64)) ^^^ (((f345 (x4 + (2 : Int32))) &&& (255 : Int32)).toInt64)) * (1099511628211 : Int64)) ^^^ (((f345 (x4 + (3 : Int32))) &&& (255 : Int32)).toInt64)) * (1099511628211 : Int64)) ^^^ (((((((((((-3750763034362895579 : Int64) ^^^ (((f345 x4) &&& (255 : Int32)).toInt64)) * (1099511628211 : Int64)) ^^^ (((f345 (x4 + (1 : Int32))) &&& (255 : Int32)).toInt64)) * (1099511628211 : Int64)) ^^^ (((f345 (x4 + (2 : Int32))) &&& (255 : Int32)).toInt64)) * (1099511628211 : Int64)) ^^^ (((f345 (x4 + (3 : Int32))) &&& (255 : Int32)).toInt64)) * (1099511628211 : Int64)).toUInt64 >>> ((33 : Int32) &&& 0x3f).toInt64.toUInt64).toInt64)) * (-49064778989728563 : Int64)) ^^^ (((((((((((((-3750763034362895579 : Int64) ^^^ (((f345 x4) &&& (255 : Int32)).toInt64)) * (1099511628211 : Int64)) ^^^ (((f345 (x4 + (1 : Int32))) &&& (255 : Int32)).toInt64)) * (1099511628211 : Int64)) ^^^ (((f345 (x4 + (2 : Int32))) &&& (255 : Int32)).toInt64)) * (1099511628211 : Int64)) ^^^ (((f345 (x4 + (3 : Int32))) &&& (255 : Int32)).toInt64)) * (1099511628211 : Int64)) ^^^ (((((((((((-3750763034362895579 : Int64) ^^^ (((f345 x4) &&& (255 : Int32)).toInt64)) * (1099511628211 : Int64)) ^^^ (((f345 (x4 + (1 : Int32))) &&& (255 : Int32)).toInt64)) * (1099511628211 : Int64)) ^^^ (((f345 (x4 + (2 : Int32))) &&& (255 : Int32)).toInt64)) * (1099511628211 : Int64)) ^^^ (((f345 (x4 + (3 : Int32))) &&& (255 : Int32)).toInt64)) * (1099511628211 : Int64)).toUInt64 >>> ((33 : Int32) &&& 0x3f).toInt64.toUInt64).toInt64)) * (-49064778989728563 : Int64)).toUInt64 >>> ((33 : Int32) &&& 0x3f).toInt64.toUInt64).toInt64)) * (-4265267296055464877 : Int64)) ^^^ (((((((((((((((-3750763034362895579 : Int64) ^^^ (((f345 x4) &&& (255 : Int32)).toInt64)) * (1099511628211 : Int64)) ^^^ (((f345 (x4 + (1 : Int32))) &&& (255 : Int32)).toInt64)) * (1099511628211 : Int64)) ^^^ (((f345 (x4 + (2 : Int32))) &&& (255 : Int32)).toInt64)) * (1099511628211 : Int64)) ^^^ (((f345 (x4 + (3 : Int32))) &&& (255 : Int32)).toInt64)) * (1099511628211 : Int64)) ^^^ (((((((((((-3750763034362895579 : Int64) ^^^ (((f345 x4) &&& (255 : Int32)).toInt64)) * (1099511628211 : Int64)) ^^^ (((f345 (x4 + (1 : Int32))) &&& (255 : Int32)).toInt64)) * (1099511628211 : Int64)) ^^^ (((f345 (x4 + (2 : Int32))) &&& (255 : Int32)).toInt64)) * (1099511628211 : Int64)) ^^^ (((f345 (x4 + (3 : Int32))) &&& (255 : Int32)).toInt64)) * (1099511628211 : Int64)).toUInt64 >>> ((33 : Int32) &&& 0x3f).toInt64.toUInt64).toInt64)) * (-49064778989728563 : Int64)) ^^^ (((((((((((((-3750763034362895579 : Int64) ^^^ (((f345 x4) &&& (255 : Int32)).toInt64)) * (1099511628211 : Int64)) ^^^ (((f345 (x4 + (1 : Int32))) &&& (255 : Int32)).toInt64)) * (1099511628211 : Int64)) ^^^ (((f345 (x4 + (2 : Int32))) &&& (255 : Int32)).toInt64)) * (1099511628211 : Int64)) ^^^ (((f345 (x4 + (3 : Int32))) &&& (255 : Int32)).toInt64)) * (1099511628211 : Int64)) ^^^ (((((((((((-3750763034362895579 : Int64) ^^^ (((f345 x4) &&& (255 : Int32)).toInt64)) * (1099511628211 : Int64)) ^^^ (((f345 (x4 + (1 : Int32))) &&& (255 : Int32)).toInt64)) * (1099511628211 : Int64)) ^^^ (((f345 (x4 + (2 : Int32))) &&& (255 : Int32)).toInt64)) * (1099511628211 : Int64)) ^^^ (((f345 (x4 + (3 : Int32))) &&& (255 : Int32)).toInt64)) * (1099511628211 : Int64)).toUInt64 >>> ((33 : Int32) &&& 0x3f).toInt64.toUInt64).toInt64)) * (-49064778989728563 : Int64)).toUInt64 >>> ((33 : Int32) &&& 0x3f).toInt64.toUInt64).toInt64)) * (-4265267296055464877 : Int64)).toUInt64 >>> ((33 : Int32) &&& 0x3f).toInt64.toUInt64).toInt64)))])) _
      rw [← hx370]
      show Steps p.tables e below (T369.setTop (mkF m 114 A367 [(.long x370)])) _
      refine XS.lstore X369.here hx rfl (hb hby at_114) rfl (l' := A371) rfl ?_
      show Steps p.tables e below (T369.setTop (mkF m 116 A371 [])) _
      refine XS.lload X369.here hx rfl (hb hby at_116) rfl ?_
      show Steps p.tables e below (T369.setTop (mkF m 118 A371 [(.long x366)])) _
      refine XS.lload X369.here hx rfl (hb hby at_118) rfl ?_
      show Steps p.tables e below (T369.setTop (mkF m 120 A371 [(.long x370), (.long x366)])) _
      refine XS.lcmp X369.here hx rfl (hb hby at_120) rfl ?_
      exact k
    obtain ⟨v374, hv374⟩ : ∃ z : Int32, z = (if x366 = x370 then (1 : Int32) else (0 : Int32)) := ⟨_, rfl⟩
    obtain ⟨T375, Lo375, X375, N375, e375, G375⟩ := own_join X369 N369 (h := T362.heap) (mkF m 121 A371 [(.int (lcmpW x366 x370))]) (mkF m 129 A371 [(.int v374)]) (by
      by_cases h121_373 : x366 = x370
      · refine ⟨T369, _, X369, N369, e369, fun t k => ?_⟩
        rw [show v374 = (1 : Int32) from hv374.trans (if_pos h121_373)] at k
        show Steps p.tables e below (T369.setTop (mkF m 121 A371 [(.int (lcmpW x366 x370))])) _
        refine XS.ifNo X369.here hx rfl (hb hby at_121) rfl ((if0 _ _).trans (teq ((lw_eq _ _).mpr h121_373)).2) ?_
        show Steps p.tables e below (T369.setTop (mkF m 124 A371 [])) _
        refine XS.iconst X369.here hx rfl (hb hby at_124) ?_
        show Steps p.tables e below (T369.setTop (mkF m 125 A371 [(.int (1 : Int32))])) _
        refine XS.goto X369.here hx rfl (pc0 := 125) (pc' := 129) rfl (hb hby at_125) (by decide) (by decide) ?_
        exact k
      · refine ⟨T369, _, X369, N369, e369, fun t k => ?_⟩
        rw [show v374 = (0 : Int32) from hv374.trans (if_neg h121_373)] at k
        show Steps p.tables e below (T369.setTop (mkF m 121 A371 [(.int (lcmpW x366 x370))])) _
        refine XS.ifYes X369.here hx rfl (pc0 := 121) (pc' := 128) rfl (hb hby at_121) rfl ((if0 _ _).trans (feq (fun q => h121_373 ((lw_eq _ _).mp q))).2) (by decide) (by decide) ?_
        show Steps p.tables e below (T369.setTop (mkF m 128 A371 [])) _
        refine XS.iconst X369.here hx rfl (hb hby at_128) ?_
        exact k)
    let A376 : Array Slot := #[.val (.long q0_0), .second, .val (.long q0_1), .second, .val (.long q0_2), .second, .val (.int p0_3), .val (.int p0_4), .val (.int p0_5), .val (.int x2), .val (.int x4), .val (.int (4 : Int32)), .val (.int x8), .val (.ref bx1_0_312), .val (.ref bx1_0_329), .val (.ref bx1_0_346), .val (.long x366), .second, .val (.long x370), .second, .val (.int v374), .unset, .unset, .unset]
    obtain ⟨x377, hx377⟩ : ∃ z : Int32, z = ((x4 + (4 : Int32)) - (1 : Int32)) := ⟨_, rfl⟩
    let A378 : Array Slot := #[.val (.long q0_0), .second, .val (.long q0_1), .second, .val (.long q0_2), .second, .val (.int p0_3), .val (.int p0_4), .val (.int p0_5), .val (.int x2), .val (.int x4), .val (.int (4 : Int32)), .val (.int x8), .val (.ref bx1_0_312), .val (.ref bx1_0_329), .val (.ref bx1_0_346), .val (.long x366), .second, .val (.long x370), .second, .val (.int v374), .val (.int x377), .unset, .unset]
    obtain ⟨cl379, Ar379, Sz379, Hh379⟩ := id P362_0
    obtain ⟨cl380, Ar380, Sz380, Hh380⟩ := id P362_0
    obtain ⟨T381, h381, X381, e381, W381, st381⟩ := stB X375 hx hZ e375 Ar380 (j := x377) (inb_of Sz380 (hx377 ▸ (own_last (hx4 ▸ own_m7 ((p0_3.toUInt32 >>> ((3 : Int32) &&& 31).toUInt32).toInt32)) (c := (4 : Int32)) (d := (3 : Int32)) (by decide) (by decide)))) (g := (mkF m 161 A378 [(.int (((f363 x377) ^^^ x8).toInt8.toInt32)), (.int x377), (.ref bx1_0_346)])) rfl rfl (hb hby at_161)
    have B381 := Bya.set Ar380 Sz380 Hh380 (hx377 ▸ (own_last (hx4 ▸ own_m7 ((p0_3.toUInt32 >>> ((3 : Int32) &&& 31).toUInt32).toInt32)) (c := (4 : Int32)) (d := (3 : Int32)) (by decide) (by decide))) W381
    obtain ⟨f382, hf382⟩ : ∃ g : Int32 → Int32, g = (fun i => if i = x377 then (nar .byte (((f363 x377) ^^^ x8).toInt8.toInt32)) else f363 i) := ⟨_, rfl⟩
    rw [← hf382] at B381
    have K381 : Keep h0 h381 [] := K362.wr W381 (Or.inr sz_bx1_0_346)
    have Z381 : n0 ≤ h381.size := Nat.le_trans Z0 K381.1
    have N381 := Fr.snoc X381 N375 g_bx1_0_346
    obtain ⟨_, _, ⟨T383, L383, k383, n383⟩, -, X383, ⟨Lc383, hQ383, l383, y383, z383⟩, st383⟩ := Jvm.LawKit.callS X381 hx (y := (⟨"com/example/mortise/mortise/join/Record", "keyHash", "([BII)J"⟩ : MethodName)) hown (mvT hZ (ow9 hw)) (mvT hZ (ow10 hw)) (mvT hZ (ow11 hw)) (mvT hZ (ow12 hw)) (by decide) (backOf (W := 0) (rm3_l4 l Z a0 hw [] bx1_0_346 x4 f382 h381 n0 Z381 (hx4 ▸ own_m7 ((p0_3.toUInt32 >>> ((3 : Int32) &&& 31).toUInt32).toInt32)) B381) hZ (ow12 hw) (ow11 hw) (by decide) (by decide)) (g := (mkF m 171 A378 [(.int (x4 + (4 : Int32))), (.int x4), (.ref bx1_0_346)])) rfl (by rw [hml]; rfl) (argsL := [(.ref bx1_0_346), (.int x4), (.int (x4 + (4 : Int32)))]) (rest := []) (lenOf pd___BII_J rfl) rfl (by show 2 * 0 + _ ≤ _; exact Nat.le_of_eq rfl) (hb hby at_171) (fun _ _ => ⟨rfl, e381, (by decide : 3 + 0 ≤ _), (by decide : 36 + 0 ≤ _)⟩)
    dsimp only [Pt.U, Pt.locs, Pt.cells, Pt.slots] at X383 l383 y383 z383 st383 hQ383
    subst l383 y383 z383
    obtain ⟨rfl, Nq383, e383⟩ := hQ383
    have N383 := Fr.app N381 Nq383
    obtain ⟨x384, hx384⟩ : ∃ z : Int64, z = ((((((((((((((-3750763034362895579 : Int64) ^^^ (((f382 x4) &&& (255 : Int32)).toInt64)) * (1099511628211 : Int64)) ^^^ (((f382 (x4 + (1 : Int32))) &&& (255 : Int32)).toInt64)) * (1099511628211 : Int64)) ^^^ (((f382 (x4 + (2 : Int32))) &&& (255 : Int32)).toInt64)) * (1099511628211 : Int64)) ^^^ (((f382 (x4 + (3 : Int32))) &&& (255 : Int32)).toInt64)) * (1099511628211 : Int64)) ^^^ (((((((((((-3750763034362895579 : Int64) ^^^ (((f382 x4) &&& (255 : Int32)).toInt64)) * (1099511628211 : Int64)) ^^^ (((f382 (x4 + (1 : Int32))) &&& (255 : Int32)).toInt64)) * (1099511628211 : Int64)) ^^^ (((f382 (x4 + (2 : Int32))) &&& (255 : Int32)).toInt64)) * (1099511628211 : Int64)) ^^^ (((f382 (x4 + (3 : Int32))) &&& (255 : Int32)).toInt64)) * (1099511628211 : Int64)).toUInt64 >>> ((33 : Int32) &&& 0x3f).toInt64.toUInt64).toInt64)) * (-49064778989728563 : Int64)) ^^^ (((((((((((((-3750763034362895579 : Int64) ^^^ (((f382 x4) &&& (255 : Int32)).toInt64)) * (1099511628211 : Int64)) ^^^ (((f382 (x4 + (1 : Int32))) &&& (255 : Int32)).toInt64)) * (1099511628211 : Int64)) ^^^ (((f382 (x4 + (2 : Int32))) &&& (255 : Int32)).toInt64)) * (1099511628211 : Int64)) ^^^ (((f382 (x4 + (3 : Int32))) &&& (255 : Int32)).toInt64)) * (1099511628211 : Int64)) ^^^ (((((((((((-3750763034362895579 : Int64) ^^^ (((f382 x4) &&& (255 : Int32)).toInt64)) * (1099511628211 : Int64)) ^^^ (((f382 (x4 + (1 : Int32))) &&& (255 : Int32)).toInt64)) * (1099511628211 : Int64)) ^^^ (((f382 (x4 + (2 : Int32))) &&& (255 : Int32)).toInt64)) * (1099511628211 : Int64)) ^^^ (((f382 (x4 + (3 : Int32))) &&& (255 : Int32)).toInt64)) * (1099511628211 : Int64)).toUInt64 >>> ((33 : Int32) &&& 0x3f).toInt64.toUInt64).toInt64)) * (-49064778989728563 : Int64)).toUInt64 >>> ((33 : Int32) &&& 0x3f).toInt64.toUInt64).toInt64)) * (-4265267296055464877 : Int64)) ^^^ (((((((((((((((-3750763034362895579 : Int64) ^^^ (((f382 x4) &&& (255 : Int32)).toInt64)) * (1099511628211 : Int64)) ^^^ (((f382 (x4 + (1 : Int32))) &&& (255 : Int32)).toInt64)) * (1099511628211 : Int64)) ^^^ (((f382 (x4 + (2 : Int32))) &&& (255 : Int32)).toInt64)) * (1099511628211 : Int64)) ^^^ (((f382 (x4 + (3 : Int32))) &&& (255 : Int32)).toInt64)) * (1099511628211 : Int64)) ^^^ (((((((((((-3750763034362895579 : Int64) ^^^ (((f382 x4) &&& (255 : Int32)).toInt64)) * (1099511628211 : Int64)) ^^^ (((f382 (x4 + (1 : Int32))) &&& (255 : Int32)).toInt64)) * (1099511628211 : Int64)) ^^^ (((f382 (x4 + (2 : Int32))) &&& (255 : Int32)).toInt64)) * (1099511628211 : Int64)) ^^^ (((f382 (x4 + (3 : Int32))) &&& (255 : Int32)).toInt64)) * (1099511628211 : Int64)).toUInt64 >>> ((33 : Int32) &&& 0x3f).toInt64.toUInt64).toInt64)) * (-49064778989728563 : Int64)) ^^^ (((((((((((((-3750763034362895579 : Int64) ^^^ (((f382 x4) &&& (255 : Int32)).toInt64)) * (1099511628211 : Int64)) ^^^ (((f382 (x4 + (1 : Int32))) &&& (255 : Int32)).toInt64)) * (1099511628211 : Int64)) ^^^ (((f382 (x4 + (2 : Int32))) &&& (255 : Int32)).toInt64)) * (1099511628211 : Int64)) ^^^ (((f382 (x4 + (3 : Int32))) &&& (255 : Int32)).toInt64)) * (1099511628211 : Int64)) ^^^ (((((((((((-3750763034362895579 : Int64) ^^^ (((f382 x4) &&& (255 : Int32)).toInt64)) * (1099511628211 : Int64)) ^^^ (((f382 (x4 + (1 : Int32))) &&& (255 : Int32)).toInt64)) * (1099511628211 : Int64)) ^^^ (((f382 (x4 + (2 : Int32))) &&& (255 : Int32)).toInt64)) * (1099511628211 : Int64)) ^^^ (((f382 (x4 + (3 : Int32))) &&& (255 : Int32)).toInt64)) * (1099511628211 : Int64)).toUInt64 >>> ((33 : Int32) &&& 0x3f).toInt64.toUInt64).toInt64)) * (-49064778989728563 : Int64)).toUInt64 >>> ((33 : Int32) &&& 0x3f).toInt64.toUInt64).toInt64)) * (-4265267296055464877 : Int64)).toUInt64 >>> ((33 : Int32) &&& 0x3f).toInt64.toUInt64).toInt64)) := ⟨_, rfl⟩
    let A385 : Array Slot := #[.val (.long q0_0), .second, .val (.long q0_1), .second, .val (.long q0_2), .second, .val (.int p0_3), .val (.int p0_4), .val (.int p0_5), .val (.int x2), .val (.int x4), .val (.int (4 : Int32)), .val (.int x8), .val (.ref bx1_0_312), .val (.ref bx1_0_329), .val (.ref bx1_0_346), .val (.long x366), .second, .val (.long x370), .second, .val (.int v374), .val (.int x377), .val (.long x384), .second]
    have G386 : ∀ t, Steps p.tables e below (T383.setTop (mkF m 178 A385 [(.int v374)])) t → Steps p.tables e below (T375.setTop (mkF m 129 A371 [(.int v374)])) t := by
      intro t k
      show Steps p.tables e below (T375.setTop (mkF m 129 A371 [(.int v374)])) _
      refine XS.istore X375.here hx rfl (hb hby at_129) rfl (l' := A376) rfl ?_
      show Steps p.tables e below (T375.setTop (mkF m 131 A376 [])) _
      refine XS.iload X375.here hx rfl (hb hby at_131) rfl ?_
      show Steps p.tables e below (T375.setTop (mkF m 133 A376 [(.int (4 : Int32))])) _
      refine XS.ifYes X375.here hx rfl (pc0 := 133) (pc' := 139) rfl (hb hby at_133) rfl ((if0 _ _).trans (feq (by decide : ¬ ((4 : Int32) = (0 : Int32)))).2) (by decide) (by decide) ?_
      show Steps p.tables e below (T375.setTop (mkF m 139 A376 [])) _
      refine XS.iload X375.here hx rfl (hb hby at_139) rfl ?_
      show Steps p.tables e below (T375.setTop (mkF m 141 A376 [(.int x4)])) _
      refine XS.iload X375.here hx rfl (hb hby at_141) rfl ?_
      show Steps p.tables e below (T375.setTop (mkF m 143 A376 [(.int (4 : Int32)), (.int x4)])) _
      refine XS.iadd X375.here hx rfl (hb hby at_143) rfl ?_
      show Steps p.tables e below (T375.setTop (mkF m 144 A376 [(.int (x4 + (4 : Int32)))])) _
      refine XS.iconst X375.here hx rfl (hb hby at_144) ?_
      show Steps p.tables e below (T375.setTop (mkF m 145 A376 [(.int (1 : Int32)), (.int (x4 + (4 : Int32)))])) _
      refine XS.isub X375.here hx rfl (hb hby at_145) rfl ?_
      show Steps p.tables e below (T375.setTop (mkF m 146 A376 [(.int ((x4 + (4 : Int32)) - (1 : Int32)))])) _
      refine XS.istore X375.here hx rfl (hb hby at_146) rfl (l' := #[.val (.long q0_0), .second, .val (.long q0_1), .second, .val (.long q0_2), .second, .val (.int p0_3), .val (.int p0_4), .val (.int p0_5), .val (.int x2), .val (.int x4), .val (.int (4 : Int32)), .val (.int x8), .val (.ref bx1_0_312), .val (.ref bx1_0_329), .val (.ref bx1_0_346), .val (.long x366), .second, .val (.long x370), .second, .val (.int v374), .val (.int ((x4 + (4 : Int32)) - (1 : Int32))), .unset, .unset]) rfl ?_
      show Steps p.tables e below (T375.setTop (mkF m 148 #[.val (.long q0_0), .second, .val (.long q0_1), .second, .val (.long q0_2), .second, .val (.int p0_3), .val (.int p0_4), .val (.int p0_5), .val (.int x2), .val (.int x4), .val (.int (4 : Int32)), .val (.int x8), .val (.ref bx1_0_312), .val (.ref bx1_0_329), .val (.ref bx1_0_346), .val (.long x366), .second, .val (.long x370), .second, .val (.int v374), .val (.int ((x4 + (4 : Int32)) - (1 : Int32))), .unset, .unset] [])) _
      rw [← hx377]
      show Steps p.tables e below (T375.setTop (mkF m 148 A378 [])) _
      refine XS.aload X375.here hx rfl (hb hby at_148) rfl rfl ?_
      show Steps p.tables e below (T375.setTop (mkF m 150 A378 [(.ref bx1_0_346)])) _
      refine XS.iload X375.here hx rfl (hb hby at_150) rfl ?_
      show Steps p.tables e below (T375.setTop (mkF m 152 A378 [(.int x377), (.ref bx1_0_346)])) _
      refine XS.aload X375.here hx rfl (hb hby at_152) rfl rfl ?_
      show Steps p.tables e below (T375.setTop (mkF m 154 A378 [(.ref bx1_0_346), (.int x377), (.ref bx1_0_346)])) _
      refine XS.iload X375.here hx rfl (hb hby at_154) rfl ?_
      show Steps p.tables e below (T375.setTop (mkF m 156 A378 [(.int x377), (.ref bx1_0_346), (.int x377), (.ref bx1_0_346)])) _
      refine X375.baloadBytes hx (j := x377) (v := (.int (f363 x377))) (by rw [e375]; exact Ar379.1) (State.isArrayOf_alike hZ.alike Ar379.2.1) Ar379.2.2 (inb_of Sz379 (hx377 ▸ (own_last (hx4 ▸ own_m7 ((p0_3.toUInt32 >>> ((3 : Int32) &&& 31).toUInt32).toInt32)) (c := (4 : Int32)) (d := (3 : Int32)) (by decide) (by decide)))) (Hh379 _ (hx377 ▸ (own_last (hx4 ▸ own_m7 ((p0_3.toUInt32 >>> ((3 : Int32) &&& 31).toUInt32).toInt32)) (c := (4 : Int32)) (d := (3 : Int32)) (by decide) (by decide))).1 (hx377 ▸ (own_last (hx4 ▸ own_m7 ((p0_3.toUInt32 >>> ((3 : Int32) &&& 31).toUInt32).toInt32)) (c := (4 : Int32)) (d := (3 : Int32)) (by decide) (by decide))).2) (g := (mkF m 156 A378 [(.int x377), (.ref bx1_0_346), (.int x377), (.ref bx1_0_346)])) rfl rfl (hb hby at_156) _ ?_
      show Steps p.tables e below (T375.setTop (mkF m 157 A378 [(.int (f363 x377)), (.int x377), (.ref bx1_0_346)])) _
      refine XS.iload X375.here hx rfl (hb hby at_157) rfl ?_
      show Steps p.tables e below (T375.setTop (mkF m 159 A378 [(.int x8), (.int (f363 x377)), (.int x377), (.ref bx1_0_346)])) _
      refine XS.ixor X375.here hx rfl (hb hby at_159) rfl ?_
      show Steps p.tables e below (T375.setTop (mkF m 160 A378 [(.int ((f363 x377) ^^^ x8)), (.int x377), (.ref bx1_0_346)])) _
      refine XS.i2b X375.here hx rfl (hb hby at_160) rfl ?_
      show Steps p.tables e below (T375.setTop (mkF m 161 A378 [(.int (((f363 x377) ^^^ x8).toInt8.toInt32)), (.int x377), (.ref bx1_0_346)])) _
      refine st381 _ ?_
      show Steps p.tables e below (T381.setTop (mkF m 162 A378 [])) _
      refine XS.aload X381.here hx rfl (hb hby at_162) rfl rfl ?_
      show Steps p.tables e below (T381.setTop (mkF m 164 A378 [(.ref bx1_0_346)])) _
      refine XS.iload X381.here hx rfl (hb hby at_164) rfl ?_
      show Steps p.tables e below (T381.setTop (mkF m 166 A378 [(.int x4), (.ref bx1_0_346)])) _
      refine XS.iload X381.here hx rfl (hb hby at_166) rfl ?_
      show Steps p.tables e below (T381.setTop (mkF m 168 A378 [(.int x4), (.int x4), (.ref bx1_0_346)])) _
      refine XS.iload X381.here hx rfl (hb hby at_168) rfl ?_
      show Steps p.tables e below (T381.setTop (mkF m 170 A378 [(.int (4 : Int32)), (.int x4), (.int x4), (.ref bx1_0_346)])) _
      refine XS.iadd X381.here hx rfl (hb hby at_170) rfl ?_
      show Steps p.tables e below (T381.setTop (mkF m 171 A378 [(.int (x4 + (4 : Int32))), (.int x4), (.ref bx1_0_346)])) _
      refine st383 _ ?_
      show Steps p.tables e below (T383.setTop (mkF m 174 #[.val (.long q0_0), .second, .val (.long q0_1), .second, .val (.long q0_2), .second, .val (.int p0_3), .val (.int p0_4), .val (.int p0_5), .val (.int x2), .val (.int x4), .val (.int (4 : Int32)), .val (.int x8), .val (.ref bx1_0_312), .val (.ref bx1_0_329), .val (.ref bx1_0_346), .val (.long x366), .second, .val (.long x370), .second, .val (.int v374), .val (.int x377), .unset, .unset] [(.long ((((((((((((((-3750763034362895579 : Int64) ^^^ (((f382 x4) &&& (255 : Int32)).toInt64)) * (1099511628211 : Int64)) ^^^ (((f382 (x4 + (1 : Int32))) &&& (255 : Int32)).toInt64)) * (1099511628211 : Int64)) ^^^ (((f382 (x4 + (2 : Int32))) &&& (255 : Int32)).toInt64)) * (1099511628211 : Int64)) ^^^ (((f382 (x4 + (3 : Int32))) &&& (255 : Int32)).toInt64)) * (1099511628211 : Int64)) ^^^ (((((((((((-3750763034362895579 : Int64) ^^^ (((f382 x4) &&& (255 : Int32)).toInt64)) * (1099511628211 : Int64)) ^^^ (((f382 (x4 + (1 : Int32))) &&& (255 : Int32)).toInt64)) * (1099511628211 : Int64)) ^^^ (((f382 (x4 + (2 : Int32))) &&& (255 : Int32)).toInt64)) * (1099511628211 : Int64)) ^^^ (((f382 (x4 + (3 : Int32))) &&& (255 : Int32)).toInt64)) * (1099511628211 : Int64)).toUInt64 >>> ((33 : Int32) &&& 0x3f).toInt64.toUInt64).toInt64)) * (-49064778989728563 : Int64)) ^^^ (((((((((((((-3750763034362895579 : Int64) ^^^ (((f382 x4) &&& (255 : Int32)).toInt64)) * (1099511628211 : Int64)) ^^^ (((f382 (x4 + (1 : Int32))) &&& (255 : Int32)).toInt64)) * (1099511628211 : Int64)) ^^^ (((f382 (x4 + (2 : Int32))) &&& (255 : Int32)).toInt64)) * (1099511628211 : Int64)) ^^^ (((f382 (x4 + (3 : Int32))) &&& (255 : Int32)).toInt64)) * (1099511628211 : Int64)) ^^^ (((((((((((-3750763034362895579 : Int64) ^^^ (((f382 x4) &&& (255 : Int32)).toInt64)) * (1099511628211 : Int64)) ^^^ (((f382 (x4 + (1 : Int32))) &&& (255 : Int32)).toInt64)) * (1099511628211 : Int64)) ^^^ (((f382 (x4 + (2 : Int32))) &&& (255 : Int32)).toInt64)) * (1099511628211 : Int64)) ^^^ (((f382 (x4 + (3 : Int32))) &&& (255 : Int32)).toInt64)) * (1099511628211 : Int64)).toUInt64 >>> ((33 : Int32) &&& 0x3f).toInt64.toUInt64).toInt64)) * (-49064778989728563 : Int64)).toUInt64 >>> ((33 : Int32) &&& 0x3f).toInt64.toUInt64).toInt64)) * (-4265267296055464877 : Int64)) ^^^ (((((((((((((((-3750763034362895579 : Int64) ^^^ (((f382 x4) &&& (255 : Int32)).toInt64)) * (1099511628211 : Int64)) ^^^ (((f382 (x4 + (1 : Int32))) &&& (255 : Int32)).toInt64)) * (1099511628211 : Int64)) ^^^ (((f382 (x4 + (2 : Int32))) &&& (255 : Int32)).toInt64)) * (1099511628211 : Int64)) ^^^ (((f382 (x4 + (3 : Int32))) &&& (255 : Int32)).toInt64)) * (1099511628211 : Int64)) ^^^ (((((((((((-3750763034362895579 : Int64) ^^^ (((f382 x4) &&& (255 : Int32)).toInt64)) * (1099511628211 : Int64)) ^^^ (((f382 (x4 + (1 : Int32))) &&& (255 : Int32)).toInt64)) * (1099511628211 : Int64)) ^^^ (((f382 (x4 + (2 : Int32))) &&& (255 : Int32)).toInt64)) * (1099511628211 : Int64)) ^^^ (((f382 (x4 + (3 : Int32))) &&& (255 : Int32)).toInt64)) * (1099511628211 : Int64)).toUInt64 >>> ((33 : Int32) &&& 0x3f).toInt64.toUInt64).toInt64)) * (-49064778989728563 : Int64)) ^^^ (((((((((((((-3750763034362895579 : Int64) ^^^ (((f382 x4) &&& (255 : Int32)).toInt64)) * (1099511628211 : Int64)) ^^^ (((f382 (x4 + (1 : Int32))) &&& (255 : Int32)).toInt64)) * (1099511628211 : Int64)) ^^^ (((f382 (x4 + (2 : Int32))) &&& (255 : Int32)).toInt64)) * (1099511628211 : Int64)) ^^^ (((f382 (x4 + (3 : Int32))) &&& (255 : Int32)).toInt64)) * (1099511628211 : Int64)) ^^^ (((((((((((-3750763034362895579 : Int64) ^^^ (((f382 x4) &&& (255 : Int32)).toInt64)) * (1099511628211 : Int64)) ^^^ (((f382 (x4 + (1 : Int32))) &&& (255 : Int32)).toInt64)) * (1099511628211 : Int64)) ^^^ (((f382 (x4 + (2 : Int32))) &&& (255 : Int32)).toInt64)) * (1099511628211 : Int64)) ^^^ (((f382 (x4 + (3 : Int32))) &&& (255 : Int32)).toInt64)) * (1099511628211 : Int64)).toUInt64 >>> ((33 : Int32) &&& 0x3f).toInt64.toUInt64).toInt64)) * (-49064778989728563 : Int64)).toUInt64 >>> ((33 : Int32) &&& 0x3f).toInt64.toUInt64).toInt64)) * (-4265267296055464877 : Int64)).toUInt64 >>> ((33 : Int32) &&& 0x3f).toInt64.toUInt64).toInt64)))])) _
      rw [← hx384]
      show Steps p.tables e below (T383.setTop (mkF m 174 A378 [(.long x384)])) _
      refine XS.lstore X383.here hx rfl (hb hby at_174) rfl (l' := A385) rfl ?_
      show Steps p.tables e below (T383.setTop (mkF m 176 A385 [])) _
      refine XS.iload X383.here hx rfl (hb hby at_176) rfl ?_
      exact k
    obtain ⟨v390, hv390⟩ : ∃ z : Int32, z = (if v374 = (0 : Int32) then (0 : Int32) else (if x384 = x370 then (0 : Int32) else (1 : Int32))) := ⟨_, rfl⟩
    obtain ⟨T391, Lo391, X391, N391, e391, G391⟩ := own_join X383 N383 (h := h381) (mkF m 178 A385 [(.int v374)]) (mkF m 194 A385 [(.int v390)]) (by
      by_cases h178_387 : v374 = (0 : Int32)
      · refine ⟨T383, _, X383, N383, e383, fun t k => ?_⟩
        rw [show v390 = (0 : Int32) from hv390.trans (if_pos h178_387)] at k
        show Steps p.tables e below (T383.setTop (mkF m 178 A385 [(.int v374)])) _
        refine XS.ifYes X383.here hx rfl (pc0 := 178) (pc' := 193) rfl (hb hby at_178) rfl ((if0 _ _).trans (teq h178_387).1) (by decide) (by decide) ?_
        show Steps p.tables e below (T383.setTop (mkF m 193 A385 [])) _
        refine XS.iconst X383.here hx rfl (hb hby at_193) ?_
        exact k
      · have G388 : ∀ t, Steps p.tables e below (T383.setTop (mkF m 186 A385 [(.int (lcmpW x384 x370))])) t → Steps p.tables e below (T383.setTop (mkF m 178 A385 [(.int v374)])) t := by
          intro t k
          show Steps p.tables e below (T383.setTop (mkF m 178 A385 [(.int v374)])) _
          refine XS.ifNo X383.here hx rfl (hb hby at_178) rfl ((if0 _ _).trans (feq h178_387).1) ?_
          show Steps p.tables e below (T383.setTop (mkF m 181 A385 [])) _
          refine XS.lload X383.here hx rfl (hb hby at_181) rfl ?_
          show Steps p.tables e below (T383.setTop (mkF m 183 A385 [(.long x384)])) _
          refine XS.lload X383.here hx rfl (hb hby at_183) rfl ?_
          show Steps p.tables e below (T383.setTop (mkF m 185 A385 [(.long x370), (.long x384)])) _
          refine XS.lcmp X383.here hx rfl (hb hby at_185) rfl ?_
          exact k
        by_cases h186_389 : x384 = x370
        · refine ⟨T383, _, X383, N383, e383, fun t k => ?_⟩
          rw [show v390 = (0 : Int32) from hv390.trans ((if_neg h178_387).trans (if_pos h186_389))] at k
          refine G388 _ ?_
          show Steps p.tables e below (T383.setTop (mkF m 186 A385 [(.int (lcmpW x384 x370))])) _
          refine XS.ifYes X383.here hx rfl (pc0 := 186) (pc' := 193) rfl (hb hby at_186) rfl ((if0 _ _).trans (teq ((lw_eq _ _).mpr h186_389)).1) (by decide) (by decide) ?_
          show Steps p.tables e below (T383.setTop (mkF m 193 A385 [])) _
          refine XS.iconst X383.here hx rfl (hb hby at_193) ?_
          exact k
        · refine ⟨T383, _, X383, N383, e383, fun t k => ?_⟩
          rw [show v390 = (1 : Int32) from hv390.trans ((if_neg h178_387).trans (if_neg h186_389))] at k
          refine G388 _ ?_
          show Steps p.tables e below (T383.setTop (mkF m 186 A385 [(.int (lcmpW x384 x370))])) _
          refine XS.ifNo X383.here hx rfl (hb hby at_186) rfl ((if0 _ _).trans (feq (fun q => h186_389 ((lw_eq _ _).mp q))).1) ?_
          show Steps p.tables e below (T383.setTop (mkF m 189 A385 [])) _
          refine XS.iconst X383.here hx rfl (hb hby at_189) ?_
          show Steps p.tables e below (T383.setTop (mkF m 190 A385 [(.int (1 : Int32))])) _
          refine XS.goto X383.here hx rfl (pc0 := 190) (pc' := 194) rfl (hb hby at_190) (by decide) (by decide) ?_
          exact k)
    have fin : v390 = (1 : Int32) := by
      exact own_fin4 q0_0 q0_1 q0_2 p0_3 p0_4 p0_5 x2 hx2 x4 hx4 x6 hx6 x8 hx8 y313 hy313 y314 hy314 y315 hy315 y316 hy316 y317 hy317 y318 hy318 y319 hy319 y320 hy320 y321 hy321 y322 hy322 y323 hy323 y324 hy324 f326 hf326 f328 hf328 y330 hy330 y331 hy331 y332 hy332 y333 hy333 y334 hy334 y335 hy335 y336 hy336 y337 hy337 y338 hy338 y339 hy339 y340 hy340 y341 hy341 f343 hf343 f345 hf345 y348 hy348 y349 hy349 y350 hy350 y351 hy351 y352 hy352 y353 hy353 y354 hy354 y355 hy355 y356 hy356 y357 hy357 y358 hy358 y359 hy359 f361 hf361 f363 hf363 x366 hx366 x370 hx370 v374 hv374 x377 hx377 f382 hf382 x384 hx384 v390 hv390 hc15
    obtain ⟨fs, hr, hrun, hended, hW, hsame⟩ := X391.leave (v := some (.int (1 : Int32))) (fun h => by rw [Bd.returns] at h; cases h)
    refine ⟨_, _, pre0 _ ?_, hrun, hended, _, _, rfl, ?_, ⟨_, rfl⟩, hW, hsame.mono (by decide) (by decide)⟩
    · refine G10 _ ?_
      refine G372 _ ?_
      refine G375 _ ?_
      refine G386 _ ?_
      refine G391 _ ?_
      show Steps p.tables e below (T391.setTop (mkF m 194 A385 [(.int v390)])) _
      rw [fin]
      exact retN X391 hx (t := .boolean) Bd.returns (by simp) (hb hby at_194) hr
    · exact ⟨rfl, N391⟩
set_option maxRecDepth 65536 in
set_option maxHeartbeats 40000000 in
theorem comes_1 {Post : Tables → Env → Array Value → State → Outcome → State → Prop} (hpost : ∀ tb e args s v u, (limb_1_1.after args s (.returned v) u = true ∧ limb_1_2.after args s (.returned v) u = true ∧ True) → FrameEnd s (.returned v) u (Jvm.fieldLocs frame_1_writes args s ++ Jvm.arrayLocs frame_1_arrays args s ++ Jvm.staticLocs frame_1_statics s) 16 192 → Post tb e args s (.returned v) u) :
    ArmFor flags0 classFile x code maxLocals ret World_1 tables_1 room_1 Calls_1 rest_1 Pre_1 Post := by
  intro l hfl _ _ p e ha hc hk s m args below hf hA hF happ hP
  obtain ⟨hcalls, hrest, hpre⟩ := hP
  obtain ⟨-, -, -, hnamed, -, -, -, hat⟩ := (Spec.applies_iff hf).mp happ
  obtain ⟨hg, hn⟩ := and_e (Cond.before_iff.mp (show (Jvm.Cond.and given_1 narrow_1).before args s = true from hpre))
  obtain ⟨g1, g2⟩ := and_e hg
  obtain ⟨g3, g4⟩ := and_e g2
  obtain ⟨g5, g6⟩ := and_e g4
  obtain ⟨g7, g8⟩ := and_e g6
  obtain ⟨g9, g10⟩ := and_e g8
  obtain ⟨g11, g12⟩ := and_e g10
  obtain ⟨w0, w1, w2, w3, w4, w5, rfl⟩ : ∃ w0 w1 w2 w3 w4 w5 : Value, args = #[w0, w1, w2, w3, w4, w5] := by
    have hs : args.size = 6 := by simpa [Cond.value, given_1] using g1
    obtain ⟨L⟩ := args
    match L, hs with
    | [w0, w1, w2, w3, w4, w5], _ => exact ⟨w0, w1, w2, w3, w4, w5, rfl⟩
  have hw := fun d (hd : d ∈ tables_1) => atoms_spec (ws := Jvm.Cond.code x code maxLocals ret :: tables_1) hat d (List.mem_cons_of_mem _ hd)
  have hfit : Fit s := fun {y c} hc i hi => by
    obtain ⟨ha, rfl⟩ := Array.getElem?_eq_some_iff.mp hc
    have q := List.all_eq_true.mp ((Array.all_eq_true_iff_forall_mem.mp hF) _ (Array.getElem_mem ha)) i (List.mem_range.mpr hi)
    simpa [Array.getElem?_eq_getElem hi] using q
  obtain ⟨i0, ei0⟩ := isL_v g3
  obtain rfl : w0 = (.long i0) := Option.some.inj ei0
  obtain ⟨i1, ei1⟩ := isL_v g5
  obtain rfl : w1 = (.long i1) := Option.some.inj ei1
  obtain ⟨i2, ei2⟩ := isL_v g7
  obtain rfl : w2 = (.long i2) := Option.some.inj ei2
  obtain ⟨i3, ei3⟩ := is_v g9
  obtain rfl : w3 = (.int i3) := Option.some.inj ei3
  obtain ⟨i4, ei4⟩ := is_v g11
  obtain rfl : w4 = (.int i4) := Option.some.inj ei4
  obtain ⟨i5, ei5⟩ := is_v g12
  obtain rfl : w5 = (.int i5) := Option.some.inj ei5
  obtain ⟨n, o, h1, h2, h3, _, L, rfl, ⟨rfl, N⟩, hq⟩ := rm0 l s _ hw tables_1 i0 i1 i2 i3 i4 i5 s.heap s.heap.size (Nat.le_refl _) p e ha hc hk s m _ below hf ((Spec.applies_iff_loose hf).mp happ).1 ⟨rfl, State.Warmed39.refl s, rfl⟩ trivial
  refine ⟨n, _, h1, h2, h3, hpost _ _ _ _ _ _ ⟨Cond.after_iff.mpr rfl, Cond.after_iff.mpr (eq_i res_at (Term.int_eval (1)) rfl), trivial⟩ ⟨hq.1, hq.2.1, (hq.2.2.sift fun y hy => Or.inr (N y hy)).mono (by decide) (by decide)⟩⟩
theorem main_1_1 : Claimed_1_1 := comes_1 fun _ _ _ _ _ _ h hF => ⟨h.1, hF⟩
theorem main_1_2 : Claimed_1_2 := comes_1 fun _ _ _ _ _ _ h hF => ⟨h.2.1, hF⟩
end Jvm.Pilot.@@N@@
namespace Jvm.Pilot.@@N@@
open Jvm Jvm.ClassFile Sem Op Lib Jvm.Free Jvm.Stand Jvm.Pilot.@@N@@.Jvm.D
/-! MADE BY PROGRAM (witnessworld.py) out of the Statement's table words and the real class files: 9 classes; the members and pool entries that the words name. The judged class is class 1, her method 3. -/
namespace start1
open Jvm.ClassFile
def u (s : String) : CpInfo := .utf8 (stringToUtf16 s)
/-- a pool by its gaps: so many unusable entries, then the entry; so many at the end -/
def gap : Nat → List CpInfo → List CpInfo
  | 0, r => r
  | n + 1, r => .unusable :: gap n r
def poolList (es : List (Nat × CpInfo)) (last : Nat) : List CpInfo := es.foldr (fun e r => gap e.1 (e.2 :: r)) (gap last [])
def pool (es : List (Nat × CpInfo)) (last : Nat) : Array CpInfo := ⟨poolList es last⟩
def fileOf (pool : Array CpInfo) (this : Nat) (attrs : Array Attribute := #[]) (ms : Array MethodInfo := #[]) (fl : Nat := 33) (sup : Nat := 0) (ifs : Array Nat := #[]) (fds : Array FieldInfo := #[]) : ClassFile where
  minorVersion := 0
  majorVersion := 65
  constantPool := pool
  accessFlags := fl
  thisClass := this
  superClass := sup
  interfaces := ifs
  fields := fds
  methods := ms
  attributes := attrs
def plain (name : String) (sup : Option ClassId) : Class where
  name := name
  kind := .ordinary
  loader := none
  accessFlags := 33
  super := sup
  interfaces := #[]
  cf := none
  fields := #[]
  methods := #[]
  instanceTypes := #[]
  staticTypes := #[]
  resolved := #[]
  callSites := []
  init := .initialized
  statics := none
  mirror := none

def pool0 : Array CpInfo := pool [(5, u "<init>"), (0, u "()V"), (1, .class_ 10), (1, u "java/lang/Object")] 113

def k0m0 : Method := { name := "<init>", desc := "()V", sig := { parameters := [], returnType := none }, accessFlags := 1, code := none }
/-- java/lang/Object -/
def k0 : Class := { plain "java/lang/Object" none with
  accessFlags := 33
  interfaces := #[]
  cf := some (fileOf pool0 8 #[] #[{ accessFlags := 1, nameIndex := 5, descriptorIndex := 6, attributes := #[] }] 33 0 #[] #[])
  fields := #[]
  methods := #[k0m0]
  instanceTypes := #[]
  staticTypes := #[]
  resolved := Array.replicate 124 none
  statics := none }

def pool1 : Array CpInfo := pool [(2, .class_ 4), (1, u "java/lang/Object"), (0, u "<init>"), (0, u "()V"), (0, .integer 2147483647), (0, .methodref 9 10), (0, .class_ 11), (0, .nameAndType 12 13), (0, u "com/example/mortise/mortise/join/RecordKeyHashPinLaw"), (0, u "fill"), (0, u "(J)[B"), (0, .methodref 9 15), (0, .nameAndType 16 17), (0, u "place"), (0, u "([BIJI)V"), (0, .methodref 19 20), (0, .class_ 21), (0, .nameAndType 22 23), (0, u "com/example/mortise/mortise/join/Record"), (0, u "keyHash"), (0, u "([BII)J"), (3, u "law"), (0, u "(JJJIII)Z")] 4

def k1m0 : Method := { name := "<init>", desc := "()V", sig := { parameters := [], returnType := none }, accessFlags := 1, code := none }
def k1c1 : Code := { maxStack := 5, maxLocals := 3, code := method_2_code, exceptionTable := #[], attributes := #[] }
def k1m1 : Method := { name := "fill", desc := "(J)[B", sig := { parameters := [.long], returnType := some (.array .byte) }, accessFlags := 10, code := some k1c1 }
def k1c2 : Code := { maxStack := 5, maxLocals := 5, code := method_3_code, exceptionTable := #[], attributes := #[] }
def k1m2 : Method := { name := "place", desc := "([BIJI)V", sig := { parameters := [(.array .byte), .int, .long, .int], returnType := none }, accessFlags := 10, code := some k1c2 }
def k1c3 : Code := { maxStack := 5, maxLocals := 24, code := code, exceptionTable := #[], attributes := #[] }
def k1m3 : Method := { name := "law", desc := "(JJJIII)Z", sig := { parameters := [.long, .long, .long, .int, .int, .int], returnType := some .boolean }, accessFlags := 9, code := some k1c3 }
/-- com/example/mortise/mortise/join/RecordKeyHashPinLaw -/
def k1 : Class := { plain "com/example/mortise/mortise/join/RecordKeyHashPinLaw" (some 0) with
  accessFlags := 49
  interfaces := #[]
  cf := some (fileOf pool1 9 #[] #[{ accessFlags := 1, nameIndex := 5, descriptorIndex := 6, attributes := #[] }, { accessFlags := 10, nameIndex := 12, descriptorIndex := 13, attributes := #[] }, { accessFlags := 10, nameIndex := 16, descriptorIndex := 17, attributes := #[] }, { accessFlags := 9, nameIndex := 27, descriptorIndex := 28, attributes := #[] }] 49 2 #[] #[])
  fields := #[]
  methods := #[k1m0, k1m1, k1m2, k1m3]
  instanceTypes := #[]
  staticTypes := #[]
  resolved := Array.replicate 33 none
  statics := none }

def pool2 : Array CpInfo := pool [(2, .class_ 4), (1, u "com/example/mortise/mortise/join/Record"), (3, .class_ 10), (1, u "java/lang/Object"), (3, u "bytes"), (0, u "[B"), (2, u "lineStart"), (0, u "I"), (2, u "lineEnd"), (2, u "keyStart"), (2, u "keyEnd"), (2, u "keyHash"), (0, u "([BII)J"), (0, .long 14695981039346656037), (1, .long 1099511628211), (1, .long 18397679294719823053), (1, .long 14181476777654086739)] 11

def k2c0 : Code := { maxStack := 5, maxLocals := 6, code := prog_36_method_9_code, exceptionTable := #[], attributes := #[] }
def k2m0 : Method := { name := "keyHash", desc := "([BII)J", sig := { parameters := [(.array .byte), .int, .int], returnType := some .long }, accessFlags := 8, code := some k2c0 }
/-- com/example/mortise/mortise/join/Record -/
def k2 : Class := { plain "com/example/mortise/mortise/join/Record" (some 0) with
  accessFlags := 48
  interfaces := #[]
  cf := some (fileOf pool2 2 #[] #[{ accessFlags := 8, nameIndex := 31, descriptorIndex := 32, attributes := #[] }] 48 8 #[] #[{ accessFlags := 18, nameIndex := 14, descriptorIndex := 15, attributes := #[] }, { accessFlags := 18, nameIndex := 18, descriptorIndex := 19, attributes := #[] }, { accessFlags := 18, nameIndex := 22, descriptorIndex := 19, attributes := #[] }, { accessFlags := 18, nameIndex := 25, descriptorIndex := 19, attributes := #[] }, { accessFlags := 18, nameIndex := 28, descriptorIndex := 19, attributes := #[] }])
  fields := #[{ name := "bytes", type := (.array .byte), accessFlags := 18, slot := 0, constantValue := 0 }, { name := "lineStart", type := .int, accessFlags := 18, slot := 1, constantValue := 0 }, { name := "lineEnd", type := .int, accessFlags := 18, slot := 2, constantValue := 0 }, { name := "keyStart", type := .int, accessFlags := 18, slot := 3, constantValue := 0 }, { name := "keyEnd", type := .int, accessFlags := 18, slot := 4, constantValue := 0 }]
  methods := #[k2m0]
  instanceTypes := #[(.array .byte), .int, .int, .int, .int]
  staticTypes := #[]
  resolved := Array.replicate 51 none
  statics := none }

def pool3 : Array CpInfo := pool [(1, u "java/lang/Cloneable"), (0, .class_ 1), (0, u "java/lang/Object"), (0, .class_ 3)] 3

/-- java/lang/Cloneable -/
def k3 : Class := { plain "java/lang/Cloneable" (some 0) with
  accessFlags := 1537
  interfaces := #[]
  cf := some (fileOf pool3 2 #[] #[] 1537 4 #[] #[])
  fields := #[]
  methods := #[]
  instanceTypes := #[]
  staticTypes := #[]
  resolved := Array.replicate 8 none
  statics := none }

def pool4 : Array CpInfo := pool [(1, u "java/io/Serializable"), (0, .class_ 1), (0, u "java/lang/Object"), (0, .class_ 3)] 3

/-- java/io/Serializable -/
def k4 : Class := { plain "java/io/Serializable" (some 0) with
  accessFlags := 1537
  interfaces := #[]
  cf := some (fileOf pool4 2 #[] #[] 1537 4 #[] #[])
  fields := #[]
  methods := #[]
  instanceTypes := #[]
  staticTypes := #[]
  resolved := Array.replicate 8 none
  statics := none }

/-- the primitive byte -/
def k5 : Class := { plain "byte" none with kind := .primitive 'B', accessFlags := 0x411 }
/-- [B -/
def k6 : Class := { plain "[B" (some 0) with kind := .array 5 .byte, interfaces := #[3, 4], accessFlags := 1041 }

/-- the primitive int -/
def k7 : Class := { plain "int" none with kind := .primitive 'I', accessFlags := 0x411 }
/-- [I -/
def k8 : Class := { plain "[I" (some 0) with kind := .array 7 .int, interfaces := #[3, 4], accessFlags := 1041 }

def heap : Heap := #[]
def classes : Array Class := #[k0, k1, k2, k3, k4, k5, k6, k7, k8]
def interned : List (Array UInt16 × Addr) := []
def slotsUsed : Nat := 0
def theMethod : MethodId := ⟨1, 3⟩
def args0 : Array Value := #[.long 5, .long 5, .long 5, .int 5, .int 5, .int 5]
def aboutOver (below : List Frame) : State where
  vm := { classes := classes, interned := interned.toArray }
  heap := heap
  slotsUsed := slotsUsed
  threads := #[{ frames := .invoking theMethod args0 :: below }]
def below0 : List Frame := [.native { method := ⟨0, 0⟩, args := #[] }]
def about1 : State := aboutOver below0
def p0 : Program := .bare "" "" ""
def e0 : Env := launch0.env 0 0 0
theorem w_frames : about1.frames = Frame.invoking theMethod args0 :: below0 := rfl
set_option maxRecDepth 65536 in
theorem w_args : argsFit about1.vm theMethod args0 = true := by decide +kernel
set_option maxRecDepth 65536 in
theorem w_heap : heapFits about1 = true := by decide +kernel
set_option maxRecDepth 65536 in
theorem w_runnable : about1.curStatus? = some .runnable := by decide +kernel
set_option maxRecDepth 65536 in
theorem w_alone : about1.alone = true := by decide +kernel
set_option maxRecDepth 65536 in
theorem w_named : about1.methodNamed? x = some theMethod := by decide +kernel
set_option maxRecDepth 65536 in
theorem w_hears : about1.hears theMethod below0 = true := by decide +kernel
set_option maxRecDepth 65536 in
theorem w_ripe : about1.ripe theMethod args0 below0 = true := by decide +kernel
theorem w_running : about1.status = .running := rfl
set_option maxRecDepth 65536 in
theorem w_room : about1.hasRoom e0.platform room_1 = true :=
  launch0.hasRoom_least _ room_1 (by decide +kernel) (by decide +kernel) (by decide +kernel) (by decide +kernel) (by decide +kernel) (by decide +kernel)
theorem allAtoms_all (ts : List Jvm.Cond) (a : Array Jvm.Value) (st : Jvm.State) : (allAtoms ts).before a st = ts.all (fun c => c.before a st) := by
  induction ts with
  | nil => rfl
  | cons c t ih =>
    show (Jvm.Cond.and c (allAtoms t)).before a st = _
    rw [Jvm.Cond.before_and, ih, List.all_cons]
def words1 : List Jvm.Cond := Jvm.Cond.code x code maxLocals ret :: tables_1
/-- a 'code' word, met by the world's own term for the bytes: nothing is compared byte by byte -/
theorem code_word {y : MethodName} {bytes : ByteArray} {mx : Nat} {rt : Option FieldType} {a : Array Value} {s : State} {m : MethodId} {meth : Method} {c : Code} (h1 : s.methodNamed? y = some m) (h2 : s.vm.method? m = some meth) (h3 : meth.code = some c) (h4 : c.code = bytes)
    (h5 : (c.maxLocals == mx && c.exceptionTable.isEmpty && decide (c.maxStack ≤ mostOperands) && decide (meth.sig.returnType = rt) && !meth.locks && decide (parseMethodDescriptor y.desc = some meth.sig)) = true) : (Jvm.Cond.code y bytes mx rt).before a s = true := by
  simp only [Bool.and_eq_true, beq_iff_eq, Bool.not_eq_true', decide_eq_true_eq] at h5
  obtain ⟨⟨⟨⟨⟨g1, g2⟩, g3⟩, g4⟩, g5⟩, g6⟩ := h5
  simp [Cond.before, Cond.holds, Cond.value, h1, h2, h3, h4, g1, g2, g3, g4, g5, g6]
def isCode : Jvm.Cond → Bool
  | .code _ _ _ _ => true
  | _ => false
theorem all_split {L : List Jvm.Cond} {P : Jvm.Cond → Bool} (h1 : L.all (fun c => isCode c || P c) = true) (h2 : ∀ c ∈ L.filter isCode, P c = true) : L.all P = true := by
  refine List.all_eq_true.mpr fun c hc => ?_
  have h := List.all_eq_true.mp h1 c hc
  rcases Bool.eq_false_or_eq_true (isCode c) with hi | hi
  · exact h2 c (List.mem_filter.mpr ⟨hc, hi⟩)
  · simpa [hi] using h
set_option maxRecDepth 65536 in
theorem w_c0 : (Jvm.Cond.code x code maxLocals ret).before args0 about1 = true := code_word (m := ⟨1, 3⟩) (meth := k1m3) (c := k1c3) (by decide +kernel) rfl rfl rfl (by decide +kernel)
set_option maxRecDepth 65536 in
theorem w_c1 : (Jvm.Cond.code ({ cls := "com/example/mortise/mortise/join/RecordKeyHashPinLaw", name := "fill", desc := "(J)[B" } : Jvm.MethodName) method_2_code (3 : Nat) (Option.some (Jvm.ClassFile.FieldType.array Jvm.ClassFile.FieldType.byte))).before args0 about1 = true := code_word (m := ⟨1, 1⟩) (meth := k1m1) (c := k1c1) (by decide +kernel) rfl rfl rfl (by decide +kernel)
set_option maxRecDepth 65536 in
theorem w_c2 : (Jvm.Cond.code ({ cls := "com/example/mortise/mortise/join/RecordKeyHashPinLaw", name := "place", desc := "([BIJI)V" } : Jvm.MethodName) method_3_code (5 : Nat) (Option.none : Option Jvm.ClassFile.FieldType)).before args0 about1 = true := code_word (m := ⟨1, 2⟩) (meth := k1m2) (c := k1c2) (by decide +kernel) rfl rfl rfl (by decide +kernel)
set_option maxRecDepth 65536 in
theorem w_c3 : (Jvm.Cond.code ({ cls := "com/example/mortise/mortise/join/Record", name := "keyHash", desc := "([BII)J" } : Jvm.MethodName) prog_36_method_9_code (6 : Nat) (Option.some Jvm.ClassFile.FieldType.long)).before args0 about1 = true := code_word (m := ⟨2, 0⟩) (meth := k2m0) (c := k2c0) (by decide +kernel) rfl rfl rfl (by decide +kernel)
def codes1 : List Jvm.Cond := [Jvm.Cond.code x code maxLocals ret, Jvm.Cond.code ({ cls := "com/example/mortise/mortise/join/RecordKeyHashPinLaw", name := "fill", desc := "(J)[B" } : Jvm.MethodName) method_2_code (3 : Nat) (Option.some (Jvm.ClassFile.FieldType.array Jvm.ClassFile.FieldType.byte)), Jvm.Cond.code ({ cls := "com/example/mortise/mortise/join/RecordKeyHashPinLaw", name := "place", desc := "([BIJI)V" } : Jvm.MethodName) method_3_code (5 : Nat) (Option.none : Option Jvm.ClassFile.FieldType), Jvm.Cond.code ({ cls := "com/example/mortise/mortise/join/Record", name := "keyHash", desc := "([BII)J" } : Jvm.MethodName) prog_36_method_9_code (6 : Nat) (Option.some Jvm.ClassFile.FieldType.long)]
set_option maxRecDepth 65536 in
theorem codes_eq : words1.filter isCode = codes1 := rfl
theorem w_codes : ∀ c ∈ words1.filter isCode, c.before args0 about1 = true := by
  rw [codes_eq]
  intro c hc
  simp only [codes1, List.mem_cons, List.not_mem_nil, or_false] at hc
  rcases hc with rfl | rfl | rfl | rfl
  · exact w_c0
  · exact w_c1
  · exact w_c2
  · exact w_c3
set_option maxRecDepth 65536 in
theorem w_t1 : words1.all (fun c => isCode c || c.before args0 about1) = true := by decide +kernel
theorem w_tables : (allAtoms (Jvm.Cond.code x code maxLocals ret :: tables_1)).before args0 about1 = true := by
  rw [allAtoms_all]
  show words1.all (fun c => c.before args0 about1) = true
  refine all_split ?_ w_codes
  rw [w_t1]
set_option maxRecDepth 65536 in
theorem w_case : (Jvm.Cond.and given_1 narrow_1).before args0 about1 = true := by decide +kernel
theorem w_applies : (headSpec (Jvm.Cond.code x code maxLocals ret :: tables_1) room_1).applies x e0.platform about1 = true :=
  (Spec.applies_iff w_frames).mpr ⟨w_running, w_runnable, w_alone, w_named, w_hears, w_ripe, w_room, w_tables⟩
theorem atStart : AtStart classFile x code maxLocals ret World_1 tables_1 room_1 Calls_1 rest_1 Pre_1 launch0 p0 e0 about1 theMethod args0 below0 :=
  ⟨lists_1, trivial, launch0.admits_env _ _ _, launch0.least_env, fairChoices_fair.cas, fairChoices_fair.clock, w_frames, w_args, w_heap, w_applies, trivial, trivial, w_case⟩
end start1
theorem witness_1 : WitnessClaimed_1 := ⟨start1.p0, start1.e0, start1.about1, start1.theMethod, start1.args0, start1.below0, start1.atStart⟩
end Jvm.Pilot.@@N@@
