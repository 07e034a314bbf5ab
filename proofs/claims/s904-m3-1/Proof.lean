import JvmDerived
import JvmDerived.Pilot.@@N@@Statement
import JvmDerived.Pilot.@@N@@Code
set_option linter.unusedVariables false
set_option linter.unusedSimpArgs false
namespace Jvm.RoadKit
open Sem ClassFile Op Lib Jvm.Stand Jvm.Free Jvm.LawKit
section New
variable {p : Program} {l : Launch} {e : Env} {R : Room} {s : State} {m : MethodId} {args : Array Value} {below : List Frame} {meth : Method} {c : Code} {T : State} {locs : List Loc} {cells slots : Nat}
theorem retI (X : Stand p l e R s m args below meth c T locs cells slots) (hx : p.tables.exec = Jvm.exec) {pc : Nat} {Ls : Array Slot} {z : Int32} {rest : List Value} (hret : meth.sig.returnType = some .int) (hd : decode c.code pc = .ok (.ireturn, 1)) {fs : List Frame}
    (hl : ∀ (f : JFrame) (acts : List Action), f.method = m → f.locked = none → f.entered = [] → (doReturn e (T.setTop f) acts (some (.int z))).1 = T.setFrames fs) : Steps p.tables e below (T.setTop (mkF m pc Ls (.int z :: rest))) (T.setFrames fs) := by
  have hm' : T.vm.method? m = some meth := X.method'
  have hn : narrow .int (.int z) = .int z := rfl
  show Steps p.tables e below (T.setTop { method := m, pc := pc, locals := Ls, stack := _ :: rest, locked := none }) _
  jvm_step X.here [X.here.top, hx, hd, hm', hret, hn]
  first | (intro acts; rw [hl _ acts rfl rfl rfl]) | rw [hl _ _ rfl rfl rfl]
  exact Steps.refl _
theorem own_join {n0 : Nat} (X : Stand p l e R s m args below meth c T locs cells slots) (N : Fr n0 locs) {h : Heap} (g g' : JFrame)
    (H : ∃ (T' : State) (locs' : List Loc), Stand p l e R s m args below meth c T' locs' cells slots ∧ Fr n0 locs' ∧ T'.heap = h ∧ ∀ t, Steps p.tables e below (T'.setTop g') t → Steps p.tables e below (T.setTop g) t) :
    ∃ (T' : State) (locs' : List Loc), Stand p l e R s m args below meth c T' locs' cells slots ∧ Fr n0 locs' ∧ T'.heap = h ∧ ∀ t, Steps p.tables e below (T'.setTop g') t → Steps p.tables e below (T.setTop g) t := H
theorem own_mono (X : Stand p l e R s m args below meth c T locs cells slots) {c' s' : Nat} (h1 : cells ≤ c') (h2 : slots ≤ s') : Stand p l e R s m args below meth c T locs c' s' :=
  ⟨X.admits, X.cas, X.clock, X.frames, X.room, X.hears, X.method, X.code, X.here, X.tail, X.warmed, X.limits, X.bytes, X.same.mono h1 h2⟩
theorem own_lrem {g : JFrame} {target : State} (X : Stand p l e R s m args below meth c T locs cells slots) (hx : p.tables.exec = Jvm.exec) (hg : g.method = m) {x y : Int64} {rest : List Value} (hd : decode c.code g.pc = .ok (.lrem, 1)) (hs : g.stack = .long y :: .long x :: rest) (hy : y ≠ 0)
    (hr : Steps p.tables e below (T.setTop { g with pc := g.pc + 1, stack := .long (x % y) :: rest }) target) : Steps p.tables e below (T.setTop g) target :=
  Jvm.Free.XS.lrem X.here hx hg hd hs hy (by rw [lrem_mod x y]; exact hr)
def Bya (Z : State) (h : Heap) (a : Addr) (z : Int32) (f : Int32 → Int32) : Prop := ∃ c : Cell, Arr Z h a c .byte ∧ c.slots.size = z.toNatClampNeg ∧ ∀ j : Int32, ¬ j < 0 → j < z → c.slots[j.toNatClampNeg]? = some (.int (f j))
theorem Bya.lt {Z : State} {h : Heap} {a : Addr} {z : Int32} {f : Int32 → Int32} (F : Bya Z h a z f) : a < h.size := by obtain ⟨c, A, -⟩ := F; exact A.lt
theorem Bya.ext {Z : State} {h h' : Heap} {a : Addr} {z : Int32} {f : Int32 → Int32} (F : Bya Z h a z f) (E : Ext h h') : Bya Z h' a z f := by obtain ⟨c, A, r⟩ := F; exact ⟨c, A.ext E, r⟩
theorem Bya.other {Z : State} {h h' : Heap} {a b : Addr} {z : Int32} {f : Int32 → Int32} {sl : Nat} {v : Value} (F : Bya Z h b z f) (W : Wr h h' a sl v) (q : b ≠ a) : Bya Z h' b z f := by obtain ⟨c, A, r⟩ := F; exact ⟨c, A.other W q, r⟩
theorem Bya.keep {Z : State} {h h' : Heap} {a : Addr} {z : Int32} {f : Int32 → Int32} {ws : List Addr} (F : Bya Z h a z f) (K : Keep h h' ws) (q : a ∉ ws) : Bya Z h' a z f := by obtain ⟨c, A, r⟩ := F; exact ⟨c, ⟨K.2.1 a c A.1 q, A.2⟩, r⟩
theorem Bya.set {Z : State} {h h' : Heap} {a : Addr} {z j v : Int32} {f : Int32 → Int32} {c : Cell} (A : Arr Z h a c .byte) (S : c.slots.size = z.toNatClampNeg) (H : ∀ j : Int32, ¬ j < 0 → j < z → c.slots[j.toNatClampNeg]? = some (.int (f j))) (hj : ¬ j < 0 ∧ j < z) (W : Wr h h' a j.toNatClampNeg (.int v)) : Bya Z h' a z (fun i => if i = j then v else f i) := by
  refine ⟨_, A.same W, by rw [sz_set]; exact S, fun i h1 h2 => ?_⟩
  by_cases q : i = j
  · rw [get_hit (inb_of S hj) q]; simp [q]
  · rw [get_miss hj.1 h1 q, H i h1 h2]; simp [q]
theorem Bya.of_arv {Z : State} {h : Heap} {a : Addr} {k : ClassId} {z : Int32} {vs : List Value} {es : List Int32} (F : Arv Z h a k .byte z vs (.int (0 : Int32))) (e : vs = es.map Value.int) : Bya Z h a z (fun i => es.getD i.toNatClampNeg 0) := by
  obtain ⟨c, A, -, S, -, H, -⟩ := F
  refine ⟨c, A, S, fun j h1 h2 => ?_⟩
  refine H.at (inb_of S ⟨h1, h2⟩) ?_
  subst e
  simp only [List.getD_eq_getElem?_getD, List.getElem?_map]
  cases es[j.toNatClampNeg]? <;> rfl
theorem own_b1 {x : Int32} (h : x = 1) : ¬ x = 0 := by rw [h]; decide
theorem own_cons {α : Type} {a b : α} {l m : List α} (h1 : a = b) (h2 : l = m) : a :: l = b :: m := by rw [h1, h2]
theorem own_arv {Z : State} {h : Heap} {a : Addr} {k : ClassId} {ty : FieldType} {z : Int32} {vs ws : List Value} {d : Value} (A : Arv Z h a k ty z vs d) (q : ws = vs) : Arv Z h a k ty z ws d := q ▸ A
theorem own_fld {Z : State} {h : Heap} {a : Addr} {C n d : String} {v w : Value} (F : Fld Z h a C n d v) (q : w = v) : Fld Z h a C n d w := q ▸ F
end New
end Jvm.RoadKit
namespace Jvm.Pilot.@@N@@
open Jvm Jvm.ClassFile Sem Op Lib Jvm.Free Jvm.Stand Jvm.LawKit Jvm.RoadKit Bundle Jvm.Pilot.@@N@@.Jvm.D
theorem ow0 {Z : State} {a0 : Array Value} (hw : ∀ d ∈ tables_1, d.before a0 Z = true) : (Jvm.Cond.constant "com/example/mortise/mortise/join/BloomFilterBytesPinLaw" (7 : Nat) (2147483647 : Int32)).before a0 Z = true := hw _ (List.mem_of_getElem? (i := 0) rfl)
theorem ow1 {Z : State} {a0 : Array Value} (hw : ∀ d ∈ tables_1, d.before a0 Z = true) : (Jvm.Cond.methodLink "com/example/mortise/mortise/join/BloomFilterBytesPinLaw" (8 : Nat) ({ cls := "com/example/mortise/mortise/join/BloomFilter", name := "bytes", desc := "(I)J" } : Jvm.MethodName)).before a0 Z = true := hw _ (List.mem_of_getElem? (i := 1) rfl)
theorem ow2 {Z : State} {a0 : Array Value} (hw : ∀ d ∈ tables_1, d.before a0 Z = true) : (Jvm.Cond.static ({ cls := "com/example/mortise/mortise/join/BloomFilter", name := "bytes", desc := "(I)J" } : Jvm.MethodName)).before a0 Z = true := hw _ (List.mem_of_getElem? (i := 2) rfl)
theorem ow3 {Z : State} {a0 : Array Value} (hw : ∀ d ∈ tables_1, d.before a0 Z = true) : (Jvm.Cond.initialized "com/example/mortise/mortise/join/BloomFilter").before a0 Z = true := hw _ (List.mem_of_getElem? (i := 3) rfl)
theorem ow4 {Z : State} {a0 : Array Value} (hw : ∀ d ∈ tables_1, d.before a0 Z = true) : (Jvm.Cond.code ({ cls := "com/example/mortise/mortise/join/BloomFilter", name := "bytes", desc := "(I)J" } : Jvm.MethodName) prog_14_method_2_code (1 : Nat) (Option.some Jvm.ClassFile.FieldType.long)).before a0 Z = true := hw _ (List.mem_of_getElem? (i := 4) rfl)
theorem ow5 {Z : State} {a0 : Array Value} (hw : ∀ d ∈ tables_1, d.before a0 Z = true) : (Jvm.Cond.constantLong "com/example/mortise/mortise/join/BloomFilter" (28 : Nat) (63 : Int64)).before a0 Z = true := hw _ (List.mem_of_getElem? (i := 5) rfl)
theorem ow6 {Z : State} {a0 : Array Value} (hw : ∀ d ∈ tables_1, d.before a0 Z = true) : (Jvm.Cond.constantLong "com/example/mortise/mortise/join/BloomFilter" (30 : Nat) (64 : Int64)).before a0 Z = true := hw _ (List.mem_of_getElem? (i := 6) rfl)
theorem ow7 {Z : State} {a0 : Array Value} (hw : ∀ d ∈ tables_1, d.before a0 Z = true) : (Jvm.Cond.constantLong "com/example/mortise/mortise/join/BloomFilter" (22 : Nat) (8 : Int64)).before a0 Z = true := hw _ (List.mem_of_getElem? (i := 7) rfl)
theorem ow8 {Z : State} {a0 : Array Value} (hw : ∀ d ∈ tables_1, d.before a0 Z = true) : (Jvm.Cond.constantLong "com/example/mortise/mortise/join/BloomFilterBytesPinLaw" (14 : Nat) (268435456 : Int64)).before a0 Z = true := hw _ (List.mem_of_getElem? (i := 8) rfl)
theorem ow9 {Z : State} {a0 : Array Value} (hw : ∀ d ∈ tables_1, d.before a0 Z = true) : (Jvm.Cond.constantLong "com/example/mortise/mortise/join/BloomFilterBytesPinLaw" (16 : Nat) (8 : Int64)).before a0 Z = true := hw _ (List.mem_of_getElem? (i := 9) rfl)
theorem ow10 {Z : State} {a0 : Array Value} (hw : ∀ d ∈ tables_1, d.before a0 Z = true) : (Jvm.Cond.constantLong "com/example/mortise/mortise/join/BloomFilterBytesPinLaw" (18 : Nat) (64 : Int64)).before a0 Z = true := hw _ (List.mem_of_getElem? (i := 10) rfl)
theorem own_r (p : Int32) (x : Int64) (hx : x = (((((p &&& (2147483647 : Int32)).toInt64) + (63 : Int64)) / (64 : Int64)) * (8 : Int64))) : ∃ b : Int, 0 ≤ b ∧ b < 2147483648 ∧ ((p &&& (2147483647 : Int32)).toInt64).toInt = b ∧ x.toInt = (b + 63) / 64 * 8 := by
  have h1 := c_mask p 2147483647 31 (by decide) (by decide)
  have h2 := c_i2l (p &&& (2147483647 : Int32))
  subst hx
  refine ⟨(p &&& (2147483647 : Int32)).toInt, by omega, by omega, h2, ?_⟩
  generalize ((p &&& (2147483647 : Int32)).toInt64) = y at *
  have h3 := c_ladd y (63 : Int64)
  have r3 := rng64 (y + (63 : Int64))
  have e3 : (63 : Int64).toInt = 63 := by decide
  have h4 := (c_ldiv (y + (63 : Int64)) (64 : Int64) 64 (by decide) (by decide)).1
  have h5 := c_lmul ((y + (63 : Int64)) / (64 : Int64)) (8 : Int64)
  have r5 := rng64 (((y + (63 : Int64)) / (64 : Int64)) * (8 : Int64))
  have e5 : (8 : Int64).toInt = 8 := by decide
  rw [e3] at h3
  rw [e5] at h5
  omega
theorem d1_0 : decode prog_14_method_2_code 0 = .ok (.iload_n 0, 1) := by decide +kernel
theorem d1_1 : decode prog_14_method_2_code 1 = .ok (.i2l, 1) := by decide +kernel
theorem d1_2 : decode prog_14_method_2_code 2 = .ok (.ldc2_w 28, 3) := by decide +kernel
theorem d1_5 : decode prog_14_method_2_code 5 = .ok (.ladd, 1) := by decide +kernel
theorem d1_6 : decode prog_14_method_2_code 6 = .ok (.ldc2_w 30, 3) := by decide +kernel
theorem d1_9 : decode prog_14_method_2_code 9 = .ok (.ldiv, 1) := by decide +kernel
theorem d1_10 : decode prog_14_method_2_code 10 = .ok (.ldc2_w 22, 3) := by decide +kernel
theorem d1_13 : decode prog_14_method_2_code 13 = .ok (.lmul, 1) := by decide +kernel
theorem d1_14 : decode prog_14_method_2_code 14 = .ok (.lreturn, 1) := by decide +kernel
theorem pn_1 : plainName "com/example/mortise/mortise/join/BloomFilter" = true := by first | (simp [plainName, overriddenIn]; done) | decide +kernel
theorem ef_rm1 (m : MethodId) (y0 : Int32) : entryFrame m #[(.int y0)] 1 = mkF m 0 #[.val (.int y0)] [] := by first | (simp [entryFrame, mkF, argsToLocals, Value.category]; done) | rfl
def Q_rm1 (Z : State) (p1_0 : Int32) (h0 : Heap) (n0 : Nat) (v : Option Value) (h : Heap) (L : List Loc) : Prop := v = some (.long ((((p1_0.toInt64) + (63 : Int64)) / (64 : Int64)) * (8 : Int64))) ∧ Fr n0 L ∧ h = h0
set_option maxRecDepth 65536 in
set_option maxHeartbeats 40000000 in
theorem rm1 (l : Launch) (Z : State) (a0 : Array Value) (hw : ∀ d ∈ tables_1, d.before a0 Z = true) (ws : List Jvm.Cond) (p1_0 : Int32) (h0 : Heap) (n0 : Nat) (Z0 : n0 ≤ h0.size) :
    MetFree l (⟨"com/example/mortise/mortise/join/BloomFilter", "bytes", "(I)J"⟩ : MethodName) (head1 (Jvm.Cond.code (⟨"com/example/mortise/mortise/join/BloomFilter", "bytes", "(I)J"⟩ : MethodName) prog_14_method_2_code 1 (some .long) :: ws) ({ frames := 0, cells := 0, slots := 0, locals := 0 } : Room)) (fun a U => a = #[(.int p1_0)] ∧ Z.Warmed39 U.vm ∧ U.heap = h0) (fun _ _ _ _ _ => True) (fun _ U o U' => ∃ v L, o = .returned v ∧ Q_rm1 Z p1_0 h0 n0 v U'.heap L ∧ FrameEnd U o U' L ({ frames := 0, cells := 0, slots := 0, locals := 0 } : Room).cells ({ frames := 0, cells := 0, slots := 0, locals := 0 } : Room).slots) := by
  refine MetFree.of_bodySF (plainFor_of_name pn_1) hisR ?_
  intro p e s m args below meth c s₁ Bd hml0 hP hK
  obtain ⟨rfl, hZ, hh⟩ := hP
  have hx := Bd.exec
  have hby := Bd.bytes
  have hml : c.maxLocals = 1 := hml0
  have hown : s.vm.findClass "com/example/mortise/mortise/join/BloomFilter" = some m.cls := findClass_of_methodNamed Bd.named
  have hnm := (name_of_methodNamed Bd.named Bd.method).1
  have X0 : Stand p l e ({ frames := 0, cells := 0, slots := 0, locals := 0 } : Room) s m #[(.int p1_0)] below meth c s₁ [] 0 0 := Stand.of_body Bd
  have e0 : s₁.heap = h0 := by rw [← hh, Bd.state]; rfl
  have N0 := Fr.nil n0
  have pre0 : ∀ t, Steps p.tables e below (s₁.setTop (mkF m 0 #[.val (.int p1_0)] [])) t → Steps p.tables e below (s₁.setTop (entryFrame m #[(.int p1_0)] 1)) t := fun t k => castTop (ef_rm1 m p1_0) k
  obtain ⟨fs, hr, hrun, hended, hW, hsame⟩ := X0.leave (v := some (.long ((((p1_0.toInt64) + (63 : Int64)) / (64 : Int64)) * (8 : Int64)))) (fun h => by rw [Bd.returns] at h; cases h)
  refine ⟨_, _, pre0 _ ?_, hrun, hended, _, _, rfl, ?_, ⟨_, rfl⟩, hW, hsame.mono (by decide) (by decide)⟩
  · show Steps p.tables e below (s₁.setTop (mkF m 0 #[.val (.int p1_0)] [])) _
    refine XS.iloadN X0.here hx rfl (hb hby d1_0) rfl ?_
    show Steps p.tables e below (s₁.setTop (mkF m 1 #[.val (.int p1_0)] [(.int p1_0)])) _
    refine XS.i2l X0.here hx rfl (hb hby d1_1) rfl ?_
    show Steps p.tables e below (s₁.setTop (mkF m 2 #[.val (.int p1_0)] [(.long (p1_0.toInt64))])) _
    refine X0.ldc2Long hx hown (mvT hZ (ow5 hw)) (g := (mkF m 2 #[.val (.int p1_0)] [(.long (p1_0.toInt64))])) rfl (hb hby d1_2) _ ?_
    show Steps p.tables e below (s₁.setTop (mkF m 5 #[.val (.int p1_0)] [(.long (63 : Int64)), (.long (p1_0.toInt64))])) _
    refine XS.ladd X0.here hx rfl (hb hby d1_5) rfl ?_
    show Steps p.tables e below (s₁.setTop (mkF m 6 #[.val (.int p1_0)] [(.long ((p1_0.toInt64) + (63 : Int64)))])) _
    refine X0.ldc2Long hx hown (mvT hZ (ow6 hw)) (g := (mkF m 6 #[.val (.int p1_0)] [(.long ((p1_0.toInt64) + (63 : Int64)))])) rfl (hb hby d1_6) _ ?_
    show Steps p.tables e below (s₁.setTop (mkF m 9 #[.val (.int p1_0)] [(.long (64 : Int64)), (.long ((p1_0.toInt64) + (63 : Int64)))])) _
    refine XS.ldiv X0.here hx rfl (hb hby d1_9) rfl (by decide : ¬ ((64 : Int64) = (0 : Int64))) ?_
    show Steps p.tables e below (s₁.setTop (mkF m 10 #[.val (.int p1_0)] [(.long (((p1_0.toInt64) + (63 : Int64)) / (64 : Int64)))])) _
    refine X0.ldc2Long hx hown (mvT hZ (ow7 hw)) (g := (mkF m 10 #[.val (.int p1_0)] [(.long (((p1_0.toInt64) + (63 : Int64)) / (64 : Int64)))])) rfl (hb hby d1_10) _ ?_
    show Steps p.tables e below (s₁.setTop (mkF m 13 #[.val (.int p1_0)] [(.long (8 : Int64)), (.long (((p1_0.toInt64) + (63 : Int64)) / (64 : Int64)))])) _
    refine XS.lmul X0.here hx rfl (hb hby d1_13) rfl ?_
    show Steps p.tables e below (s₁.setTop (mkF m 14 #[.val (.int p1_0)] [(.long ((((p1_0.toInt64) + (63 : Int64)) / (64 : Int64)) * (8 : Int64)))])) _
    jvm_step X0.here [X0.here.top, hx, (hb hby d1_14), X0.method', Bd.returns, narrow]
    first | (intro acts; rw [hr _ acts rfl rfl rfl]) | rw [hr _ _ rfl rfl rfl]
    exact Steps.refl _
  · show Q_rm1 Z p1_0 h0 n0 _ s₁.heap _
    rw [e0]
    exact ⟨rfl, N0, rfl⟩
theorem pd__I_J : parseMethodDescriptor "(I)J" = some ⟨[.int], some .long⟩ := by decide +kernel
theorem own_c1 (p0_0 : Int32) (x2 : Int64) (hx2 : x2 = (((((p0_0 &&& (2147483647 : Int32)).toInt64) + (63 : Int64)) / (64 : Int64)) * (8 : Int64))) (h13_4 : x2 < (0 : Int64)) : False := by
  obtain ⟨b, b0, b1, b2, b3⟩ := own_r p0_0 x2 hx2
  rw [Int64.lt_iff_toInt_lt, show (0 : Int64).toInt = 0 from by decide] at h13_4
  omega
theorem own_c2 (p0_0 : Int32) (x2 : Int64) (hx2 : x2 = (((((p0_0 &&& (2147483647 : Int32)).toInt64) + (63 : Int64)) / (64 : Int64)) * (8 : Int64))) (h13_4 : ¬ (x2 < (0 : Int64))) (h21_6 : (268435456 : Int64) < x2) : False := by
  obtain ⟨b, b0, b1, b2, b3⟩ := own_r p0_0 x2 hx2
  rw [Int64.lt_iff_toInt_lt, show (268435456 : Int64).toInt = 268435456 from by decide] at h21_6
  omega
theorem own_fin (p0_0 : Int32) (x2 : Int64) (hx2 : x2 = (((((p0_0 &&& (2147483647 : Int32)).toInt64) + (63 : Int64)) / (64 : Int64)) * (8 : Int64))) (v13 : Int32) (hv13 : v13 = (if (x2 * (8 : Int64)) < ((p0_0 &&& (2147483647 : Int32)).toInt64) then (0 : Int32) else (if ((x2 * (8 : Int64)) - (64 : Int64)) < ((p0_0 &&& (2147483647 : Int32)).toInt64) then (1 : Int32) else (0 : Int32)))) (h13_4 : ¬ (x2 < (0 : Int64))) (h21_6 : ¬ ((268435456 : Int64) < x2)) (h33_8 : (x2 % (8 : Int64)) = (0 : Int64)) : v13 = (1 : Int32) := by
  obtain ⟨b, b0, b1, b2, b3⟩ := own_r p0_0 x2 hx2
  have e8 : (8 : Int64).toInt = 8 := by decide
  have e64 : (64 : Int64).toInt = 64 := by decide
  have h5 := c_lmul x2 (8 : Int64)
  have r5 := rng64 (x2 * (8 : Int64))
  have h6 := c_lsub (x2 * (8 : Int64)) (64 : Int64)
  have r6 := rng64 (x2 * (8 : Int64) - (64 : Int64))
  rw [e8] at h5
  rw [e64] at h6
  rw [hv13, if_neg (by rw [Int64.lt_iff_toInt_lt]; omega), if_pos (by rw [Int64.lt_iff_toInt_lt]; omega)]
theorem own_c3 (p0_0 : Int32) (x2 : Int64) (hx2 : x2 = (((((p0_0 &&& (2147483647 : Int32)).toInt64) + (63 : Int64)) / (64 : Int64)) * (8 : Int64))) (h13_4 : ¬ (x2 < (0 : Int64))) (h21_6 : ¬ ((268435456 : Int64) < x2)) (h33_8 : ¬ ((x2 % (8 : Int64)) = (0 : Int64))) : False := by
  obtain ⟨b, b0, b1, b2, b3⟩ := own_r p0_0 x2 hx2
  refine h33_8 (Int64.toInt_inj.mp ?_)
  rw [Int64.toInt_mod, show (8 : Int64).toInt = 8 from by decide, (tr _ _).1 (by omega), show (0 : Int64).toInt = 0 from by decide]
  omega
theorem pn_0 : plainName "com/example/mortise/mortise/join/BloomFilterBytesPinLaw" = true := by first | (simp [plainName, overriddenIn]; done) | decide +kernel
theorem ef_rm0 (m : MethodId) (y0 : Int32) : entryFrame m #[(.int y0)] maxLocals = mkF m 0 #[.val (.int y0), .unset, .unset, .unset, .unset, .unset] [] := by first | (simp [entryFrame, mkF, argsToLocals, Value.category, maxLocals]; done) | rfl
def Q_rm0 (Z : State) (p0_0 : Int32) (h0 : Heap) (n0 : Nat) (v : Option Value) (h : Heap) (L : List Loc) : Prop := v = some (.int (1 : Int32)) ∧ Fr n0 L
set_option maxRecDepth 65536 in
set_option maxHeartbeats 40000000 in
theorem rm0 (l : Launch) (Z : State) (a0 : Array Value) (hw : ∀ d ∈ tables_1, d.before a0 Z = true) (ws : List Jvm.Cond) (p0_0 : Int32) (h0 : Heap) (n0 : Nat) (Z0 : n0 ≤ h0.size) :
    MetFree l x (head1 (Jvm.Cond.code x code maxLocals ret :: ws) room_1) (fun a U => a = #[(.int p0_0)] ∧ Z.Warmed39 U.vm ∧ U.heap = h0) (fun _ _ _ _ _ => True) (fun _ U o U' => ∃ v L, o = .returned v ∧ Q_rm0 Z p0_0 h0 n0 v U'.heap L ∧ FrameEnd U o U' L 0 0) := by
  refine MetFree.of_bodySF (plainFor_of_name pn_0) hisR ?_
  intro p e s m args below meth c s₁ Bd hml0 hP hK
  obtain ⟨rfl, hZ, hh⟩ := hP
  have hx := Bd.exec
  have hby := Bd.bytes
  have hml : c.maxLocals = 6 := hml0
  have hown : s.vm.findClass "com/example/mortise/mortise/join/BloomFilterBytesPinLaw" = some m.cls := findClass_of_methodNamed Bd.named
  have hnm := (name_of_methodNamed Bd.named Bd.method).1
  have X0 : Stand p l e room_1 s m #[(.int p0_0)] below meth c s₁ [] 0 0 := Stand.of_body Bd
  have e0 : s₁.heap = h0 := by rw [← hh, Bd.state]; rfl
  have N0 := Fr.nil n0
  have pre0 : ∀ t, Steps p.tables e below (s₁.setTop (mkF m 0 #[.val (.int p0_0), .unset, .unset, .unset, .unset, .unset] [])) t → Steps p.tables e below (s₁.setTop (entryFrame m #[(.int p0_0)] maxLocals)) t := fun t k => castTop (ef_rm0 m p0_0) k
  obtain ⟨_, _, ⟨T1, L1, k1, n1⟩, -, X1, ⟨Lc1, hQ1, l1, y1, z1⟩, st1⟩ := Jvm.LawKit.callS X0 hx (y := (⟨"com/example/mortise/mortise/join/BloomFilter", "bytes", "(I)J"⟩ : MethodName)) hown (mvT hZ (ow1 hw)) (mvT hZ (ow2 hw)) (mvT hZ (ow3 hw)) (mvT hZ (ow4 hw)) (by decide) (backOf (W := 0) (rm1 l Z a0 hw [] (p0_0 &&& (2147483647 : Int32)) h0 n0 Z0 ) hZ (ow4 hw) (ow3 hw) (by decide) (by decide)) (g := (mkF m 6 #[.val (.int p0_0), .val (.int (p0_0 &&& (2147483647 : Int32))), .unset, .unset, .unset, .unset] [(.int (p0_0 &&& (2147483647 : Int32)))])) rfl (by rw [hml]; rfl) (argsL := [(.int (p0_0 &&& (2147483647 : Int32)))]) (rest := []) (lenOf pd__I_J rfl) rfl (by show 2 * 0 + _ ≤ _; exact Nat.le_of_eq rfl) (hb hby at_6) (fun _ _ => ⟨rfl, e0, (by decide : 0 + 0 ≤ _), (by decide : 0 + 0 ≤ _)⟩)
  dsimp only [Pt.U, Pt.locs, Pt.cells, Pt.slots] at X1 l1 y1 z1 st1 hQ1
  subst l1 y1 z1
  obtain ⟨rfl, Nq1, e1⟩ := hQ1
  have N1 := Fr.app N0 Nq1
  obtain ⟨x2, hx2⟩ : ∃ z : Int64, z = (((((p0_0 &&& (2147483647 : Int32)).toInt64) + (63 : Int64)) / (64 : Int64)) * (8 : Int64)) := ⟨_, rfl⟩
  have G3 : ∀ t, Steps p.tables e below (T1.setTop (mkF m 13 #[.val (.int p0_0), .val (.int (p0_0 &&& (2147483647 : Int32))), .val (.long x2), .second, .unset, .unset] [(.int (lcmpW x2 (0 : Int64)))])) t → Steps p.tables e below (s₁.setTop (mkF m 0 #[.val (.int p0_0), .unset, .unset, .unset, .unset, .unset] [])) t := by
    intro t k
    show Steps p.tables e below (s₁.setTop (mkF m 0 #[.val (.int p0_0), .unset, .unset, .unset, .unset, .unset] [])) _
    refine XS.iloadN X0.here hx rfl (hb hby at_0) rfl ?_
    show Steps p.tables e below (s₁.setTop (mkF m 1 #[.val (.int p0_0), .unset, .unset, .unset, .unset, .unset] [(.int p0_0)])) _
    refine X0.ldcInt hx hown (mvT hZ (ow0 hw)) (g := (mkF m 1 #[.val (.int p0_0), .unset, .unset, .unset, .unset, .unset] [(.int p0_0)])) rfl (hb hby at_1) _ ?_
    show Steps p.tables e below (s₁.setTop (mkF m 3 #[.val (.int p0_0), .unset, .unset, .unset, .unset, .unset] [(.int (2147483647 : Int32)), (.int p0_0)])) _
    refine XS.iand X0.here hx rfl (hb hby at_3) rfl ?_
    show Steps p.tables e below (s₁.setTop (mkF m 4 #[.val (.int p0_0), .unset, .unset, .unset, .unset, .unset] [(.int (p0_0 &&& (2147483647 : Int32)))])) _
    refine XS.istoreN X0.here hx rfl (hb hby at_4) rfl (l' := #[.val (.int p0_0), .val (.int (p0_0 &&& (2147483647 : Int32))), .unset, .unset, .unset, .unset]) rfl ?_
    show Steps p.tables e below (s₁.setTop (mkF m 5 #[.val (.int p0_0), .val (.int (p0_0 &&& (2147483647 : Int32))), .unset, .unset, .unset, .unset] [])) _
    refine XS.iloadN X0.here hx rfl (hb hby at_5) rfl ?_
    show Steps p.tables e below (s₁.setTop (mkF m 6 #[.val (.int p0_0), .val (.int (p0_0 &&& (2147483647 : Int32))), .unset, .unset, .unset, .unset] [(.int (p0_0 &&& (2147483647 : Int32)))])) _
    refine st1 _ ?_
    show Steps p.tables e below (T1.setTop (mkF m 9 #[.val (.int p0_0), .val (.int (p0_0 &&& (2147483647 : Int32))), .unset, .unset, .unset, .unset] [(.long (((((p0_0 &&& (2147483647 : Int32)).toInt64) + (63 : Int64)) / (64 : Int64)) * (8 : Int64)))])) _
    rw [← hx2]
    show Steps p.tables e below (T1.setTop (mkF m 9 #[.val (.int p0_0), .val (.int (p0_0 &&& (2147483647 : Int32))), .unset, .unset, .unset, .unset] [(.long x2)])) _
    refine XS.lstoreN X1.here hx rfl (hb hby at_9) rfl (l' := #[.val (.int p0_0), .val (.int (p0_0 &&& (2147483647 : Int32))), .val (.long x2), .second, .unset, .unset]) rfl ?_
    show Steps p.tables e below (T1.setTop (mkF m 10 #[.val (.int p0_0), .val (.int (p0_0 &&& (2147483647 : Int32))), .val (.long x2), .second, .unset, .unset] [])) _
    refine XS.lloadN X1.here hx rfl (hb hby at_10) rfl ?_
    show Steps p.tables e below (T1.setTop (mkF m 11 #[.val (.int p0_0), .val (.int (p0_0 &&& (2147483647 : Int32))), .val (.long x2), .second, .unset, .unset] [(.long x2)])) _
    refine XS.lconst X1.here hx rfl (hb hby at_11) ?_
    show Steps p.tables e below (T1.setTop (mkF m 12 #[.val (.int p0_0), .val (.int (p0_0 &&& (2147483647 : Int32))), .val (.long x2), .second, .unset, .unset] [(.long (0 : Int64)), (.long x2)])) _
    refine XS.lcmp X1.here hx rfl (hb hby at_12) rfl ?_
    exact k
  by_cases h13_4 : x2 < (0 : Int64)
  · exact (own_c1 p0_0 x2 hx2 h13_4).elim
  · have G5 : ∀ t, Steps p.tables e below (T1.setTop (mkF m 21 #[.val (.int p0_0), .val (.int (p0_0 &&& (2147483647 : Int32))), .val (.long x2), .second, .unset, .unset] [(.int (lcmpW x2 (268435456 : Int64)))])) t → Steps p.tables e below (T1.setTop (mkF m 13 #[.val (.int p0_0), .val (.int (p0_0 &&& (2147483647 : Int32))), .val (.long x2), .second, .unset, .unset] [(.int (lcmpW x2 (0 : Int64)))])) t := by
      intro t k
      show Steps p.tables e below (T1.setTop (mkF m 13 #[.val (.int p0_0), .val (.int (p0_0 &&& (2147483647 : Int32))), .val (.long x2), .second, .unset, .unset] [(.int (lcmpW x2 (0 : Int64)))])) _
      refine XS.ifNo X1.here hx rfl (hb hby at_13) rfl ((if0 _ _).trans (flt (fun q => h13_4 ((lw_lt _ _).mp q))).1) ?_
      show Steps p.tables e below (T1.setTop (mkF m 16 #[.val (.int p0_0), .val (.int (p0_0 &&& (2147483647 : Int32))), .val (.long x2), .second, .unset, .unset] [])) _
      refine XS.lloadN X1.here hx rfl (hb hby at_16) rfl ?_
      show Steps p.tables e below (T1.setTop (mkF m 17 #[.val (.int p0_0), .val (.int (p0_0 &&& (2147483647 : Int32))), .val (.long x2), .second, .unset, .unset] [(.long x2)])) _
      refine X1.ldc2Long hx hown (mvT hZ (ow8 hw)) (g := (mkF m 17 #[.val (.int p0_0), .val (.int (p0_0 &&& (2147483647 : Int32))), .val (.long x2), .second, .unset, .unset] [(.long x2)])) rfl (hb hby at_17) _ ?_
      show Steps p.tables e below (T1.setTop (mkF m 20 #[.val (.int p0_0), .val (.int (p0_0 &&& (2147483647 : Int32))), .val (.long x2), .second, .unset, .unset] [(.long (268435456 : Int64)), (.long x2)])) _
      refine XS.lcmp X1.here hx rfl (hb hby at_20) rfl ?_
      exact k
    by_cases h21_6 : (268435456 : Int64) < x2
    · exact (own_c2 p0_0 x2 hx2 h13_4 h21_6).elim
    · have G7 : ∀ t, Steps p.tables e below (T1.setTop (mkF m 33 #[.val (.int p0_0), .val (.int (p0_0 &&& (2147483647 : Int32))), .val (.long x2), .second, .unset, .unset] [(.int (lcmpW (x2 % (8 : Int64)) (0 : Int64)))])) t → Steps p.tables e below (T1.setTop (mkF m 21 #[.val (.int p0_0), .val (.int (p0_0 &&& (2147483647 : Int32))), .val (.long x2), .second, .unset, .unset] [(.int (lcmpW x2 (268435456 : Int64)))])) t := by
        intro t k
        show Steps p.tables e below (T1.setTop (mkF m 21 #[.val (.int p0_0), .val (.int (p0_0 &&& (2147483647 : Int32))), .val (.long x2), .second, .unset, .unset] [(.int (lcmpW x2 (268435456 : Int64)))])) _
        refine XS.ifYes X1.here hx rfl (pc0 := 21) (pc' := 26) rfl (hb hby at_21) rfl ((if0 _ _).trans (flt (fun q => h21_6 ((lw_gt _ _).mp q))).2.2.2) (by decide) (by decide) ?_
        show Steps p.tables e below (T1.setTop (mkF m 26 #[.val (.int p0_0), .val (.int (p0_0 &&& (2147483647 : Int32))), .val (.long x2), .second, .unset, .unset] [])) _
        refine XS.lloadN X1.here hx rfl (hb hby at_26) rfl ?_
        show Steps p.tables e below (T1.setTop (mkF m 27 #[.val (.int p0_0), .val (.int (p0_0 &&& (2147483647 : Int32))), .val (.long x2), .second, .unset, .unset] [(.long x2)])) _
        refine X1.ldc2Long hx hown (mvT hZ (ow9 hw)) (g := (mkF m 27 #[.val (.int p0_0), .val (.int (p0_0 &&& (2147483647 : Int32))), .val (.long x2), .second, .unset, .unset] [(.long x2)])) rfl (hb hby at_27) _ ?_
        show Steps p.tables e below (T1.setTop (mkF m 30 #[.val (.int p0_0), .val (.int (p0_0 &&& (2147483647 : Int32))), .val (.long x2), .second, .unset, .unset] [(.long (8 : Int64)), (.long x2)])) _
        refine own_lrem X1 hx rfl (hb hby at_30) rfl (by decide : ¬ ((8 : Int64) = (0 : Int64))) ?_
        show Steps p.tables e below (T1.setTop (mkF m 31 #[.val (.int p0_0), .val (.int (p0_0 &&& (2147483647 : Int32))), .val (.long x2), .second, .unset, .unset] [(.long (x2 % (8 : Int64)))])) _
        refine XS.lconst X1.here hx rfl (hb hby at_31) ?_
        show Steps p.tables e below (T1.setTop (mkF m 32 #[.val (.int p0_0), .val (.int (p0_0 &&& (2147483647 : Int32))), .val (.long x2), .second, .unset, .unset] [(.long (0 : Int64)), (.long (x2 % (8 : Int64)))])) _
        refine XS.lcmp X1.here hx rfl (hb hby at_32) rfl ?_
        exact k
      by_cases h33_8 : (x2 % (8 : Int64)) = (0 : Int64)
      · have G9 : ∀ t, Steps p.tables e below (T1.setTop (mkF m 50 #[.val (.int p0_0), .val (.int (p0_0 &&& (2147483647 : Int32))), .val (.long x2), .second, .val (.long (x2 * (8 : Int64))), .second] [(.int (lcmpW (x2 * (8 : Int64)) ((p0_0 &&& (2147483647 : Int32)).toInt64)))])) t → Steps p.tables e below (T1.setTop (mkF m 33 #[.val (.int p0_0), .val (.int (p0_0 &&& (2147483647 : Int32))), .val (.long x2), .second, .unset, .unset] [(.int (lcmpW (x2 % (8 : Int64)) (0 : Int64)))])) t := by
          intro t k
          show Steps p.tables e below (T1.setTop (mkF m 33 #[.val (.int p0_0), .val (.int (p0_0 &&& (2147483647 : Int32))), .val (.long x2), .second, .unset, .unset] [(.int (lcmpW (x2 % (8 : Int64)) (0 : Int64)))])) _
          refine XS.ifYes X1.here hx rfl (pc0 := 33) (pc' := 38) rfl (hb hby at_33) rfl ((if0 _ _).trans (teq ((lw_eq _ _).mpr h33_8)).1) (by decide) (by decide) ?_
          show Steps p.tables e below (T1.setTop (mkF m 38 #[.val (.int p0_0), .val (.int (p0_0 &&& (2147483647 : Int32))), .val (.long x2), .second, .unset, .unset] [])) _
          refine XS.lloadN X1.here hx rfl (hb hby at_38) rfl ?_
          show Steps p.tables e below (T1.setTop (mkF m 39 #[.val (.int p0_0), .val (.int (p0_0 &&& (2147483647 : Int32))), .val (.long x2), .second, .unset, .unset] [(.long x2)])) _
          refine X1.ldc2Long hx hown (mvT hZ (ow9 hw)) (g := (mkF m 39 #[.val (.int p0_0), .val (.int (p0_0 &&& (2147483647 : Int32))), .val (.long x2), .second, .unset, .unset] [(.long x2)])) rfl (hb hby at_39) _ ?_
          show Steps p.tables e below (T1.setTop (mkF m 42 #[.val (.int p0_0), .val (.int (p0_0 &&& (2147483647 : Int32))), .val (.long x2), .second, .unset, .unset] [(.long (8 : Int64)), (.long x2)])) _
          refine XS.lmul X1.here hx rfl (hb hby at_42) rfl ?_
          show Steps p.tables e below (T1.setTop (mkF m 43 #[.val (.int p0_0), .val (.int (p0_0 &&& (2147483647 : Int32))), .val (.long x2), .second, .unset, .unset] [(.long (x2 * (8 : Int64)))])) _
          refine XS.lstore X1.here hx rfl (hb hby at_43) rfl (l' := #[.val (.int p0_0), .val (.int (p0_0 &&& (2147483647 : Int32))), .val (.long x2), .second, .val (.long (x2 * (8 : Int64))), .second]) rfl ?_
          show Steps p.tables e below (T1.setTop (mkF m 45 #[.val (.int p0_0), .val (.int (p0_0 &&& (2147483647 : Int32))), .val (.long x2), .second, .val (.long (x2 * (8 : Int64))), .second] [])) _
          refine XS.lload X1.here hx rfl (hb hby at_45) rfl ?_
          show Steps p.tables e below (T1.setTop (mkF m 47 #[.val (.int p0_0), .val (.int (p0_0 &&& (2147483647 : Int32))), .val (.long x2), .second, .val (.long (x2 * (8 : Int64))), .second] [(.long (x2 * (8 : Int64)))])) _
          refine XS.iloadN X1.here hx rfl (hb hby at_47) rfl ?_
          show Steps p.tables e below (T1.setTop (mkF m 48 #[.val (.int p0_0), .val (.int (p0_0 &&& (2147483647 : Int32))), .val (.long x2), .second, .val (.long (x2 * (8 : Int64))), .second] [(.int (p0_0 &&& (2147483647 : Int32))), (.long (x2 * (8 : Int64)))])) _
          refine XS.i2l X1.here hx rfl (hb hby at_48) rfl ?_
          show Steps p.tables e below (T1.setTop (mkF m 49 #[.val (.int p0_0), .val (.int (p0_0 &&& (2147483647 : Int32))), .val (.long x2), .second, .val (.long (x2 * (8 : Int64))), .second] [(.long ((p0_0 &&& (2147483647 : Int32)).toInt64)), (.long (x2 * (8 : Int64)))])) _
          refine XS.lcmp X1.here hx rfl (hb hby at_49) rfl ?_
          exact k
        obtain ⟨v13, hv13⟩ : ∃ z : Int32, z = (if (x2 * (8 : Int64)) < ((p0_0 &&& (2147483647 : Int32)).toInt64) then (0 : Int32) else (if ((x2 * (8 : Int64)) - (64 : Int64)) < ((p0_0 &&& (2147483647 : Int32)).toInt64) then (1 : Int32) else (0 : Int32))) := ⟨_, rfl⟩
        obtain ⟨T14, Lo14, X14, N14, e14, G14⟩ := own_join X1 N1 (h := h0) (mkF m 50 #[.val (.int p0_0), .val (.int (p0_0 &&& (2147483647 : Int32))), .val (.long x2), .second, .val (.long (x2 * (8 : Int64))), .second] [(.int (lcmpW (x2 * (8 : Int64)) ((p0_0 &&& (2147483647 : Int32)).toInt64)))]) (mkF m 70 #[.val (.int p0_0), .val (.int (p0_0 &&& (2147483647 : Int32))), .val (.long x2), .second, .val (.long (x2 * (8 : Int64))), .second] [(.int v13)]) (by
          by_cases h50_10 : (x2 * (8 : Int64)) < ((p0_0 &&& (2147483647 : Int32)).toInt64)
          · refine ⟨T1, _, X1, N1, e1, fun t k => ?_⟩
            rw [show v13 = (0 : Int32) from hv13.trans (if_pos h50_10)] at k
            show Steps p.tables e below (T1.setTop (mkF m 50 #[.val (.int p0_0), .val (.int (p0_0 &&& (2147483647 : Int32))), .val (.long x2), .second, .val (.long (x2 * (8 : Int64))), .second] [(.int (lcmpW (x2 * (8 : Int64)) ((p0_0 &&& (2147483647 : Int32)).toInt64)))])) _
            refine XS.ifYes X1.here hx rfl (pc0 := 50) (pc' := 69) rfl (hb hby at_50) rfl ((if0 _ _).trans (tlt ((lw_lt _ _).mpr h50_10)).1) (by decide) (by decide) ?_
            show Steps p.tables e below (T1.setTop (mkF m 69 #[.val (.int p0_0), .val (.int (p0_0 &&& (2147483647 : Int32))), .val (.long x2), .second, .val (.long (x2 * (8 : Int64))), .second] [])) _
            refine XS.iconst X1.here hx rfl (hb hby at_69) ?_
            exact k
          · have G11 : ∀ t, Steps p.tables e below (T1.setTop (mkF m 62 #[.val (.int p0_0), .val (.int (p0_0 &&& (2147483647 : Int32))), .val (.long x2), .second, .val (.long (x2 * (8 : Int64))), .second] [(.int (lcmpW ((x2 * (8 : Int64)) - (64 : Int64)) ((p0_0 &&& (2147483647 : Int32)).toInt64)))])) t → Steps p.tables e below (T1.setTop (mkF m 50 #[.val (.int p0_0), .val (.int (p0_0 &&& (2147483647 : Int32))), .val (.long x2), .second, .val (.long (x2 * (8 : Int64))), .second] [(.int (lcmpW (x2 * (8 : Int64)) ((p0_0 &&& (2147483647 : Int32)).toInt64)))])) t := by
              intro t k
              show Steps p.tables e below (T1.setTop (mkF m 50 #[.val (.int p0_0), .val (.int (p0_0 &&& (2147483647 : Int32))), .val (.long x2), .second, .val (.long (x2 * (8 : Int64))), .second] [(.int (lcmpW (x2 * (8 : Int64)) ((p0_0 &&& (2147483647 : Int32)).toInt64)))])) _
              refine XS.ifNo X1.here hx rfl (hb hby at_50) rfl ((if0 _ _).trans (flt (fun q => h50_10 ((lw_lt _ _).mp q))).1) ?_
              show Steps p.tables e below (T1.setTop (mkF m 53 #[.val (.int p0_0), .val (.int (p0_0 &&& (2147483647 : Int32))), .val (.long x2), .second, .val (.long (x2 * (8 : Int64))), .second] [])) _
              refine XS.lload X1.here hx rfl (hb hby at_53) rfl ?_
              show Steps p.tables e below (T1.setTop (mkF m 55 #[.val (.int p0_0), .val (.int (p0_0 &&& (2147483647 : Int32))), .val (.long x2), .second, .val (.long (x2 * (8 : Int64))), .second] [(.long (x2 * (8 : Int64)))])) _
              refine X1.ldc2Long hx hown (mvT hZ (ow10 hw)) (g := (mkF m 55 #[.val (.int p0_0), .val (.int (p0_0 &&& (2147483647 : Int32))), .val (.long x2), .second, .val (.long (x2 * (8 : Int64))), .second] [(.long (x2 * (8 : Int64)))])) rfl (hb hby at_55) _ ?_
              show Steps p.tables e below (T1.setTop (mkF m 58 #[.val (.int p0_0), .val (.int (p0_0 &&& (2147483647 : Int32))), .val (.long x2), .second, .val (.long (x2 * (8 : Int64))), .second] [(.long (64 : Int64)), (.long (x2 * (8 : Int64)))])) _
              refine XS.lsub X1.here hx rfl (hb hby at_58) rfl ?_
              show Steps p.tables e below (T1.setTop (mkF m 59 #[.val (.int p0_0), .val (.int (p0_0 &&& (2147483647 : Int32))), .val (.long x2), .second, .val (.long (x2 * (8 : Int64))), .second] [(.long ((x2 * (8 : Int64)) - (64 : Int64)))])) _
              refine XS.iloadN X1.here hx rfl (hb hby at_59) rfl ?_
              show Steps p.tables e below (T1.setTop (mkF m 60 #[.val (.int p0_0), .val (.int (p0_0 &&& (2147483647 : Int32))), .val (.long x2), .second, .val (.long (x2 * (8 : Int64))), .second] [(.int (p0_0 &&& (2147483647 : Int32))), (.long ((x2 * (8 : Int64)) - (64 : Int64)))])) _
              refine XS.i2l X1.here hx rfl (hb hby at_60) rfl ?_
              show Steps p.tables e below (T1.setTop (mkF m 61 #[.val (.int p0_0), .val (.int (p0_0 &&& (2147483647 : Int32))), .val (.long x2), .second, .val (.long (x2 * (8 : Int64))), .second] [(.long ((p0_0 &&& (2147483647 : Int32)).toInt64)), (.long ((x2 * (8 : Int64)) - (64 : Int64)))])) _
              refine XS.lcmp X1.here hx rfl (hb hby at_61) rfl ?_
              exact k
            by_cases h62_12 : ((x2 * (8 : Int64)) - (64 : Int64)) < ((p0_0 &&& (2147483647 : Int32)).toInt64)
            · refine ⟨T1, _, X1, N1, e1, fun t k => ?_⟩
              rw [show v13 = (1 : Int32) from hv13.trans ((if_neg h50_10).trans (if_pos h62_12))] at k
              refine G11 _ ?_
              show Steps p.tables e below (T1.setTop (mkF m 62 #[.val (.int p0_0), .val (.int (p0_0 &&& (2147483647 : Int32))), .val (.long x2), .second, .val (.long (x2 * (8 : Int64))), .second] [(.int (lcmpW ((x2 * (8 : Int64)) - (64 : Int64)) ((p0_0 &&& (2147483647 : Int32)).toInt64)))])) _
              refine XS.ifNo X1.here hx rfl (hb hby at_62) rfl ((if0 _ _).trans (tlt ((lw_lt _ _).mpr h62_12)).2.1) ?_
              show Steps p.tables e below (T1.setTop (mkF m 65 #[.val (.int p0_0), .val (.int (p0_0 &&& (2147483647 : Int32))), .val (.long x2), .second, .val (.long (x2 * (8 : Int64))), .second] [])) _
              refine XS.iconst X1.here hx rfl (hb hby at_65) ?_
              show Steps p.tables e below (T1.setTop (mkF m 66 #[.val (.int p0_0), .val (.int (p0_0 &&& (2147483647 : Int32))), .val (.long x2), .second, .val (.long (x2 * (8 : Int64))), .second] [(.int (1 : Int32))])) _
              refine XS.goto X1.here hx rfl (pc0 := 66) (pc' := 70) rfl (hb hby at_66) (by decide) (by decide) ?_
              exact k
            · refine ⟨T1, _, X1, N1, e1, fun t k => ?_⟩
              rw [show v13 = (0 : Int32) from hv13.trans ((if_neg h50_10).trans (if_neg h62_12))] at k
              refine G11 _ ?_
              show Steps p.tables e below (T1.setTop (mkF m 62 #[.val (.int p0_0), .val (.int (p0_0 &&& (2147483647 : Int32))), .val (.long x2), .second, .val (.long (x2 * (8 : Int64))), .second] [(.int (lcmpW ((x2 * (8 : Int64)) - (64 : Int64)) ((p0_0 &&& (2147483647 : Int32)).toInt64)))])) _
              refine XS.ifYes X1.here hx rfl (pc0 := 62) (pc' := 69) rfl (hb hby at_62) rfl ((if0 _ _).trans (flt (fun q => h62_12 ((lw_lt _ _).mp q))).2.1) (by decide) (by decide) ?_
              show Steps p.tables e below (T1.setTop (mkF m 69 #[.val (.int p0_0), .val (.int (p0_0 &&& (2147483647 : Int32))), .val (.long x2), .second, .val (.long (x2 * (8 : Int64))), .second] [])) _
              refine XS.iconst X1.here hx rfl (hb hby at_69) ?_
              exact k)
        have fin : v13 = (1 : Int32) := by
          exact own_fin p0_0 x2 hx2 v13 hv13 h13_4 h21_6 h33_8
        obtain ⟨fs, hr, hrun, hended, hW, hsame⟩ := X14.leave (v := some (.int (1 : Int32))) (fun h => by rw [Bd.returns] at h; cases h)
        refine ⟨_, _, pre0 _ ?_, hrun, hended, _, _, rfl, ?_, ⟨_, rfl⟩, hW, hsame.mono (by decide) (by decide)⟩
        · refine G3 _ ?_
          refine G5 _ ?_
          refine G7 _ ?_
          refine G9 _ ?_
          refine G14 _ ?_
          show Steps p.tables e below (T14.setTop (mkF m 70 #[.val (.int p0_0), .val (.int (p0_0 &&& (2147483647 : Int32))), .val (.long x2), .second, .val (.long (x2 * (8 : Int64))), .second] [(.int v13)])) _
          rw [fin]
          exact retN X14 hx (t := .boolean) Bd.returns (by simp) (hb hby at_70) hr
        · exact ⟨rfl, N14⟩
      · exact (own_c3 p0_0 x2 hx2 h13_4 h21_6 h33_8).elim
set_option maxRecDepth 65536 in
set_option maxHeartbeats 40000000 in
theorem comes_1 {Post : Tables → Env → Array Value → State → Outcome → State → Prop} (hpost : ∀ tb e args s v u, (limb_1_1.after args s (.returned v) u = true ∧ limb_1_2.after args s (.returned v) u = true ∧ True) → FrameEnd s (.returned v) u (Jvm.fieldLocs frame_1_writes args s ++ Jvm.arrayLocs frame_1_arrays args s ++ Jvm.staticLocs frame_1_statics s) 0 0 → Post tb e args s (.returned v) u) :
    ArmFor flags0 classFile x code maxLocals ret World_1 tables_1 room_1 Calls_1 rest_1 Pre_1 Post := by
  intro l hfl _ _ p e ha hc hk s m args below hf hA hF happ hP
  obtain ⟨hcalls, hrest, hpre⟩ := hP
  obtain ⟨-, -, -, hnamed, -, -, -, hat⟩ := (Spec.applies_iff hf).mp happ
  obtain ⟨hg, hn⟩ := and_e (Cond.before_iff.mp (show (Jvm.Cond.and given_1 narrow_1).before args s = true from hpre))
  obtain ⟨g1, g2⟩ := and_e hg
  obtain ⟨w0, rfl⟩ : ∃ w0 : Value, args = #[w0] := by
    have hs : args.size = 1 := by simpa [Cond.value, given_1] using g1
    obtain ⟨L⟩ := args
    match L, hs with
    | [w0], _ => exact ⟨w0, rfl⟩
  have hw := fun d (hd : d ∈ tables_1) => atoms_spec (ws := Jvm.Cond.code x code maxLocals ret :: tables_1) hat d (List.mem_cons_of_mem _ hd)
  have hfit : Fit s := fun {y c} hc i hi => by
    obtain ⟨ha, rfl⟩ := Array.getElem?_eq_some_iff.mp hc
    have q := List.all_eq_true.mp ((Array.all_eq_true_iff_forall_mem.mp hF) _ (Array.getElem_mem ha)) i (List.mem_range.mpr hi)
    simpa [Array.getElem?_eq_getElem hi] using q
  obtain ⟨i0, ei0⟩ := is_v g2
  obtain rfl : w0 = (.int i0) := Option.some.inj ei0
  obtain ⟨n, o, h1, h2, h3, _, L, rfl, ⟨rfl, N⟩, hq⟩ := rm0 l s _ hw tables_1 i0 s.heap s.heap.size (Nat.le_refl _) p e ha hc hk s m _ below hf ((Spec.applies_iff_loose hf).mp happ).1 ⟨rfl, State.Warmed39.refl s, rfl⟩ trivial
  refine ⟨n, _, h1, h2, h3, hpost _ _ _ _ _ _ ⟨Cond.after_iff.mpr rfl, Cond.after_iff.mpr (eq_i res_at (Term.int_eval (1)) rfl), trivial⟩ ⟨hq.1, hq.2.1, (hq.2.2.sift fun y hy => Or.inr (N y hy)).mono (by decide) (by decide)⟩⟩
theorem main_1_1 : Claimed_1_1 := comes_1 fun _ _ _ _ _ _ h hF => ⟨h.1, hF⟩
theorem main_1_2 : Claimed_1_2 := comes_1 fun _ _ _ _ _ _ h hF => ⟨h.2.1, hF⟩
end Jvm.Pilot.@@N@@
namespace Jvm.Pilot.@@N@@
open Jvm Jvm.ClassFile Sem Op Lib Jvm.Free Jvm.Stand Jvm.Pilot.@@N@@.Jvm.D
/-! MADE BY PROGRAM (witnessworld.py) out of the Statement's table words and the real class files: 9 classes; the members and pool entries that the words name. The judged class is class 1, her method 1. -/
namespace start1
open Jvm.ClassFile
def u (s : String) : CpInfo := .utf8 (stringToUtf16 s)
/-- a pool by its gaps: so many unusable entries, then the entry; so many at the end -/
def gap : Nat → List CpInfo → List CpInfo
  | 0, r => r
  | n + 1, r => .unusable :: gap n r
def poolList (es : List (Nat × CpInfo)) (last : Nat) : List CpInfo := es.foldr (fun e r => gap e.1 (e.2 :: r)) (gap last [])
def pool (es : List (Nat × CpInfo)) (last : Nat) : Array CpInfo := ⟨poolList es last⟩
def fileOf (pool : Array CpInfo) (this : Nat) (attrs : Array Attribute := #[]) (ms : Array MethodInfo := #[]) (fl : Nat := 33) (sup : Nat := 0) (ifs : Array Nat := #[]) (fds : Array FieldInfo := #[]) : ClassFile where
  minorVersion := 0
  majorVersion := 65
  constantPool := pool
  accessFlags := fl
  thisClass := this
  superClass := sup
  interfaces := ifs
  fields := fds
  methods := ms
  attributes := attrs
def plain (name : String) (sup : Option ClassId) : Class where
  name := name
  kind := .ordinary
  loader := none
  accessFlags := 33
  super := sup
  interfaces := #[]
  cf := none
  fields := #[]
  methods := #[]
  instanceTypes := #[]
  staticTypes := #[]
  resolved := #[]
  callSites := []
  init := .initialized
  statics := none
  mirror := none

def pool0 : Array CpInfo := pool [(5, u "<init>"), (0, u "()V"), (1, .class_ 10), (1, u "java/lang/Object")] 113

def k0m0 : Method := { name := "<init>", desc := "()V", sig := { parameters := [], returnType := none }, accessFlags := 1, code := none }
/-- java/lang/Object -/
def k0 : Class := { plain "java/lang/Object" none with
  accessFlags := 33
  interfaces := #[]
  cf := some (fileOf pool0 8 #[] #[{ accessFlags := 1, nameIndex := 5, descriptorIndex := 6, attributes := #[] }] 33 0 #[] #[])
  fields := #[]
  methods := #[k0m0]
  instanceTypes := #[]
  staticTypes := #[]
  resolved := Array.replicate 124 none
  statics := none }

def pool1 : Array CpInfo := pool [(2, .class_ 4), (1, u "java/lang/Object"), (0, u "<init>"), (0, u "()V"), (0, .integer 2147483647), (0, .methodref 9 10), (0, .class_ 11), (0, .nameAndType 12 13), (0, u "com/example/mortise/mortise/join/BloomFilter"), (0, u "bytes"), (0, u "(I)J"), (0, .long 268435456), (1, .long 8), (1, .long 64), (1, .class_ 21), (0, u "com/example/mortise/mortise/join/BloomFilterBytesPinLaw"), (2, u "law"), (0, u "(I)Z")] 3

def k1m0 : Method := { name := "<init>", desc := "()V", sig := { parameters := [], returnType := none }, accessFlags := 1, code := none }
def k1c1 : Code := { maxStack := 4, maxLocals := 6, code := code, exceptionTable := #[], attributes := #[] }
def k1m1 : Method := { name := "law", desc := "(I)Z", sig := { parameters := [.int], returnType := some .boolean }, accessFlags := 9, code := some k1c1 }
/-- com/example/mortise/mortise/join/BloomFilterBytesPinLaw -/
def k1 : Class := { plain "com/example/mortise/mortise/join/BloomFilterBytesPinLaw" (some 0) with
  accessFlags := 49
  interfaces := #[]
  cf := some (fileOf pool1 20 #[] #[{ accessFlags := 1, nameIndex := 5, descriptorIndex := 6, attributes := #[] }, { accessFlags := 9, nameIndex := 24, descriptorIndex := 25, attributes := #[] }] 49 2 #[] #[])
  fields := #[]
  methods := #[k1m0, k1m1]
  instanceTypes := #[]
  staticTypes := #[]
  resolved := Array.replicate 29 none
  statics := none }

def pool2 : Array CpInfo := pool [(2, .class_ 4), (1, u "java/lang/Object"), (3, .class_ 10), (1, u "com/example/mortise/mortise/join/BloomFilter"), (0, u "bits"), (0, u "I"), (2, u "hashes"), (2, u "bytes"), (0, u "(I)J"), (2, .long 8), (3, u "words"), (0, u "[J"), (0, .long 63), (1, .long 64), (10, u "WORDS"), (0, u "Ljava/lang/invoke/VarHandle;")] 38

def k2c0 : Code := { maxStack := 4, maxLocals := 1, code := prog_14_method_2_code, exceptionTable := #[], attributes := #[] }
def k2m0 : Method := { name := "bytes", desc := "(I)J", sig := { parameters := [.int], returnType := some .long }, accessFlags := 8, code := some k2c0 }
/-- com/example/mortise/mortise/join/BloomFilter -/
def k2 : Class := { plain "com/example/mortise/mortise/join/BloomFilter" (some 0) with
  accessFlags := 48
  interfaces := #[]
  cf := some (fileOf pool2 8 #[] #[{ accessFlags := 8, nameIndex := 18, descriptorIndex := 19, attributes := #[] }] 48 2 #[] #[{ accessFlags := 26, nameIndex := 41, descriptorIndex := 42, attributes := #[] }, { accessFlags := 18, nameIndex := 11, descriptorIndex := 12, attributes := #[] }, { accessFlags := 18, nameIndex := 15, descriptorIndex := 12, attributes := #[] }, { accessFlags := 18, nameIndex := 26, descriptorIndex := 27, attributes := #[] }])
  fields := #[{ name := "WORDS", type := (.object "java/lang/invoke/VarHandle"), accessFlags := 26, slot := 0, constantValue := 0 }, { name := "bits", type := .int, accessFlags := 18, slot := 0, constantValue := 0 }, { name := "hashes", type := .int, accessFlags := 18, slot := 1, constantValue := 0 }, { name := "words", type := (.array .long), accessFlags := 18, slot := 2, constantValue := 0 }]
  methods := #[k2m0]
  instanceTypes := #[.int, .int, (.array .long)]
  staticTypes := #[(.object "java/lang/invoke/VarHandle")]
  resolved := Array.replicate 81 none
  statics := none }

def pool3 : Array CpInfo := pool [(1, u "java/lang/Cloneable"), (0, .class_ 1), (0, u "java/lang/Object"), (0, .class_ 3)] 3

/-- java/lang/Cloneable -/
def k3 : Class := { plain "java/lang/Cloneable" (some 0) with
  accessFlags := 1537
  interfaces := #[]
  cf := some (fileOf pool3 2 #[] #[] 1537 4 #[] #[])
  fields := #[]
  methods := #[]
  instanceTypes := #[]
  staticTypes := #[]
  resolved := Array.replicate 8 none
  statics := none }

def pool4 : Array CpInfo := pool [(1, u "java/io/Serializable"), (0, .class_ 1), (0, u "java/lang/Object"), (0, .class_ 3)] 3

/-- java/io/Serializable -/
def k4 : Class := { plain "java/io/Serializable" (some 0) with
  accessFlags := 1537
  interfaces := #[]
  cf := some (fileOf pool4 2 #[] #[] 1537 4 #[] #[])
  fields := #[]
  methods := #[]
  instanceTypes := #[]
  staticTypes := #[]
  resolved := Array.replicate 8 none
  statics := none }

/-- the primitive byte -/
def k5 : Class := { plain "byte" none with kind := .primitive 'B', accessFlags := 0x411 }
/-- [B -/
def k6 : Class := { plain "[B" (some 0) with kind := .array 5 .byte, interfaces := #[3, 4], accessFlags := 1041 }

/-- the primitive int -/
def k7 : Class := { plain "int" none with kind := .primitive 'I', accessFlags := 0x411 }
/-- [I -/
def k8 : Class := { plain "[I" (some 0) with kind := .array 7 .int, interfaces := #[3, 4], accessFlags := 1041 }

def heap : Heap := #[]
def classes : Array Class := #[k0, k1, k2, k3, k4, k5, k6, k7, k8]
def interned : List (Array UInt16 × Addr) := []
def slotsUsed : Nat := 0
def theMethod : MethodId := ⟨1, 1⟩
def args0 : Array Value := #[.int 5]
def aboutOver (below : List Frame) : State where
  vm := { classes := classes, interned := interned.toArray }
  heap := heap
  slotsUsed := slotsUsed
  threads := #[{ frames := .invoking theMethod args0 :: below }]
def below0 : List Frame := [.native { method := ⟨0, 0⟩, args := #[] }]
def about1 : State := aboutOver below0
def p0 : Program := .bare "" "" ""
def e0 : Env := launch0.env 0 0 0
theorem w_frames : about1.frames = Frame.invoking theMethod args0 :: below0 := rfl
set_option maxRecDepth 65536 in
theorem w_args : argsFit about1.vm theMethod args0 = true := by decide +kernel
set_option maxRecDepth 65536 in
theorem w_heap : heapFits about1 = true := by decide +kernel
set_option maxRecDepth 65536 in
theorem w_runnable : about1.curStatus? = some .runnable := by decide +kernel
set_option maxRecDepth 65536 in
theorem w_alone : about1.alone = true := by decide +kernel
set_option maxRecDepth 65536 in
theorem w_named : about1.methodNamed? x = some theMethod := by decide +kernel
set_option maxRecDepth 65536 in
theorem w_hears : about1.hears theMethod below0 = true := by decide +kernel
set_option maxRecDepth 65536 in
theorem w_ripe : about1.ripe theMethod args0 below0 = true := by decide +kernel
theorem w_running : about1.status = .running := rfl
set_option maxRecDepth 65536 in
theorem w_room : about1.hasRoom e0.platform room_1 = true :=
  launch0.hasRoom_least _ room_1 (by decide +kernel) (by decide +kernel) (by decide +kernel) (by decide +kernel) (by decide +kernel) (by decide +kernel)
theorem allAtoms_all (ts : List Jvm.Cond) (a : Array Jvm.Value) (st : Jvm.State) : (allAtoms ts).before a st = ts.all (fun c => c.before a st) := by
  induction ts with
  | nil => rfl
  | cons c t ih =>
    show (Jvm.Cond.and c (allAtoms t)).before a st = _
    rw [Jvm.Cond.before_and, ih, List.all_cons]
def words1 : List Jvm.Cond := Jvm.Cond.code x code maxLocals ret :: tables_1
/-- a 'code' word, met by the world's own term for the bytes: nothing is compared byte by byte -/
theorem code_word {y : MethodName} {bytes : ByteArray} {mx : Nat} {rt : Option FieldType} {a : Array Value} {s : State} {m : MethodId} {meth : Method} {c : Code} (h1 : s.methodNamed? y = some m) (h2 : s.vm.method? m = some meth) (h3 : meth.code = some c) (h4 : c.code = bytes)
    (h5 : (c.maxLocals == mx && c.exceptionTable.isEmpty && decide (c.maxStack ≤ mostOperands) && decide (meth.sig.returnType = rt) && !meth.locks && decide (parseMethodDescriptor y.desc = some meth.sig)) = true) : (Jvm.Cond.code y bytes mx rt).before a s = true := by
  simp only [Bool.and_eq_true, beq_iff_eq, Bool.not_eq_true', decide_eq_true_eq] at h5
  obtain ⟨⟨⟨⟨⟨g1, g2⟩, g3⟩, g4⟩, g5⟩, g6⟩ := h5
  simp [Cond.before, Cond.holds, Cond.value, h1, h2, h3, h4, g1, g2, g3, g4, g5, g6]
def isCode : Jvm.Cond → Bool
  | .code _ _ _ _ => true
  | _ => false
theorem all_split {L : List Jvm.Cond} {P : Jvm.Cond → Bool} (h1 : L.all (fun c => isCode c || P c) = true) (h2 : ∀ c ∈ L.filter isCode, P c = true) : L.all P = true := by
  refine List.all_eq_true.mpr fun c hc => ?_
  have h := List.all_eq_true.mp h1 c hc
  rcases Bool.eq_false_or_eq_true (isCode c) with hi | hi
  · exact h2 c (List.mem_filter.mpr ⟨hc, hi⟩)
  · simpa [hi] using h
set_option maxRecDepth 65536 in
theorem w_c0 : (Jvm.Cond.code x code maxLocals ret).before args0 about1 = true := code_word (m := ⟨1, 1⟩) (meth := k1m1) (c := k1c1) (by decide +kernel) rfl rfl rfl (by decide +kernel)
set_option maxRecDepth 65536 in
theorem w_c1 : (Jvm.Cond.code ({ cls := "com/example/mortise/mortise/join/BloomFilter", name := "bytes", desc := "(I)J" } : Jvm.MethodName) prog_14_method_2_code (1 : Nat) (Option.some Jvm.ClassFile.FieldType.long)).before args0 about1 = true := code_word (m := ⟨2, 0⟩) (meth := k2m0) (c := k2c0) (by decide +kernel) rfl rfl rfl (by decide +kernel)
def codes1 : List Jvm.Cond := [Jvm.Cond.code x code maxLocals ret, Jvm.Cond.code ({ cls := "com/example/mortise/mortise/join/BloomFilter", name := "bytes", desc := "(I)J" } : Jvm.MethodName) prog_14_method_2_code (1 : Nat) (Option.some Jvm.ClassFile.FieldType.long)]
set_option maxRecDepth 65536 in
theorem codes_eq : words1.filter isCode = codes1 := rfl
theorem w_codes : ∀ c ∈ words1.filter isCode, c.before args0 about1 = true := by
  rw [codes_eq]
  intro c hc
  simp only [codes1, List.mem_cons, List.not_mem_nil, or_false] at hc
  rcases hc with rfl | rfl
  · exact w_c0
  · exact w_c1
set_option maxRecDepth 65536 in
theorem w_t1 : words1.all (fun c => isCode c || c.before args0 about1) = true := by decide +kernel
theorem w_tables : (allAtoms (Jvm.Cond.code x code maxLocals ret :: tables_1)).before args0 about1 = true := by
  rw [allAtoms_all]
  show words1.all (fun c => c.before args0 about1) = true
  refine all_split ?_ w_codes
  rw [w_t1]
set_option maxRecDepth 65536 in
theorem w_case : (Jvm.Cond.and given_1 narrow_1).before args0 about1 = true := by decide +kernel
theorem w_applies : (headSpec (Jvm.Cond.code x code maxLocals ret :: tables_1) room_1).applies x e0.platform about1 = true :=
  (Spec.applies_iff w_frames).mpr ⟨w_running, w_runnable, w_alone, w_named, w_hears, w_ripe, w_room, w_tables⟩
theorem atStart : AtStart classFile x code maxLocals ret World_1 tables_1 room_1 Calls_1 rest_1 Pre_1 launch0 p0 e0 about1 theMethod args0 below0 :=
  ⟨lists_1, trivial, launch0.admits_env _ _ _, launch0.least_env, fairChoices_fair.cas, fairChoices_fair.clock, w_frames, w_args, w_heap, w_applies, trivial, trivial, w_case⟩
end start1
theorem witness_1 : WitnessClaimed_1 := ⟨start1.p0, start1.e0, start1.about1, start1.theMethod, start1.args0, start1.below0, start1.atStart⟩
end Jvm.Pilot.@@N@@
