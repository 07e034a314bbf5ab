import JvmDerived
import JvmDerived.Pilot.@@N@@Statement
import JvmDerived.Pilot.@@N@@Code
set_option linter.unusedVariables false
set_option linter.unusedSimpArgs false
namespace Jvm.RoadKit
open Sem ClassFile Op Lib Jvm.Stand Jvm.Free Jvm.LawKit
section New
variable {p : Program} {l : Launch} {e : Env} {R : Room} {s : State} {m : MethodId} {args : Array Value} {below : List Frame} {meth : Method} {c : Code} {T : State} {locs : List Loc} {cells slots : Nat}
theorem retI (X : Stand p l e R s m args below meth c T locs cells slots) (hx : p.tables.exec = Jvm.exec) {pc : Nat} {Ls : Array Slot} {z : Int32} {rest : List Value} (hret : meth.sig.returnType = some .int) (hd : decode c.code pc = .ok (.ireturn, 1)) {fs : List Frame}
    (hl : ∀ (f : JFrame) (acts : List Action), f.method = m → f.locked = none → f.entered = [] → (doReturn e (T.setTop f) acts (some (.int z))).1 = T.setFrames fs) : Steps p.tables e below (T.setTop (mkF m pc Ls (.int z :: rest))) (T.setFrames fs) := by
  have hm' : T.vm.method? m = some meth := X.method'
  have hn : narrow .int (.int z) = .int z := rfl
  show Steps p.tables e below (T.setTop { method := m, pc := pc, locals := Ls, stack := _ :: rest, locked := none }) _
  jvm_step X.here [X.here.top, hx, hd, hm', hret, hn]
  first | (intro acts; rw [hl _ acts rfl rfl rfl]) | rw [hl _ _ rfl rfl rfl]
  exact Steps.refl _
theorem own_join {n0 : Nat} (X : Stand p l e R s m args below meth c T locs cells slots) (N : Fr n0 locs) {h : Heap} (g g' : JFrame)
    (H : ∃ (T' : State) (locs' : List Loc), Stand p l e R s m args below meth c T' locs' cells slots ∧ Fr n0 locs' ∧ T'.heap = h ∧ ∀ t, Steps p.tables e below (T'.setTop g') t → Steps p.tables e below (T.setTop g) t) :
    ∃ (T' : State) (locs' : List Loc), Stand p l e R s m args below meth c T' locs' cells slots ∧ Fr n0 locs' ∧ T'.heap = h ∧ ∀ t, Steps p.tables e below (T'.setTop g') t → Steps p.tables e below (T.setTop g) t := H
theorem own_mono (X : Stand p l e R s m args below meth c T locs cells slots) {c' s' : Nat} (h1 : cells ≤ c') (h2 : slots ≤ s') : Stand p l e R s m args below meth c T locs c' s' :=
  ⟨X.admits, X.cas, X.clock, X.frames, X.room, X.hears, X.method, X.code, X.here, X.tail, X.warmed, X.limits, X.bytes, X.same.mono h1 h2⟩
theorem own_lrem {g : JFrame} {target : State} (X : Stand p l e R s m args below meth c T locs cells slots) (hx : p.tables.exec = Jvm.exec) (hg : g.method = m) {x y : Int64} {rest : List Value} (hd : decode c.code g.pc = .ok (.lrem, 1)) (hs : g.stack = .long y :: .long x :: rest) (hy : y ≠ 0)
    (hr : Steps p.tables e below (T.setTop { g with pc := g.pc + 1, stack := .long (x % y) :: rest }) target) : Steps p.tables e below (T.setTop g) target :=
  Jvm.Free.XS.lrem X.here hx hg hd hs hy (by rw [lrem_mod x y]; exact hr)
def Bya (Z : State) (h : Heap) (a : Addr) (z : Int32) (f : Int32 → Int32) : Prop := ∃ c : Cell, Arr Z h a c .byte ∧ c.slots.size = z.toNatClampNeg ∧ ∀ j : Int32, ¬ j < 0 → j < z → c.slots[j.toNatClampNeg]? = some (.int (f j))
theorem Bya.lt {Z : State} {h : Heap} {a : Addr} {z : Int32} {f : Int32 → Int32} (F : Bya Z h a z f) : a < h.size := by obtain ⟨c, A, -⟩ := F; exact A.lt
theorem Bya.ext {Z : State} {h h' : Heap} {a : Addr} {z : Int32} {f : Int32 → Int32} (F : Bya Z h a z f) (E : Ext h h') : Bya Z h' a z f := by obtain ⟨c, A, r⟩ := F; exact ⟨c, A.ext E, r⟩
theorem Bya.other {Z : State} {h h' : Heap} {a b : Addr} {z : Int32} {f : Int32 → Int32} {sl : Nat} {v : Value} (F : Bya Z h b z f) (W : Wr h h' a sl v) (q : b ≠ a) : Bya Z h' b z f := by obtain ⟨c, A, r⟩ := F; exact ⟨c, A.other W q, r⟩
theorem Bya.keep {Z : State} {h h' : Heap} {a : Addr} {z : Int32} {f : Int32 → Int32} {ws : List Addr} (F : Bya Z h a z f) (K : Keep h h' ws) (q : a ∉ ws) : Bya Z h' a z f := by obtain ⟨c, A, r⟩ := F; exact ⟨c, ⟨K.2.1 a c A.1 q, A.2⟩, r⟩
theorem Bya.set {Z : State} {h h' : Heap} {a : Addr} {z j v : Int32} {f : Int32 → Int32} {c : Cell} (A : Arr Z h a c .byte) (S : c.slots.size = z.toNatClampNeg) (H : ∀ j : Int32, ¬ j < 0 → j < z → c.slots[j.toNatClampNeg]? = some (.int (f j))) (hj : ¬ j < 0 ∧ j < z) (W : Wr h h' a j.toNatClampNeg (.int v)) : Bya Z h' a z (fun i => if i = j then v else f i) := by
  refine ⟨_, A.same W, by rw [sz_set]; exact S, fun i h1 h2 => ?_⟩
  by_cases q : i = j
  · rw [get_hit (inb_of S hj) q]; simp [q]
  · rw [get_miss hj.1 h1 q, H i h1 h2]; simp [q]
theorem Bya.of_arv {Z : State} {h : Heap} {a : Addr} {k : ClassId} {z : Int32} {vs : List Value} {es : List Int32} (F : Arv Z h a k .byte z vs (.int (0 : Int32))) (e : vs = es.map Value.int) : Bya Z h a z (fun i => es.getD i.toNatClampNeg 0) := by
  obtain ⟨c, A, -, S, -, H, -⟩ := F
  refine ⟨c, A, S, fun j h1 h2 => ?_⟩
  refine H.at (inb_of S ⟨h1, h2⟩) ?_
  subst e
  simp only [List.getD_eq_getElem?_getD, List.getElem?_map]
  cases es[j.toNatClampNeg]? <;> rfl
theorem own_b1 {x : Int32} (h : x = 1) : ¬ x = 0 := by rw [h]; decide
theorem own_cons {α : Type} {a b : α} {l m : List α} (h1 : a = b) (h2 : l = m) : a :: l = b :: m := by rw [h1, h2]
theorem own_arv {Z : State} {h : Heap} {a : Addr} {k : ClassId} {ty : FieldType} {z : Int32} {vs ws : List Value} {d : Value} (A : Arv Z h a k ty z vs d) (q : ws = vs) : Arv Z h a k ty z ws d := q ▸ A
theorem own_fld {Z : State} {h : Heap} {a : Addr} {C n d : String} {v w : Value} (F : Fld Z h a C n d v) (q : w = v) : Fld Z h a C n d w := q ▸ F
end New
end Jvm.RoadKit
namespace Jvm.Pilot.@@N@@
open Jvm Jvm.ClassFile Sem Op Lib Jvm.Free Jvm.Stand Jvm.LawKit Jvm.RoadKit Bundle Jvm.Pilot.@@N@@.Jvm.D
theorem ow0 {Z : State} {a0 : Array Value} (hw : ∀ d ∈ tables_1, d.before a0 Z = true) : (Jvm.Cond.constantLong "com/example/markush/markush/document/DocumentBreaksIsSpacePinLaw" (7 : Nat) (4294977024 : Int64)).before a0 Z = true := hw _ (List.mem_of_getElem? (i := 0) rfl)
theorem ow1 {Z : State} {a0 : Array Value} (hw : ∀ d ∈ tables_1, d.before a0 Z = true) : (Jvm.Cond.methodLink "com/example/markush/markush/document/DocumentBreaksIsSpacePinLaw" (9 : Nat) ({ cls := "com/example/markush/markush/document/DocumentBreaks", name := "isSpace", desc := "(C)Z" } : Jvm.MethodName)).before a0 Z = true := hw _ (List.mem_of_getElem? (i := 1) rfl)
theorem ow2 {Z : State} {a0 : Array Value} (hw : ∀ d ∈ tables_1, d.before a0 Z = true) : (Jvm.Cond.static ({ cls := "com/example/markush/markush/document/DocumentBreaks", name := "isSpace", desc := "(C)Z" } : Jvm.MethodName)).before a0 Z = true := hw _ (List.mem_of_getElem? (i := 2) rfl)
theorem ow3 {Z : State} {a0 : Array Value} (hw : ∀ d ∈ tables_1, d.before a0 Z = true) : (Jvm.Cond.initialized "com/example/markush/markush/document/DocumentBreaks").before a0 Z = true := hw _ (List.mem_of_getElem? (i := 3) rfl)
theorem ow4 {Z : State} {a0 : Array Value} (hw : ∀ d ∈ tables_1, d.before a0 Z = true) : (Jvm.Cond.code ({ cls := "com/example/markush/markush/document/DocumentBreaks", name := "isSpace", desc := "(C)Z" } : Jvm.MethodName) prog_6_method_16_code (1 : Nat) (Option.some Jvm.ClassFile.FieldType.boolean)).before a0 Z = true := hw _ (List.mem_of_getElem? (i := 4) rfl)
theorem own_small : ∀ n : Fin 33, (if (if Int32.ofNat n.val = (32 : Int32) then (1 : Int32) else (if Int32.ofNat n.val = (9 : Int32) then (1 : Int32) else (if Int32.ofNat n.val = (10 : Int32) then (1 : Int32) else (if Int32.ofNat n.val = (13 : Int32) then (1 : Int32) else (0 : Int32))))) = (if (((1 : Int64) <<< (Int32.ofNat n.val &&& 0x3f).toInt64) &&& (4294977024 : Int64)) = (0 : Int64) then (0 : Int32) else (1 : Int32)) then (1 : Int32) else (0 : Int32)) = (1 : Int32) := by decide +kernel
theorem d1_0 : decode prog_6_method_16_code 0 = .ok (.iload_n 0, 1) := by decide +kernel
theorem d1_1 : decode prog_6_method_16_code 1 = .ok (.bipush 32, 2) := by decide +kernel
theorem d1_3 : decode prog_6_method_16_code 3 = .ok (.if_icmp .eq 21, 3) := by decide +kernel
theorem d1_6 : decode prog_6_method_16_code 6 = .ok (.iload_n 0, 1) := by decide +kernel
theorem d1_7 : decode prog_6_method_16_code 7 = .ok (.bipush 9, 2) := by decide +kernel
theorem d1_9 : decode prog_6_method_16_code 9 = .ok (.if_icmp .eq 15, 3) := by decide +kernel
theorem d1_12 : decode prog_6_method_16_code 12 = .ok (.iload_n 0, 1) := by decide +kernel
theorem d1_13 : decode prog_6_method_16_code 13 = .ok (.bipush 10, 2) := by decide +kernel
theorem d1_15 : decode prog_6_method_16_code 15 = .ok (.if_icmp .eq 9, 3) := by decide +kernel
theorem d1_18 : decode prog_6_method_16_code 18 = .ok (.iload_n 0, 1) := by decide +kernel
theorem d1_19 : decode prog_6_method_16_code 19 = .ok (.bipush 13, 2) := by decide +kernel
theorem d1_21 : decode prog_6_method_16_code 21 = .ok (.if_icmp .ne 7, 3) := by decide +kernel
theorem d1_24 : decode prog_6_method_16_code 24 = .ok (.iconst 1, 1) := by decide +kernel
theorem d1_25 : decode prog_6_method_16_code 25 = .ok (.goto 4, 3) := by decide +kernel
theorem d1_28 : decode prog_6_method_16_code 28 = .ok (.iconst 0, 1) := by decide +kernel
theorem d1_29 : decode prog_6_method_16_code 29 = .ok (.ireturn, 1) := by decide +kernel
theorem pn_1 : plainName "com/example/markush/markush/document/DocumentBreaks" = true := by first | (simp [plainName, overriddenIn]; done) | decide +kernel
theorem ef_rm1 (m : MethodId) (y0 : Int32) : entryFrame m #[(.int y0)] 1 = mkF m 0 #[.val (.int y0)] [] := by first | (simp [entryFrame, mkF, argsToLocals, Value.category]; done) | rfl
def Q_rm1 (Z : State) (p1_0 : Int32) (h0 : Heap) (n0 : Nat) (v : Option Value) (h : Heap) (L : List Loc) : Prop := v = some (.int (if p1_0 = (32 : Int32) then (1 : Int32) else (if p1_0 = (9 : Int32) then (1 : Int32) else (if p1_0 = (10 : Int32) then (1 : Int32) else (if p1_0 = (13 : Int32) then (1 : Int32) else (0 : Int32)))))) ∧ Fr n0 L ∧ h = h0
set_option maxRecDepth 65536 in
set_option maxHeartbeats 40000000 in
theorem rm1 (l : Launch) (Z : State) (a0 : Array Value) (hw : ∀ d ∈ tables_1, d.before a0 Z = true) (ws : List Jvm.Cond) (p1_0 : Int32) (h0 : Heap) (n0 : Nat) (Z0 : n0 ≤ h0.size) :
    MetFree l (⟨"com/example/markush/markush/document/DocumentBreaks", "isSpace", "(C)Z"⟩ : MethodName) (head1 (Jvm.Cond.code (⟨"com/example/markush/markush/document/DocumentBreaks", "isSpace", "(C)Z"⟩ : MethodName) prog_6_method_16_code 1 (some .boolean) :: ws) ({ frames := 0, cells := 0, slots := 0, locals := 0 } : Room)) (fun a U => a = #[(.int p1_0)] ∧ Z.Warmed39 U.vm ∧ U.heap = h0) (fun _ _ _ _ _ => True) (fun _ U o U' => ∃ v L, o = .returned v ∧ Q_rm1 Z p1_0 h0 n0 v U'.heap L ∧ FrameEnd U o U' L ({ frames := 0, cells := 0, slots := 0, locals := 0 } : Room).cells ({ frames := 0, cells := 0, slots := 0, locals := 0 } : Room).slots) := by
  refine MetFree.of_bodySF (plainFor_of_name pn_1) hisR ?_
  intro p e s m args below meth c s₁ Bd hml0 hP hK
  obtain ⟨rfl, hZ, hh⟩ := hP
  have hx := Bd.exec
  have hby := Bd.bytes
  have hml : c.maxLocals = 1 := hml0
  have hown : s.vm.findClass "com/example/markush/markush/document/DocumentBreaks" = some m.cls := findClass_of_methodNamed Bd.named
  have hnm := (name_of_methodNamed Bd.named Bd.method).1
  have X0 : Stand p l e ({ frames := 0, cells := 0, slots := 0, locals := 0 } : Room) s m #[(.int p1_0)] below meth c s₁ [] 0 0 := Stand.of_body Bd
  have e0 : s₁.heap = h0 := by rw [← hh, Bd.state]; rfl
  have N0 := Fr.nil n0
  have pre0 : ∀ t, Steps p.tables e below (s₁.setTop (mkF m 0 #[.val (.int p1_0)] [])) t → Steps p.tables e below (s₁.setTop (entryFrame m #[(.int p1_0)] 1)) t := fun t k => castTop (ef_rm1 m p1_0) k
  have G1 : ∀ t, Steps p.tables e below (s₁.setTop (mkF m 3 #[.val (.int p1_0)] [(.int (32 : Int32)), (.int p1_0)])) t → Steps p.tables e below (s₁.setTop (mkF m 0 #[.val (.int p1_0)] [])) t := by
    intro t k
    show Steps p.tables e below (s₁.setTop (mkF m 0 #[.val (.int p1_0)] [])) _
    refine XS.iloadN X0.here hx rfl (hb hby d1_0) rfl ?_
    show Steps p.tables e below (s₁.setTop (mkF m 1 #[.val (.int p1_0)] [(.int p1_0)])) _
    refine XS.bipush X0.here hx rfl (hb hby d1_1) ?_
    exact k
  by_cases h3_2 : p1_0 = (32 : Int32)
  · obtain ⟨fs, hr, hrun, hended, hW, hsame⟩ := X0.leave (v := some (.int (1 : Int32))) (fun h => by rw [Bd.returns] at h; cases h)
    refine ⟨_, _, pre0 _ ?_, hrun, hended, _, _, rfl, ?_, ⟨_, rfl⟩, hW, hsame.mono (by decide) (by decide)⟩
    · refine G1 _ ?_
      show Steps p.tables e below (s₁.setTop (mkF m 3 #[.val (.int p1_0)] [(.int (32 : Int32)), (.int p1_0)])) _
      refine XS.icmpYes X0.here hx rfl (pc0 := 3) (pc' := 24) rfl (hb hby d1_3) rfl (teq h3_2).1 (by decide) (by decide) ?_
      show Steps p.tables e below (s₁.setTop (mkF m 24 #[.val (.int p1_0)] [])) _
      refine XS.iconst X0.here hx rfl (hb hby d1_24) ?_
      show Steps p.tables e below (s₁.setTop (mkF m 25 #[.val (.int p1_0)] [(.int (1 : Int32))])) _
      refine XS.goto X0.here hx rfl (pc0 := 25) (pc' := 29) rfl (hb hby d1_25) (by decide) (by decide) ?_
      show Steps p.tables e below (s₁.setTop (mkF m 29 #[.val (.int p1_0)] [(.int (1 : Int32))])) _
      exact retN X0 hx (t := .boolean) Bd.returns (by simp) (hb hby d1_29) hr
    · show Q_rm1 Z p1_0 h0 n0 _ s₁.heap _
      rw [e0]
      exact ⟨(congrArg (fun z => some (Value.int z)) (if_pos h3_2).symm), N0, rfl⟩
  · have G3 : ∀ t, Steps p.tables e below (s₁.setTop (mkF m 9 #[.val (.int p1_0)] [(.int (9 : Int32)), (.int p1_0)])) t → Steps p.tables e below (s₁.setTop (mkF m 3 #[.val (.int p1_0)] [(.int (32 : Int32)), (.int p1_0)])) t := by
      intro t k
      show Steps p.tables e below (s₁.setTop (mkF m 3 #[.val (.int p1_0)] [(.int (32 : Int32)), (.int p1_0)])) _
      refine XS.icmpNo X0.here hx rfl (hb hby d1_3) rfl (feq h3_2).1 ?_
      show Steps p.tables e below (s₁.setTop (mkF m 6 #[.val (.int p1_0)] [])) _
      refine XS.iloadN X0.here hx rfl (hb hby d1_6) rfl ?_
      show Steps p.tables e below (s₁.setTop (mkF m 7 #[.val (.int p1_0)] [(.int p1_0)])) _
      refine XS.bipush X0.here hx rfl (hb hby d1_7) ?_
      exact k
    by_cases h9_4 : p1_0 = (9 : Int32)
    · obtain ⟨fs, hr, hrun, hended, hW, hsame⟩ := X0.leave (v := some (.int (1 : Int32))) (fun h => by rw [Bd.returns] at h; cases h)
      refine ⟨_, _, pre0 _ ?_, hrun, hended, _, _, rfl, ?_, ⟨_, rfl⟩, hW, hsame.mono (by decide) (by decide)⟩
      · refine G1 _ ?_
        refine G3 _ ?_
        show Steps p.tables e below (s₁.setTop (mkF m 9 #[.val (.int p1_0)] [(.int (9 : Int32)), (.int p1_0)])) _
        refine XS.icmpYes X0.here hx rfl (pc0 := 9) (pc' := 24) rfl (hb hby d1_9) rfl (teq h9_4).1 (by decide) (by decide) ?_
        show Steps p.tables e below (s₁.setTop (mkF m 24 #[.val (.int p1_0)] [])) _
        refine XS.iconst X0.here hx rfl (hb hby d1_24) ?_
        show Steps p.tables e below (s₁.setTop (mkF m 25 #[.val (.int p1_0)] [(.int (1 : Int32))])) _
        refine XS.goto X0.here hx rfl (pc0 := 25) (pc' := 29) rfl (hb hby d1_25) (by decide) (by decide) ?_
        show Steps p.tables e below (s₁.setTop (mkF m 29 #[.val (.int p1_0)] [(.int (1 : Int32))])) _
        exact retN X0 hx (t := .boolean) Bd.returns (by simp) (hb hby d1_29) hr
      · show Q_rm1 Z p1_0 h0 n0 _ s₁.heap _
        rw [e0]
        exact ⟨(congrArg (fun z => some (Value.int z)) ((if_neg h3_2).trans (if_pos h9_4)).symm), N0, rfl⟩
    · have G5 : ∀ t, Steps p.tables e below (s₁.setTop (mkF m 15 #[.val (.int p1_0)] [(.int (10 : Int32)), (.int p1_0)])) t → Steps p.tables e below (s₁.setTop (mkF m 9 #[.val (.int p1_0)] [(.int (9 : Int32)), (.int p1_0)])) t := by
        intro t k
        show Steps p.tables e below (s₁.setTop (mkF m 9 #[.val (.int p1_0)] [(.int (9 : Int32)), (.int p1_0)])) _
        refine XS.icmpNo X0.here hx rfl (hb hby d1_9) rfl (feq h9_4).1 ?_
        show Steps p.tables e below (s₁.setTop (mkF m 12 #[.val (.int p1_0)] [])) _
        refine XS.iloadN X0.here hx rfl (hb hby d1_12) rfl ?_
        show Steps p.tables e below (s₁.setTop (mkF m 13 #[.val (.int p1_0)] [(.int p1_0)])) _
        refine XS.bipush X0.here hx rfl (hb hby d1_13) ?_
        exact k
      by_cases h15_6 : p1_0 = (10 : Int32)
      · obtain ⟨fs, hr, hrun, hended, hW, hsame⟩ := X0.leave (v := some (.int (1 : Int32))) (fun h => by rw [Bd.returns] at h; cases h)
        refine ⟨_, _, pre0 _ ?_, hrun, hended, _, _, rfl, ?_, ⟨_, rfl⟩, hW, hsame.mono (by decide) (by decide)⟩
        · refine G1 _ ?_
          refine G3 _ ?_
          refine G5 _ ?_
          show Steps p.tables e below (s₁.setTop (mkF m 15 #[.val (.int p1_0)] [(.int (10 : Int32)), (.int p1_0)])) _
          refine XS.icmpYes X0.here hx rfl (pc0 := 15) (pc' := 24) rfl (hb hby d1_15) rfl (teq h15_6).1 (by decide) (by decide) ?_
          show Steps p.tables e below (s₁.setTop (mkF m 24 #[.val (.int p1_0)] [])) _
          refine XS.iconst X0.here hx rfl (hb hby d1_24) ?_
          show Steps p.tables e below (s₁.setTop (mkF m 25 #[.val (.int p1_0)] [(.int (1 : Int32))])) _
          refine XS.goto X0.here hx rfl (pc0 := 25) (pc' := 29) rfl (hb hby d1_25) (by decide) (by decide) ?_
          show Steps p.tables e below (s₁.setTop (mkF m 29 #[.val (.int p1_0)] [(.int (1 : Int32))])) _
          exact retN X0 hx (t := .boolean) Bd.returns (by simp) (hb hby d1_29) hr
        · show Q_rm1 Z p1_0 h0 n0 _ s₁.heap _
          rw [e0]
          exact ⟨(congrArg (fun z => some (Value.int z)) ((if_neg h3_2).trans ((if_neg h9_4).trans (if_pos h15_6))).symm), N0, rfl⟩
      · have G7 : ∀ t, Steps p.tables e below (s₁.setTop (mkF m 21 #[.val (.int p1_0)] [(.int (13 : Int32)), (.int p1_0)])) t → Steps p.tables e below (s₁.setTop (mkF m 15 #[.val (.int p1_0)] [(.int (10 : Int32)), (.int p1_0)])) t := by
          intro t k
          show Steps p.tables e below (s₁.setTop (mkF m 15 #[.val (.int p1_0)] [(.int (10 : Int32)), (.int p1_0)])) _
          refine XS.icmpNo X0.here hx rfl (hb hby d1_15) rfl (feq h15_6).1 ?_
          show Steps p.tables e below (s₁.setTop (mkF m 18 #[.val (.int p1_0)] [])) _
          refine XS.iloadN X0.here hx rfl (hb hby d1_18) rfl ?_
          show Steps p.tables e below (s₁.setTop (mkF m 19 #[.val (.int p1_0)] [(.int p1_0)])) _
          refine XS.bipush X0.here hx rfl (hb hby d1_19) ?_
          exact k
        by_cases h21_8 : p1_0 = (13 : Int32)
        · obtain ⟨fs, hr, hrun, hended, hW, hsame⟩ := X0.leave (v := some (.int (1 : Int32))) (fun h => by rw [Bd.returns] at h; cases h)
          refine ⟨_, _, pre0 _ ?_, hrun, hended, _, _, rfl, ?_, ⟨_, rfl⟩, hW, hsame.mono (by decide) (by decide)⟩
          · refine G1 _ ?_
            refine G3 _ ?_
            refine G5 _ ?_
            refine G7 _ ?_
            show Steps p.tables e below (s₁.setTop (mkF m 21 #[.val (.int p1_0)] [(.int (13 : Int32)), (.int p1_0)])) _
            refine XS.icmpNo X0.here hx rfl (hb hby d1_21) rfl (teq h21_8).2 ?_
            show Steps p.tables e below (s₁.setTop (mkF m 24 #[.val (.int p1_0)] [])) _
            refine XS.iconst X0.here hx rfl (hb hby d1_24) ?_
            show Steps p.tables e below (s₁.setTop (mkF m 25 #[.val (.int p1_0)] [(.int (1 : Int32))])) _
            refine XS.goto X0.here hx rfl (pc0 := 25) (pc' := 29) rfl (hb hby d1_25) (by decide) (by decide) ?_
            show Steps p.tables e below (s₁.setTop (mkF m 29 #[.val (.int p1_0)] [(.int (1 : Int32))])) _
            exact retN X0 hx (t := .boolean) Bd.returns (by simp) (hb hby d1_29) hr
          · show Q_rm1 Z p1_0 h0 n0 _ s₁.heap _
            rw [e0]
            exact ⟨(congrArg (fun z => some (Value.int z)) ((if_neg h3_2).trans ((if_neg h9_4).trans ((if_neg h15_6).trans (if_pos h21_8)))).symm), N0, rfl⟩
        · obtain ⟨fs, hr, hrun, hended, hW, hsame⟩ := X0.leave (v := some (.int (0 : Int32))) (fun h => by rw [Bd.returns] at h; cases h)
          refine ⟨_, _, pre0 _ ?_, hrun, hended, _, _, rfl, ?_, ⟨_, rfl⟩, hW, hsame.mono (by decide) (by decide)⟩
          · refine G1 _ ?_
            refine G3 _ ?_
            refine G5 _ ?_
            refine G7 _ ?_
            show Steps p.tables e below (s₁.setTop (mkF m 21 #[.val (.int p1_0)] [(.int (13 : Int32)), (.int p1_0)])) _
            refine XS.icmpYes X0.here hx rfl (pc0 := 21) (pc' := 28) rfl (hb hby d1_21) rfl (feq h21_8).2 (by decide) (by decide) ?_
            show Steps p.tables e below (s₁.setTop (mkF m 28 #[.val (.int p1_0)] [])) _
            refine XS.iconst X0.here hx rfl (hb hby d1_28) ?_
            show Steps p.tables e below (s₁.setTop (mkF m 29 #[.val (.int p1_0)] [(.int (0 : Int32))])) _
            exact retN X0 hx (t := .boolean) Bd.returns (by simp) (hb hby d1_29) hr
          · show Q_rm1 Z p1_0 h0 n0 _ s₁.heap _
            rw [e0]
            exact ⟨(congrArg (fun z => some (Value.int z)) ((if_neg h3_2).trans ((if_neg h9_4).trans ((if_neg h15_6).trans (if_neg h21_8)))).symm), N0, rfl⟩
theorem pd__C_Z : parseMethodDescriptor "(C)Z" = some ⟨[.char], some .boolean⟩ := by decide +kernel
theorem own_fin (p0_0 : Int32) (x1 : Int32) (hx1 : x1 = (p0_0.toUInt32.toUInt16.toUInt32.toInt32)) (v6 : Int32) (hv6 : v6 = (if (32 : Int32) < x1 then (0 : Int32) else (if (((1 : Int64) <<< (x1 &&& 0x3f).toInt64) &&& (4294977024 : Int64)) = (0 : Int64) then (0 : Int32) else (1 : Int32)))) (x9 : Int32) (hx9 : x9 = (if x1 = (32 : Int32) then (1 : Int32) else (if x1 = (9 : Int32) then (1 : Int32) else (if x1 = (10 : Int32) then (1 : Int32) else (if x1 = (13 : Int32) then (1 : Int32) else (0 : Int32)))))) (v12 : Int32) (hv12 : v12 = (if x9 = v6 then (1 : Int32) else (0 : Int32))) : v12 = (1 : Int32) := by
  have hr := c_i2c p0_0
  rw [← hx1] at hr
  by_cases h : (32 : Int32) < x1
  · have h' := h
    rw [Int32.lt_iff_toInt_lt, show (32 : Int32).toInt = 32 from by decide] at h'
    have n1 : ¬ x1 = 32 := fun q => by rw [q] at h'; revert h'; decide
    have n2 : ¬ x1 = 9 := fun q => by rw [q] at h'; revert h'; decide
    have n3 : ¬ x1 = 10 := fun q => by rw [q] at h'; revert h'; decide
    have n4 : ¬ x1 = 13 := fun q => by rw [q] at h'; revert h'; decide
    rw [hv12, hx9, hv6, if_neg n1, if_neg n2, if_neg n3, if_neg n4, if_pos h, if_pos rfl]
  · have h' := h
    rw [Int32.lt_iff_toInt_lt, show (32 : Int32).toInt = 32 from by decide] at h'
    obtain ⟨n, hn⟩ : ∃ n : Fin 33, x1 = Int32.ofNat n.val := by
      refine ⟨⟨x1.toInt.toNat, by omega⟩, ?_⟩
      apply Int32.toInt_inj.mp
      rw [Int32.toInt_ofNat_of_lt (by show x1.toInt.toNat < _; omega)]
      show _ = ((x1.toInt.toNat : Nat) : Int)
      omega
    rw [hv12, hx9, hv6, if_neg h, hn]
    exact own_small n
theorem pn_0 : plainName "com/example/markush/markush/document/DocumentBreaksIsSpacePinLaw" = true := by first | (simp [plainName, overriddenIn]; done) | decide +kernel
theorem ef_rm0 (m : MethodId) (y0 : Int32) : entryFrame m #[(.int y0)] maxLocals = mkF m 0 #[.val (.int y0), .unset, .unset, .unset, .unset] [] := by first | (simp [entryFrame, mkF, argsToLocals, Value.category, maxLocals]; done) | rfl
def Q_rm0 (Z : State) (p0_0 : Int32) (h0 : Heap) (n0 : Nat) (v : Option Value) (h : Heap) (L : List Loc) : Prop := v = some (.int (1 : Int32)) ∧ Fr n0 L
set_option maxRecDepth 65536 in
set_option maxHeartbeats 40000000 in
theorem rm0 (l : Launch) (Z : State) (a0 : Array Value) (hw : ∀ d ∈ tables_1, d.before a0 Z = true) (ws : List Jvm.Cond) (p0_0 : Int32) (h0 : Heap) (n0 : Nat) (Z0 : n0 ≤ h0.size) :
    MetFree l x (head1 (Jvm.Cond.code x code maxLocals ret :: ws) room_1) (fun a U => a = #[(.int p0_0)] ∧ Z.Warmed39 U.vm ∧ U.heap = h0) (fun _ _ _ _ _ => True) (fun _ U o U' => ∃ v L, o = .returned v ∧ Q_rm0 Z p0_0 h0 n0 v U'.heap L ∧ FrameEnd U o U' L 0 0) := by
  refine MetFree.of_bodySF (plainFor_of_name pn_0) hisR ?_
  intro p e s m args below meth c s₁ Bd hml0 hP hK
  obtain ⟨rfl, hZ, hh⟩ := hP
  have hx := Bd.exec
  have hby := Bd.bytes
  have hml : c.maxLocals = 5 := hml0
  have hown : s.vm.findClass "com/example/markush/markush/document/DocumentBreaksIsSpacePinLaw" = some m.cls := findClass_of_methodNamed Bd.named
  have hnm := (name_of_methodNamed Bd.named Bd.method).1
  have X0 : Stand p l e room_1 s m #[(.int p0_0)] below meth c s₁ [] 0 0 := Stand.of_body Bd
  have e0 : s₁.heap = h0 := by rw [← hh, Bd.state]; rfl
  have N0 := Fr.nil n0
  have pre0 : ∀ t, Steps p.tables e below (s₁.setTop (mkF m 0 #[.val (.int p0_0), .unset, .unset, .unset, .unset] [])) t → Steps p.tables e below (s₁.setTop (entryFrame m #[(.int p0_0)] maxLocals)) t := fun t k => castTop (ef_rm0 m p0_0) k
  obtain ⟨x1, hx1⟩ : ∃ z : Int32, z = (p0_0.toUInt32.toUInt16.toUInt32.toInt32) := ⟨_, rfl⟩
  have G2 : ∀ t, Steps p.tables e below (s₁.setTop (mkF m 10 #[.val (.int p0_0), .val (.int x1), .val (.long (4294977024 : Int64)), .second, .unset] [(.int (32 : Int32)), (.int x1)])) t → Steps p.tables e below (s₁.setTop (mkF m 0 #[.val (.int p0_0), .unset, .unset, .unset, .unset] [])) t := by
    intro t k
    show Steps p.tables e below (s₁.setTop (mkF m 0 #[.val (.int p0_0), .unset, .unset, .unset, .unset] [])) _
    refine XS.iloadN X0.here hx rfl (hb hby at_0) rfl ?_
    show Steps p.tables e below (s₁.setTop (mkF m 1 #[.val (.int p0_0), .unset, .unset, .unset, .unset] [(.int p0_0)])) _
    refine XS.i2c X0.here hx rfl (hb hby at_1) rfl ?_
    show Steps p.tables e below (s₁.setTop (mkF m 2 #[.val (.int p0_0), .unset, .unset, .unset, .unset] [(.int (p0_0.toUInt32.toUInt16.toUInt32.toInt32))])) _
    refine XS.istoreN X0.here hx rfl (hb hby at_2) rfl (l' := #[.val (.int p0_0), .val (.int (p0_0.toUInt32.toUInt16.toUInt32.toInt32)), .unset, .unset, .unset]) rfl ?_
    show Steps p.tables e below (s₁.setTop (mkF m 3 #[.val (.int p0_0), .val (.int (p0_0.toUInt32.toUInt16.toUInt32.toInt32)), .unset, .unset, .unset] [])) _
    rw [← hx1]
    show Steps p.tables e below (s₁.setTop (mkF m 3 #[.val (.int p0_0), .val (.int x1), .unset, .unset, .unset] [])) _
    refine X0.ldc2Long hx hown (mvT hZ (ow0 hw)) (g := (mkF m 3 #[.val (.int p0_0), .val (.int x1), .unset, .unset, .unset] [])) rfl (hb hby at_3) _ ?_
    show Steps p.tables e below (s₁.setTop (mkF m 6 #[.val (.int p0_0), .val (.int x1), .unset, .unset, .unset] [(.long (4294977024 : Int64))])) _
    refine XS.lstoreN X0.here hx rfl (hb hby at_6) rfl (l' := #[.val (.int p0_0), .val (.int x1), .val (.long (4294977024 : Int64)), .second, .unset]) rfl ?_
    show Steps p.tables e below (s₁.setTop (mkF m 7 #[.val (.int p0_0), .val (.int x1), .val (.long (4294977024 : Int64)), .second, .unset] [])) _
    refine XS.iloadN X0.here hx rfl (hb hby at_7) rfl ?_
    show Steps p.tables e below (s₁.setTop (mkF m 8 #[.val (.int p0_0), .val (.int x1), .val (.long (4294977024 : Int64)), .second, .unset] [(.int x1)])) _
    refine XS.bipush X0.here hx rfl (hb hby at_8) ?_
    exact k
  obtain ⟨v6, hv6⟩ : ∃ z : Int32, z = (if (32 : Int32) < x1 then (0 : Int32) else (if (((1 : Int64) <<< (x1 &&& 0x3f).toInt64) &&& (4294977024 : Int64)) = (0 : Int64) then (0 : Int32) else (1 : Int32))) := ⟨_, rfl⟩
  obtain ⟨T7, Lo7, X7, N7, e7, G7⟩ := own_join X0 N0 (h := h0) (mkF m 10 #[.val (.int p0_0), .val (.int x1), .val (.long (4294977024 : Int64)), .second, .unset] [(.int (32 : Int32)), (.int x1)]) (mkF m 28 #[.val (.int p0_0), .val (.int x1), .val (.long (4294977024 : Int64)), .second, .unset] [(.int v6)]) (by
    by_cases h10_3 : (32 : Int32) < x1
    · refine ⟨s₁, _, X0, N0, e0, fun t k => ?_⟩
      rw [show v6 = (0 : Int32) from hv6.trans (if_pos h10_3)] at k
      show Steps p.tables e below (s₁.setTop (mkF m 10 #[.val (.int p0_0), .val (.int x1), .val (.long (4294977024 : Int64)), .second, .unset] [(.int (32 : Int32)), (.int x1)])) _
      refine XS.icmpYes X0.here hx rfl (pc0 := 10) (pc' := 27) rfl (hb hby at_10) rfl (tlt h10_3).2.2.1 (by decide) (by decide) ?_
      show Steps p.tables e below (s₁.setTop (mkF m 27 #[.val (.int p0_0), .val (.int x1), .val (.long (4294977024 : Int64)), .second, .unset] [])) _
      refine XS.iconst X0.here hx rfl (hb hby at_27) ?_
      exact k
    · have G4 : ∀ t, Steps p.tables e below (s₁.setTop (mkF m 20 #[.val (.int p0_0), .val (.int x1), .val (.long (4294977024 : Int64)), .second, .unset] [(.int (lcmpW (((1 : Int64) <<< (x1 &&& 0x3f).toInt64) &&& (4294977024 : Int64)) (0 : Int64)))])) t → Steps p.tables e below (s₁.setTop (mkF m 10 #[.val (.int p0_0), .val (.int x1), .val (.long (4294977024 : Int64)), .second, .unset] [(.int (32 : Int32)), (.int x1)])) t := by
        intro t k
        show Steps p.tables e below (s₁.setTop (mkF m 10 #[.val (.int p0_0), .val (.int x1), .val (.long (4294977024 : Int64)), .second, .unset] [(.int (32 : Int32)), (.int x1)])) _
        refine XS.icmpNo X0.here hx rfl (hb hby at_10) rfl (flt h10_3).2.2.1 ?_
        show Steps p.tables e below (s₁.setTop (mkF m 13 #[.val (.int p0_0), .val (.int x1), .val (.long (4294977024 : Int64)), .second, .unset] [])) _
        refine XS.lconst X0.here hx rfl (hb hby at_13) ?_
        show Steps p.tables e below (s₁.setTop (mkF m 14 #[.val (.int p0_0), .val (.int x1), .val (.long (4294977024 : Int64)), .second, .unset] [(.long (1 : Int64))])) _
        refine XS.iloadN X0.here hx rfl (hb hby at_14) rfl ?_
        show Steps p.tables e below (s₁.setTop (mkF m 15 #[.val (.int p0_0), .val (.int x1), .val (.long (4294977024 : Int64)), .second, .unset] [(.int x1), (.long (1 : Int64))])) _
        refine XS.lshl X0.here hx rfl (hb hby at_15) rfl ?_
        show Steps p.tables e below (s₁.setTop (mkF m 16 #[.val (.int p0_0), .val (.int x1), .val (.long (4294977024 : Int64)), .second, .unset] [(.long ((1 : Int64) <<< (x1 &&& 0x3f).toInt64))])) _
        refine XS.lloadN X0.here hx rfl (hb hby at_16) rfl ?_
        show Steps p.tables e below (s₁.setTop (mkF m 17 #[.val (.int p0_0), .val (.int x1), .val (.long (4294977024 : Int64)), .second, .unset] [(.long (4294977024 : Int64)), (.long ((1 : Int64) <<< (x1 &&& 0x3f).toInt64))])) _
        refine XS.land X0.here hx rfl (hb hby at_17) rfl ?_
        show Steps p.tables e below (s₁.setTop (mkF m 18 #[.val (.int p0_0), .val (.int x1), .val (.long (4294977024 : Int64)), .second, .unset] [(.long (((1 : Int64) <<< (x1 &&& 0x3f).toInt64) &&& (4294977024 : Int64)))])) _
        refine XS.lconst X0.here hx rfl (hb hby at_18) ?_
        show Steps p.tables e below (s₁.setTop (mkF m 19 #[.val (.int p0_0), .val (.int x1), .val (.long (4294977024 : Int64)), .second, .unset] [(.long (0 : Int64)), (.long (((1 : Int64) <<< (x1 &&& 0x3f).toInt64) &&& (4294977024 : Int64)))])) _
        refine XS.lcmp X0.here hx rfl (hb hby at_19) rfl ?_
        exact k
      by_cases h20_5 : (((1 : Int64) <<< (x1 &&& 0x3f).toInt64) &&& (4294977024 : Int64)) = (0 : Int64)
      · refine ⟨s₁, _, X0, N0, e0, fun t k => ?_⟩
        rw [show v6 = (0 : Int32) from hv6.trans ((if_neg h10_3).trans (if_pos h20_5))] at k
        refine G4 _ ?_
        show Steps p.tables e below (s₁.setTop (mkF m 20 #[.val (.int p0_0), .val (.int x1), .val (.long (4294977024 : Int64)), .second, .unset] [(.int (lcmpW (((1 : Int64) <<< (x1 &&& 0x3f).toInt64) &&& (4294977024 : Int64)) (0 : Int64)))])) _
        refine XS.ifYes X0.here hx rfl (pc0 := 20) (pc' := 27) rfl (hb hby at_20) rfl ((if0 _ _).trans (teq ((lw_eq _ _).mpr h20_5)).1) (by decide) (by decide) ?_
        show Steps p.tables e below (s₁.setTop (mkF m 27 #[.val (.int p0_0), .val (.int x1), .val (.long (4294977024 : Int64)), .second, .unset] [])) _
        refine XS.iconst X0.here hx rfl (hb hby at_27) ?_
        exact k
      · refine ⟨s₁, _, X0, N0, e0, fun t k => ?_⟩
        rw [show v6 = (1 : Int32) from hv6.trans ((if_neg h10_3).trans (if_neg h20_5))] at k
        refine G4 _ ?_
        show Steps p.tables e below (s₁.setTop (mkF m 20 #[.val (.int p0_0), .val (.int x1), .val (.long (4294977024 : Int64)), .second, .unset] [(.int (lcmpW (((1 : Int64) <<< (x1 &&& 0x3f).toInt64) &&& (4294977024 : Int64)) (0 : Int64)))])) _
        refine XS.ifNo X0.here hx rfl (hb hby at_20) rfl ((if0 _ _).trans (feq (fun q => h20_5 ((lw_eq _ _).mp q))).1) ?_
        show Steps p.tables e below (s₁.setTop (mkF m 23 #[.val (.int p0_0), .val (.int x1), .val (.long (4294977024 : Int64)), .second, .unset] [])) _
        refine XS.iconst X0.here hx rfl (hb hby at_23) ?_
        show Steps p.tables e below (s₁.setTop (mkF m 24 #[.val (.int p0_0), .val (.int x1), .val (.long (4294977024 : Int64)), .second, .unset] [(.int (1 : Int32))])) _
        refine XS.goto X0.here hx rfl (pc0 := 24) (pc' := 28) rfl (hb hby at_24) (by decide) (by decide) ?_
        exact k)
  obtain ⟨_, _, ⟨T8, L8, k8, n8⟩, -, X8, ⟨Lc8, hQ8, l8, y8, z8⟩, st8⟩ := Jvm.LawKit.callS X7 hx (y := (⟨"com/example/markush/markush/document/DocumentBreaks", "isSpace", "(C)Z"⟩ : MethodName)) hown (mvT hZ (ow1 hw)) (mvT hZ (ow2 hw)) (mvT hZ (ow3 hw)) (mvT hZ (ow4 hw)) (by decide) (backOf (W := 0) (rm1 l Z a0 hw [] x1 h0 n0 Z0 ) hZ (ow4 hw) (ow3 hw) (by decide) (by decide)) (g := (mkF m 31 #[.val (.int p0_0), .val (.int x1), .val (.long (4294977024 : Int64)), .second, .val (.int v6)] [(.int x1)])) rfl (by rw [hml]; rfl) (argsL := [(.int x1)]) (rest := []) (lenOf pd__C_Z rfl) rfl (by show 2 * 0 + _ ≤ _; exact Nat.le_of_eq rfl) (hb hby at_31) (fun _ _ => ⟨rfl, e7, (by decide : 0 + 0 ≤ _), (by decide : 0 + 0 ≤ _)⟩)
  dsimp only [Pt.U, Pt.locs, Pt.cells, Pt.slots] at X8 l8 y8 z8 st8 hQ8
  subst l8 y8 z8
  obtain ⟨rfl, Nq8, e8⟩ := hQ8
  have N8 := Fr.app N7 Nq8
  obtain ⟨x9, hx9⟩ : ∃ z : Int32, z = (if x1 = (32 : Int32) then (1 : Int32) else (if x1 = (9 : Int32) then (1 : Int32) else (if x1 = (10 : Int32) then (1 : Int32) else (if x1 = (13 : Int32) then (1 : Int32) else (0 : Int32))))) := ⟨_, rfl⟩
  have G10 : ∀ t, Steps p.tables e below (T8.setTop (mkF m 36 #[.val (.int p0_0), .val (.int x1), .val (.long (4294977024 : Int64)), .second, .val (.int v6)] [(.int v6), (.int x9)])) t → Steps p.tables e below (T7.setTop (mkF m 28 #[.val (.int p0_0), .val (.int x1), .val (.long (4294977024 : Int64)), .second, .unset] [(.int v6)])) t := by
    intro t k
    show Steps p.tables e below (T7.setTop (mkF m 28 #[.val (.int p0_0), .val (.int x1), .val (.long (4294977024 : Int64)), .second, .unset] [(.int v6)])) _
    refine XS.istore X7.here hx rfl (hb hby at_28) rfl (l' := #[.val (.int p0_0), .val (.int x1), .val (.long (4294977024 : Int64)), .second, .val (.int v6)]) rfl ?_
    show Steps p.tables e below (T7.setTop (mkF m 30 #[.val (.int p0_0), .val (.int x1), .val (.long (4294977024 : Int64)), .second, .val (.int v6)] [])) _
    refine XS.iloadN X7.here hx rfl (hb hby at_30) rfl ?_
    show Steps p.tables e below (T7.setTop (mkF m 31 #[.val (.int p0_0), .val (.int x1), .val (.long (4294977024 : Int64)), .second, .val (.int v6)] [(.int x1)])) _
    refine st8 _ ?_
    show Steps p.tables e below (T8.setTop (mkF m 34 #[.val (.int p0_0), .val (.int x1), .val (.long (4294977024 : Int64)), .second, .val (.int v6)] [(.int (if x1 = (32 : Int32) then (1 : Int32) else (if x1 = (9 : Int32) then (1 : Int32) else (if x1 = (10 : Int32) then (1 : Int32) else (if x1 = (13 : Int32) then (1 : Int32) else (0 : Int32))))))])) _
    rw [← hx9]
    show Steps p.tables e below (T8.setTop (mkF m 34 #[.val (.int p0_0), .val (.int x1), .val (.long (4294977024 : Int64)), .second, .val (.int v6)] [(.int x9)])) _
    refine XS.iload X8.here hx rfl (hb hby at_34) rfl ?_
    exact k
  obtain ⟨v12, hv12⟩ : ∃ z : Int32, z = (if x9 = v6 then (1 : Int32) else (0 : Int32)) := ⟨_, rfl⟩
  obtain ⟨T13, Lo13, X13, N13, e13, G13⟩ := own_join X8 N8 (h := h0) (mkF m 36 #[.val (.int p0_0), .val (.int x1), .val (.long (4294977024 : Int64)), .second, .val (.int v6)] [(.int v6), (.int x9)]) (mkF m 44 #[.val (.int p0_0), .val (.int x1), .val (.long (4294977024 : Int64)), .second, .val (.int v6)] [(.int v12)]) (by
    by_cases h36_11 : x9 = v6
    · refine ⟨T8, _, X8, N8, e8, fun t k => ?_⟩
      rw [show v12 = (1 : Int32) from hv12.trans (if_pos h36_11)] at k
      show Steps p.tables e below (T8.setTop (mkF m 36 #[.val (.int p0_0), .val (.int x1), .val (.long (4294977024 : Int64)), .second, .val (.int v6)] [(.int v6), (.int x9)])) _
      refine XS.icmpNo X8.here hx rfl (hb hby at_36) rfl (teq h36_11).2 ?_
      show Steps p.tables e below (T8.setTop (mkF m 39 #[.val (.int p0_0), .val (.int x1), .val (.long (4294977024 : Int64)), .second, .val (.int v6)] [])) _
      refine XS.iconst X8.here hx rfl (hb hby at_39) ?_
      show Steps p.tables e below (T8.setTop (mkF m 40 #[.val (.int p0_0), .val (.int x1), .val (.long (4294977024 : Int64)), .second, .val (.int v6)] [(.int (1 : Int32))])) _
      refine XS.goto X8.here hx rfl (pc0 := 40) (pc' := 44) rfl (hb hby at_40) (by decide) (by decide) ?_
      exact k
    · refine ⟨T8, _, X8, N8, e8, fun t k => ?_⟩
      rw [show v12 = (0 : Int32) from hv12.trans (if_neg h36_11)] at k
      show Steps p.tables e below (T8.setTop (mkF m 36 #[.val (.int p0_0), .val (.int x1), .val (.long (4294977024 : Int64)), .second, .val (.int v6)] [(.int v6), (.int x9)])) _
      refine XS.icmpYes X8.here hx rfl (pc0 := 36) (pc' := 43) rfl (hb hby at_36) rfl (feq h36_11).2 (by decide) (by decide) ?_
      show Steps p.tables e below (T8.setTop (mkF m 43 #[.val (.int p0_0), .val (.int x1), .val (.long (4294977024 : Int64)), .second, .val (.int v6)] [])) _
      refine XS.iconst X8.here hx rfl (hb hby at_43) ?_
      exact k)
  have fin : v12 = (1 : Int32) := by
    exact own_fin p0_0 x1 hx1 v6 hv6 x9 hx9 v12 hv12
  obtain ⟨fs, hr, hrun, hended, hW, hsame⟩ := X13.leave (v := some (.int (1 : Int32))) (fun h => by rw [Bd.returns] at h; cases h)
  refine ⟨_, _, pre0 _ ?_, hrun, hended, _, _, rfl, ?_, ⟨_, rfl⟩, hW, hsame.mono (by decide) (by decide)⟩
  · refine G2 _ ?_
    refine G7 _ ?_
    refine G10 _ ?_
    refine G13 _ ?_
    show Steps p.tables e below (T13.setTop (mkF m 44 #[.val (.int p0_0), .val (.int x1), .val (.long (4294977024 : Int64)), .second, .val (.int v6)] [(.int v12)])) _
    rw [fin]
    exact retN X13 hx (t := .boolean) Bd.returns (by simp) (hb hby at_44) hr
  · exact ⟨rfl, N13⟩
set_option maxRecDepth 65536 in
set_option maxHeartbeats 40000000 in
theorem comes_1 {Post : Tables → Env → Array Value → State → Outcome → State → Prop} (hpost : ∀ tb e args s v u, (limb_1_1.after args s (.returned v) u = true ∧ limb_1_2.after args s (.returned v) u = true ∧ True) → FrameEnd s (.returned v) u (Jvm.fieldLocs frame_1_writes args s ++ Jvm.arrayLocs frame_1_arrays args s ++ Jvm.staticLocs frame_1_statics s) 0 0 → Post tb e args s (.returned v) u) :
    ArmFor flags0 classFile x code maxLocals ret World_1 tables_1 room_1 Calls_1 rest_1 Pre_1 Post := by
  intro l hfl _ _ p e ha hc hk s m args below hf hA hF happ hP
  obtain ⟨hcalls, hrest, hpre⟩ := hP
  obtain ⟨-, -, -, hnamed, -, -, -, hat⟩ := (Spec.applies_iff hf).mp happ
  obtain ⟨hg, hn⟩ := and_e (Cond.before_iff.mp (show (Jvm.Cond.and given_1 narrow_1).before args s = true from hpre))
  obtain ⟨g1, g2⟩ := and_e hg
  obtain ⟨w0, rfl⟩ : ∃ w0 : Value, args = #[w0] := by
    have hs : args.size = 1 := by simpa [Cond.value, given_1] using g1
    obtain ⟨L⟩ := args
    match L, hs with
    | [w0], _ => exact ⟨w0, rfl⟩
  have hw := fun d (hd : d ∈ tables_1) => atoms_spec (ws := Jvm.Cond.code x code maxLocals ret :: tables_1) hat d (List.mem_cons_of_mem _ hd)
  have hfit : Fit s := fun {y c} hc i hi => by
    obtain ⟨ha, rfl⟩ := Array.getElem?_eq_some_iff.mp hc
    have q := List.all_eq_true.mp ((Array.all_eq_true_iff_forall_mem.mp hF) _ (Array.getElem_mem ha)) i (List.mem_range.mpr hi)
    simpa [Array.getElem?_eq_getElem hi] using q
  obtain ⟨i0, ei0⟩ := is_v g2
  obtain rfl : w0 = (.int i0) := Option.some.inj ei0
  obtain ⟨n, o, h1, h2, h3, _, L, rfl, ⟨rfl, N⟩, hq⟩ := rm0 l s _ hw tables_1 i0 s.heap s.heap.size (Nat.le_refl _) p e ha hc hk s m _ below hf ((Spec.applies_iff_loose hf).mp happ).1 ⟨rfl, State.Warmed39.refl s, rfl⟩ trivial
  refine ⟨n, _, h1, h2, h3, hpost _ _ _ _ _ _ ⟨Cond.after_iff.mpr rfl, Cond.after_iff.mpr (eq_i res_at (Term.int_eval (1)) rfl), trivial⟩ ⟨hq.1, hq.2.1, (hq.2.2.sift fun y hy => Or.inr (N y hy)).mono (by decide) (by decide)⟩⟩
theorem main_1_1 : Claimed_1_1 := comes_1 fun _ _ _ _ _ _ h hF => ⟨h.1, hF⟩
theorem main_1_2 : Claimed_1_2 := comes_1 fun _ _ _ _ _ _ h hF => ⟨h.2.1, hF⟩
end Jvm.Pilot.@@N@@
namespace Jvm.Pilot.@@N@@
open Jvm Jvm.ClassFile Sem Op Lib Jvm.Free Jvm.Stand Jvm.Pilot.@@N@@.Jvm.D
/-! MADE BY PROGRAM (witnessworld.py) out of the Statement's table words and the real class files: 9 classes; the members and pool entries that the words name. The judged class is class 1, her method 1. -/
namespace start1
open Jvm.ClassFile
def u (s : String) : CpInfo := .utf8 (stringToUtf16 s)
/-- a pool by its gaps: so many unusable entries, then the entry; so many at the end -/
def gap : Nat → List CpInfo → List CpInfo
  | 0, r => r
  | n + 1, r => .unusable :: gap n r
def poolList (es : List (Nat × CpInfo)) (last : Nat) : List CpInfo := es.foldr (fun e r => gap e.1 (e.2 :: r)) (gap last [])
def pool (es : List (Nat × CpInfo)) (last : Nat) : Array CpInfo := ⟨poolList es last⟩
def fileOf (pool : Array CpInfo) (this : Nat) (attrs : Array Attribute := #[]) (ms : Array MethodInfo := #[]) (fl : Nat := 33) (sup : Nat := 0) (ifs : Array Nat := #[]) (fds : Array FieldInfo := #[]) : ClassFile where
  minorVersion := 0
  majorVersion := 65
  constantPool := pool
  accessFlags := fl
  thisClass := this
  superClass := sup
  interfaces := ifs
  fields := fds
  methods := ms
  attributes := attrs
def plain (name : String) (sup : Option ClassId) : Class where
  name := name
  kind := .ordinary
  loader := none
  accessFlags := 33
  super := sup
  interfaces := #[]
  cf := none
  fields := #[]
  methods := #[]
  instanceTypes := #[]
  staticTypes := #[]
  resolved := #[]
  callSites := []
  init := .initialized
  statics := none
  mirror := none

def pool0 : Array CpInfo := pool [(5, u "<init>"), (0, u "()V"), (1, .class_ 10), (1, u "java/lang/Object")] 113

def k0m0 : Method := { name := "<init>", desc := "()V", sig := { parameters := [], returnType := none }, accessFlags := 1, code := none }
/-- java/lang/Object -/
def k0 : Class := { plain "java/lang/Object" none with
  accessFlags := 33
  interfaces := #[]
  cf := some (fileOf pool0 8 #[] #[{ accessFlags := 1, nameIndex := 5, descriptorIndex := 6, attributes := #[] }] 33 0 #[] #[])
  fields := #[]
  methods := #[k0m0]
  instanceTypes := #[]
  staticTypes := #[]
  resolved := Array.replicate 124 none
  statics := none }

def pool1 : Array CpInfo := pool [(2, .class_ 4), (1, u "java/lang/Object"), (0, u "<init>"), (0, u "()V"), (0, .long 4294977024), (1, .methodref 10 11), (0, .class_ 12), (0, .nameAndType 13 14), (0, u "com/example/markush/markush/document/DocumentBreaks"), (0, u "isSpace"), (0, u "(C)Z"), (0, .class_ 16), (0, u "com/example/markush/markush/document/DocumentBreaksIsSpacePinLaw"), (2, u "law"), (0, u "(I)Z")] 3

def k1m0 : Method := { name := "<init>", desc := "()V", sig := { parameters := [], returnType := none }, accessFlags := 2, code := none }
def k1c1 : Code := { maxStack := 4, maxLocals := 5, code := code, exceptionTable := #[], attributes := #[] }
def k1m1 : Method := { name := "law", desc := "(I)Z", sig := { parameters := [.int], returnType := some .boolean }, accessFlags := 9, code := some k1c1 }
/-- com/example/markush/markush/document/DocumentBreaksIsSpacePinLaw -/
def k1 : Class := { plain "com/example/markush/markush/document/DocumentBreaksIsSpacePinLaw" (some 0) with
  accessFlags := 49
  interfaces := #[]
  cf := some (fileOf pool1 15 #[] #[{ accessFlags := 2, nameIndex := 5, descriptorIndex := 6, attributes := #[] }, { accessFlags := 9, nameIndex := 19, descriptorIndex := 20, attributes := #[] }] 49 2 #[] #[])
  fields := #[]
  methods := #[k1m0, k1m1]
  instanceTypes := #[]
  staticTypes := #[]
  resolved := Array.replicate 24 none
  statics := none }

def pool2 : Array CpInfo := pool [(2, .class_ 4), (1, u "java/lang/Object"), (0, u "<init>"), (0, u "()V"), (1, .class_ 10), (1, u "com/example/markush/markush/document/DocumentBreaks$State"), (1, u "Lcom/example/markush/markush/document/DocumentBreaks$State;"), (1, .class_ 16), (1, u "com/example/markush/markush/document/DocumentBreaks"), (0, u "state"), (2, u "last"), (0, u "C"), (2, u "atBreak"), (0, u "Z"), (2, u "overlong"), (0, u "Ljava/lang/String;"), (2, u "declaration"), (0, u "J"), (6, u "markup"), (11, u "opening"), (0, u "I"), (15, u "DOCTYPE"), (2, u "inDoctype"), (26, u "started"), (5, u "quote"), (5, u "typed"), (10, u "COMMENT"), (8, u "CDATA"), (8, u "(C)Z"), (2, u "subset"), (6, u "closing"), (26, u "isSpace"), (9, u "LOOKAHEAD"), (2, u "BYTE_ORDER_MARK"), (0, u "MOST_MARKUP"), (0, u "DECLARATION")] 28

def k2m0 : Method := { name := "<init>", desc := "()V", sig := { parameters := [], returnType := none }, accessFlags := 0, code := none }
def k2c1 : Code := { maxStack := 2, maxLocals := 1, code := prog_6_method_16_code, exceptionTable := #[], attributes := #[] }
def k2m1 : Method := { name := "isSpace", desc := "(C)Z", sig := { parameters := [.char], returnType := some .boolean }, accessFlags := 8, code := some k2c1 }
/-- com/example/markush/markush/document/DocumentBreaks -/
def k2 : Class := { plain "com/example/markush/markush/document/DocumentBreaks" (some 0) with
  accessFlags := 48
  interfaces := #[]
  cf := some (fileOf pool2 14 #[.nestMembers #[8]] #[{ accessFlags := 0, nameIndex := 5, descriptorIndex := 6, attributes := #[] }, { accessFlags := 8, nameIndex := 177, descriptorIndex := 140, attributes := #[] }] 48 2 #[] #[{ accessFlags := 24, nameIndex := 187, descriptorIndex := 53, attributes := #[] }, { accessFlags := 24, nameIndex := 190, descriptorIndex := 21, attributes := #[] }, { accessFlags := 24, nameIndex := 191, descriptorIndex := 53, attributes := #[] }, { accessFlags := 26, nameIndex := 192, descriptorIndex := 29, attributes := #[] }, { accessFlags := 26, nameIndex := 69, descriptorIndex := 29, attributes := #[] }, { accessFlags := 26, nameIndex := 122, descriptorIndex := 29, attributes := #[] }, { accessFlags := 26, nameIndex := 131, descriptorIndex := 29, attributes := #[] }, { accessFlags := 2, nameIndex := 17, descriptorIndex := 12, attributes := #[] }, { accessFlags := 2, nameIndex := 52, descriptorIndex := 53, attributes := #[] }, { accessFlags := 2, nameIndex := 150, descriptorIndex := 53, attributes := #[] }, { accessFlags := 2, nameIndex := 72, descriptorIndex := 25, attributes := #[] }, { accessFlags := 2, nameIndex := 143, descriptorIndex := 25, attributes := #[] }, { accessFlags := 2, nameIndex := 105, descriptorIndex := 21, attributes := #[] }, { accessFlags := 2, nameIndex := 40, descriptorIndex := 33, attributes := #[] }, { accessFlags := 2, nameIndex := 32, descriptorIndex := 33, attributes := #[] }, { accessFlags := 2, nameIndex := 28, descriptorIndex := 29, attributes := #[] }, { accessFlags := 2, nameIndex := 99, descriptorIndex := 25, attributes := #[] }, { accessFlags := 2, nameIndex := 111, descriptorIndex := 25, attributes := #[] }, { accessFlags := 2, nameIndex := 20, descriptorIndex := 21, attributes := #[] }, { accessFlags := 2, nameIndex := 24, descriptorIndex := 25, attributes := #[] }])
  fields := #[{ name := "LOOKAHEAD", type := .int, accessFlags := 24, slot := 0, constantValue := 0 }, { name := "BYTE_ORDER_MARK", type := .char, accessFlags := 24, slot := 1, constantValue := 0 }, { name := "MOST_MARKUP", type := .int, accessFlags := 24, slot := 2, constantValue := 0 }, { name := "DECLARATION", type := (.object "java/lang/String"), accessFlags := 26, slot := 3, constantValue := 0 }, { name := "DOCTYPE", type := (.object "java/lang/String"), accessFlags := 26, slot := 4, constantValue := 0 }, { name := "COMMENT", type := (.object "java/lang/String"), accessFlags := 26, slot := 5, constantValue := 0 }, { name := "CDATA", type := (.object "java/lang/String"), accessFlags := 26, slot := 6, constantValue := 0 }, { name := "state", type := (.object "com/example/markush/markush/document/DocumentBreaks$State"), accessFlags := 2, slot := 0, constantValue := 0 }, { name := "opening", type := .int, accessFlags := 2, slot := 1, constantValue := 0 }, { name := "closing", type := .int, accessFlags := 2, slot := 2, constantValue := 0 }, { name := "inDoctype", type := .boolean, accessFlags := 2, slot := 3, constantValue := 0 }, { name := "subset", type := .boolean, accessFlags := 2, slot := 4, constantValue := 0 }, { name := "quote", type := .char, accessFlags := 2, slot := 5, constantValue := 0 }, { name := "markup", type := .long, accessFlags := 2, slot := 6, constantValue := 0 }, { name := "declaration", type := .long, accessFlags := 2, slot := 7, constantValue := 0 }, { name := "overlong", type := (.object "java/lang/String"), accessFlags := 2, slot := 8, constantValue := 0 }, { name := "started", type := .boolean, accessFlags := 2, slot := 9, constantValue := 0 }, { name := "typed", type := .boolean, accessFlags := 2, slot := 10, constantValue := 0 }, { name := "last", type := .char, accessFlags := 2, slot := 11, constantValue := 0 }, { name := "atBreak", type := .boolean, accessFlags := 2, slot := 12, constantValue := 0 }]
  methods := #[k2m0, k2m1]
  instanceTypes := #[(.object "com/example/markush/markush/document/DocumentBreaks$State"), .int, .int, .boolean, .boolean, .char, .long, .long, (.object "java/lang/String"), .boolean, .boolean, .char, .boolean]
  staticTypes := #[.int, .char, .int, (.object "java/lang/String"), (.object "java/lang/String"), (.object "java/lang/String"), (.object "java/lang/String")]
  resolved := Array.replicate 221 none
  statics := none }

def pool3 : Array CpInfo := pool [(1, u "java/lang/Cloneable"), (0, .class_ 1), (0, u "java/lang/Object"), (0, .class_ 3)] 3

/-- java/lang/Cloneable -/
def k3 : Class := { plain "java/lang/Cloneable" (some 0) with
  accessFlags := 1537
  interfaces := #[]
  cf := some (fileOf pool3 2 #[] #[] 1537 4 #[] #[])
  fields := #[]
  methods := #[]
  instanceTypes := #[]
  staticTypes := #[]
  resolved := Array.replicate 8 none
  statics := none }

def pool4 : Array CpInfo := pool [(1, u "java/io/Serializable"), (0, .class_ 1), (0, u "java/lang/Object"), (0, .class_ 3)] 3

/-- java/io/Serializable -/
def k4 : Class := { plain "java/io/Serializable" (some 0) with
  accessFlags := 1537
  interfaces := #[]
  cf := some (fileOf pool4 2 #[] #[] 1537 4 #[] #[])
  fields := #[]
  methods := #[]
  instanceTypes := #[]
  staticTypes := #[]
  resolved := Array.replicate 8 none
  statics := none }

/-- the primitive byte -/
def k5 : Class := { plain "byte" none with kind := .primitive 'B', accessFlags := 0x411 }
/-- [B -/
def k6 : Class := { plain "[B" (some 0) with kind := .array 5 .byte, interfaces := #[3, 4], accessFlags := 1041 }

/-- the primitive int -/
def k7 : Class := { plain "int" none with kind := .primitive 'I', accessFlags := 0x411 }
/-- [I -/
def k8 : Class := { plain "[I" (some 0) with kind := .array 7 .int, interfaces := #[3, 4], accessFlags := 1041 }

def heap : Heap := #[]
def classes : Array Class := #[k0, k1, k2, k3, k4, k5, k6, k7, k8]
def interned : List (Array UInt16 × Addr) := []
def slotsUsed : Nat := 0
def theMethod : MethodId := ⟨1, 1⟩
def args0 : Array Value := #[.int 5]
def aboutOver (below : List Frame) : State where
  vm := { classes := classes, interned := interned.toArray }
  heap := heap
  slotsUsed := slotsUsed
  threads := #[{ frames := .invoking theMethod args0 :: below }]
def below0 : List Frame := [.native { method := ⟨0, 0⟩, args := #[] }]
def about1 : State := aboutOver below0
def p0 : Program := .bare "" "" ""
def e0 : Env := launch0.env 0 0 0
theorem w_frames : about1.frames = Frame.invoking theMethod args0 :: below0 := rfl
set_option maxRecDepth 65536 in
theorem w_args : argsFit about1.vm theMethod args0 = true := by decide +kernel
set_option maxRecDepth 65536 in
theorem w_heap : heapFits about1 = true := by decide +kernel
set_option maxRecDepth 65536 in
theorem w_runnable : about1.curStatus? = some .runnable := by decide +kernel
set_option maxRecDepth 65536 in
theorem w_alone : about1.alone = true := by decide +kernel
set_option maxRecDepth 65536 in
theorem w_named : about1.methodNamed? x = some theMethod := by decide +kernel
set_option maxRecDepth 65536 in
theorem w_hears : about1.hears theMethod below0 = true := by decide +kernel
set_option maxRecDepth 65536 in
theorem w_ripe : about1.ripe theMethod args0 below0 = true := by decide +kernel
theorem w_running : about1.status = .running := rfl
set_option maxRecDepth 65536 in
theorem w_room : about1.hasRoom e0.platform room_1 = true :=
  launch0.hasRoom_least _ room_1 (by decide +kernel) (by decide +kernel) (by decide +kernel) (by decide +kernel) (by decide +kernel) (by decide +kernel)
theorem allAtoms_all (ts : List Jvm.Cond) (a : Array Jvm.Value) (st : Jvm.State) : (allAtoms ts).before a st = ts.all (fun c => c.before a st) := by
  induction ts with
  | nil => rfl
  | cons c t ih =>
    show (Jvm.Cond.and c (allAtoms t)).before a st = _
    rw [Jvm.Cond.before_and, ih, List.all_cons]
def words1 : List Jvm.Cond := Jvm.Cond.code x code maxLocals ret :: tables_1
/-- a 'code' word, met by the world's own term for the bytes: nothing is compared byte by byte -/
theorem code_word {y : MethodName} {bytes : ByteArray} {mx : Nat} {rt : Option FieldType} {a : Array Value} {s : State} {m : MethodId} {meth : Method} {c : Code} (h1 : s.methodNamed? y = some m) (h2 : s.vm.method? m = some meth) (h3 : meth.code = some c) (h4 : c.code = bytes)
    (h5 : (c.maxLocals == mx && c.exceptionTable.isEmpty && decide (c.maxStack ≤ mostOperands) && decide (meth.sig.returnType = rt) && !meth.locks && decide (parseMethodDescriptor y.desc = some meth.sig)) = true) : (Jvm.Cond.code y bytes mx rt).before a s = true := by
  simp only [Bool.and_eq_true, beq_iff_eq, Bool.not_eq_true', decide_eq_true_eq] at h5
  obtain ⟨⟨⟨⟨⟨g1, g2⟩, g3⟩, g4⟩, g5⟩, g6⟩ := h5
  simp [Cond.before, Cond.holds, Cond.value, h1, h2, h3, h4, g1, g2, g3, g4, g5, g6]
def isCode : Jvm.Cond → Bool
  | .code _ _ _ _ => true
  | _ => false
theorem all_split {L : List Jvm.Cond} {P : Jvm.Cond → Bool} (h1 : L.all (fun c => isCode c || P c) = true) (h2 : ∀ c ∈ L.filter isCode, P c = true) : L.all P = true := by
  refine List.all_eq_true.mpr fun c hc => ?_
  have h := List.all_eq_true.mp h1 c hc
  rcases Bool.eq_false_or_eq_true (isCode c) with hi | hi
  · exact h2 c (List.mem_filter.mpr ⟨hc, hi⟩)
  · simpa [hi] using h
set_option maxRecDepth 65536 in
theorem w_c0 : (Jvm.Cond.code x code maxLocals ret).before args0 about1 = true := code_word (m := ⟨1, 1⟩) (meth := k1m1) (c := k1c1) (by decide +kernel) rfl rfl rfl (by decide +kernel)
set_option maxRecDepth 65536 in
theorem w_c1 : (Jvm.Cond.code ({ cls := "com/example/markush/markush/document/DocumentBreaks", name := "isSpace", desc := "(C)Z" } : Jvm.MethodName) prog_6_method_16_code (1 : Nat) (Option.some Jvm.ClassFile.FieldType.boolean)).before args0 about1 = true := code_word (m := ⟨2, 1⟩) (meth := k2m1) (c := k2c1) (by decide +kernel) rfl rfl rfl (by decide +kernel)
def codes1 : List Jvm.Cond := [Jvm.Cond.code x code maxLocals ret, Jvm.Cond.code ({ cls := "com/example/markush/markush/document/DocumentBreaks", name := "isSpace", desc := "(C)Z" } : Jvm.MethodName) prog_6_method_16_code (1 : Nat) (Option.some Jvm.ClassFile.FieldType.boolean)]
set_option maxRecDepth 65536 in
theorem codes_eq : words1.filter isCode = codes1 := rfl
theorem w_codes : ∀ c ∈ words1.filter isCode, c.before args0 about1 = true := by
  rw [codes_eq]
  intro c hc
  simp only [codes1, List.mem_cons, List.not_mem_nil, or_false] at hc
  rcases hc with rfl | rfl
  · exact w_c0
  · exact w_c1
set_option maxRecDepth 65536 in
theorem w_t1 : words1.all (fun c => isCode c || c.before args0 about1) = true := by decide +kernel
theorem w_tables : (allAtoms (Jvm.Cond.code x code maxLocals ret :: tables_1)).before args0 about1 = true := by
  rw [allAtoms_all]
  show words1.all (fun c => c.before args0 about1) = true
  refine all_split ?_ w_codes
  rw [w_t1]
set_option maxRecDepth 65536 in
theorem w_case : (Jvm.Cond.and given_1 narrow_1).before args0 about1 = true := by decide +kernel
theorem w_applies : (headSpec (Jvm.Cond.code x code maxLocals ret :: tables_1) room_1).applies x e0.platform about1 = true :=
  (Spec.applies_iff w_frames).mpr ⟨w_running, w_runnable, w_alone, w_named, w_hears, w_ripe, w_room, w_tables⟩
theorem atStart : AtStart classFile x code maxLocals ret World_1 tables_1 room_1 Calls_1 rest_1 Pre_1 launch0 p0 e0 about1 theMethod args0 below0 :=
  ⟨lists_1, trivial, launch0.admits_env _ _ _, launch0.least_env, fairChoices_fair.cas, fairChoices_fair.clock, w_frames, w_args, w_heap, w_applies, trivial, trivial, w_case⟩
end start1
theorem witness_1 : WitnessClaimed_1 := ⟨start1.p0, start1.e0, start1.about1, start1.theMethod, start1.args0, start1.below0, start1.atStart⟩
end Jvm.Pilot.@@N@@
