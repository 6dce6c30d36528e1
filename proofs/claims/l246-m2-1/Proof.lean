import JvmDerived
import JvmDerived.Pilot.@@N@@Statement
import JvmDerived.Pilot.@@N@@Code
set_option linter.unusedVariables false
set_option linter.unusedSimpArgs false
namespace Jvm.RoadKit
open Sem ClassFile Op Lib Jvm.Stand Jvm.Free Jvm.LawKit
section New
variable {p : Program} {l : Launch} {e : Env} {R : Room} {s : State} {m : MethodId} {args : Array Value} {below : List Frame} {meth : Method} {c : Code} {T : State} {locs : List Loc} {cells slots : Nat}
theorem retI (X : Stand p l e R s m args below meth c T locs cells slots) (hx : p.tables.exec = Jvm.exec) {pc : Nat} {Ls : Array Slot} {z : Int32} {rest : List Value} (hret : meth.sig.returnType = some .int) (hd : decode c.code pc = .ok (.ireturn, 1)) {fs : List Frame}
    (hl : ∀ (f : JFrame) (acts : List Action), f.method = m → f.locked = none → f.entered = [] → (doReturn e (T.setTop f) acts (some (.int z))).1 = T.setFrames fs) : Steps p.tables e below (T.setTop (mkF m pc Ls (.int z :: rest))) (T.setFrames fs) := by
  have hm' : T.vm.method? m = some meth := X.method'
  have hn : narrow .int (.int z) = .int z := rfl
  show Steps p.tables e below (T.setTop { method := m, pc := pc, locals := Ls, stack := _ :: rest, locked := none }) _
  jvm_step X.here [X.here.top, hx, hd, hm', hret, hn]
  first | (intro acts; rw [hl _ acts rfl rfl rfl]) | rw [hl _ _ rfl rfl rfl]
  exact Steps.refl _
end New
end Jvm.RoadKit
namespace Jvm.Pilot.@@N@@
open Jvm Jvm.ClassFile Sem Op Lib Jvm.Free Jvm.Stand Jvm.LawKit Jvm.RoadKit Bundle Jvm.Pilot.@@N@@.Jvm.D
theorem own_go {tb : Tables} {e : Env} {below : List Frame} {A B : State} {R : State → Outcome → Prop} (h : ∀ t, Steps tb e below B t → Steps tb e below A t) (k : ∃ s₂ o, Steps tb e below B s₂ ∧ R s₂ o) : ∃ s₂ o, Steps tb e below A s₂ ∧ R s₂ o := by
  obtain ⟨s₂, o, h1, h2⟩ := k
  exact ⟨s₂, o, h _ h1, h2⟩
theorem own_pd0 : parseMethodDescriptor "([I[D)V" = some ⟨[(.array .int), (.array .double)], none⟩ := by decide +kernel
theorem own_pd1 : parseMethodDescriptor "()Z" = some ⟨[], some .boolean⟩ := by decide +kernel
theorem own_pd2 : parseMethodDescriptor "()I" = some ⟨[], some .int⟩ := by decide +kernel
theorem pn_1 : plainName "com/example/muster/muster/TermVector" = true := by first | (simp [plainName, overriddenIn]; done) | decide +kernel
theorem d1_0 : decode prog_20_method_1_code 0 = .ok (.aload_n 0, 1) := by decide +kernel
theorem d1_1 : decode prog_20_method_1_code 1 = .ok (.invokespecial 1, 3) := by decide +kernel
theorem d1_4 : decode prog_20_method_1_code 4 = .ok (.aload_n 0, 1) := by decide +kernel
theorem d1_5 : decode prog_20_method_1_code 5 = .ok (.aload_n 1, 1) := by decide +kernel
theorem d1_6 : decode prog_20_method_1_code 6 = .ok (.putfield 7, 3) := by decide +kernel
theorem d1_9 : decode prog_20_method_1_code 9 = .ok (.aload_n 0, 1) := by decide +kernel
theorem d1_10 : decode prog_20_method_1_code 10 = .ok (.aload_n 2, 1) := by decide +kernel
theorem d1_11 : decode prog_20_method_1_code 11 = .ok (.putfield 13, 3) := by decide +kernel
theorem d1_14 : decode prog_20_method_1_code 14 = .ok (.return_, 1) := by decide +kernel
theorem ef_1 (m : MethodId) (x0 : Addr) (x1 : Addr) (x2 : Addr) : entryFrame m #[(.ref x0), (.ref x1), (.ref x2)] 3 = mkF m 0 #[.val (.ref x0), .val (.ref x1), .val (.ref x2)] [] := by first | (simp [entryFrame, mkF, argsToLocals, Value.category]; done) | rfl
def Q1 (Z : State) (a1 : Addr) (a2 : Addr) (a3 : Addr) (h0 : Heap) (n0 : Nat) (v : Option Value) (h : Heap) (L : List Loc) : Prop := v = none ∧ Fr n0 L ∧ Keep h0 h [a1] ∧ Exa Z h a1 "com/example/muster/muster/TermVector" ∧ Fld Z h a1 "com/example/muster/muster/TermVector" "terms" "[I" (.ref a2)
set_option maxRecDepth 65536 in
set_option maxHeartbeats 40000000 in
theorem rm1 (l : Launch) (Z : State) (a0 : Array Value) (hw : ∀ d ∈ tables_1, d.before a0 Z = true) (ws : List Jvm.Cond) (a1 : Addr) (a2 : Addr) (a3 : Addr) (h0 : Heap) (n0 : Nat) (Z0 : n0 ≤ h0.size) (E_a1 : Exa Z h0 a1 "com/example/muster/muster/TermVector") (g_a1 : n0 ≤ a1) (F_t : Fld Z h0 a1 "com/example/muster/muster/TermVector" "terms" "[I" .null) (F_w : Fld Z h0 a1 "com/example/muster/muster/TermVector" "weights" "[D" .null) :
    MetFree l (⟨"com/example/muster/muster/TermVector", "<init>", "([I[D)V"⟩ : MethodName) (head1 (Jvm.Cond.code (⟨"com/example/muster/muster/TermVector", "<init>", "([I[D)V"⟩ : MethodName) prog_20_method_1_code 3 none :: ws) ({ frames := 1, cells := 0, slots := 0, locals := 12 } : Room)) (fun a U => a = #[(.ref a1), (.ref a2), (.ref a3)] ∧ Z.Warmed39 U.vm ∧ U.heap = h0) (fun _ _ _ _ _ => True) (fun _ U o U' => ∃ v L, o = .returned v ∧ Q1 Z a1 a2 a3 h0 n0 v U'.heap L ∧ FrameEnd U o U' L ({ frames := 1, cells := 0, slots := 0, locals := 12 } : Room).cells ({ frames := 1, cells := 0, slots := 0, locals := 12 } : Room).slots) := by
  refine MetFree.of_bodySF (plainFor_of_name pn_1) hisR ?_
  intro p e s m args below meth c s₁ Bd hml0 hP hK
  obtain ⟨rfl, hZ, hh⟩ := hP
  have hx := Bd.exec
  have hby := Bd.bytes
  have hml : c.maxLocals = 3 := hml0
  have hown : s.vm.findClass "com/example/muster/muster/TermVector" = some m.cls := findClass_of_methodNamed Bd.named
  have hnm := (name_of_methodNamed Bd.named Bd.method).1
  have X0 : Stand p l e ({ frames := 1, cells := 0, slots := 0, locals := 12 } : Room) s m #[(.ref a1), (.ref a2), (.ref a3)] below meth c s₁ [] 0 0 := Stand.of_body Bd
  have e0 : s₁.heap = h0 := by rw [← hh, Bd.state]; rfl
  have N0 := Fr.nil n0
  refine own_go (B := s₁.setTop (mkF m 0 #[.val (.ref a1), .val (.ref a2), .val (.ref a3)] [])) (fun t k => castTop (ef_1 m a1 a2 a3) k) ?_
  refine own_go (B := s₁.setTop (mkF m 1 #[.val (.ref a1), .val (.ref a2), .val (.ref a3)] [(.ref a1)])) (fun t k => ?_) ?_
  · show Steps p.tables e below (s₁.setTop (mkF m 0 #[.val (.ref a1), .val (.ref a2), .val (.ref a3)] [])) _
    refine XS.aloadN X0.here hx rfl (hb hby d1_0) rfl rfl ?_
    exact k
  obtain ⟨T1, X1, e1, st1⟩ := initO X0 hx hZ hown (hw _ (List.mem_of_getElem? (i := 9) rfl)) (hw _ (List.mem_of_getElem? (i := 10) rfl)) (hw _ (List.mem_of_getElem? (i := 11) rfl)) e0 (g := (mkF m 1 #[.val (.ref a1), .val (.ref a2), .val (.ref a3)] [(.ref a1)])) rfl (by rw [hml]; rfl) rfl (hb hby d1_1) (by decide) (W := 0) (by show 2 * 0 + _ ≤ _; exact Nat.le_of_eq rfl) (by decide)
  refine own_go (B := T1.setTop (mkF m 4 #[.val (.ref a1), .val (.ref a2), .val (.ref a3)] [])) (fun t k => st1 _ k) ?_
  refine own_go (B := T1.setTop (mkF m 6 #[.val (.ref a1), .val (.ref a2), .val (.ref a3)] [(.ref a2), (.ref a1)])) (fun t k => ?_) ?_
  · show Steps p.tables e below (T1.setTop (mkF m 4 #[.val (.ref a1), .val (.ref a2), .val (.ref a3)] [])) _
    refine XS.aloadN X1.here hx rfl (hb hby d1_4) rfl rfl ?_
    show Steps p.tables e below (T1.setTop (mkF m 5 #[.val (.ref a1), .val (.ref a2), .val (.ref a3)] [(.ref a1)])) _
    refine XS.aloadN X1.here hx rfl (hb hby d1_5) rfl rfl ?_
    exact k
  obtain ⟨T2, h2, X2, e2, W2, st2⟩ := putF X1 hx hZ hown (host := "") (Or.inl (hw _ (List.mem_of_getElem? (i := 12) rfl))) Via.refl e1 F_t E_a1 (Or.inr ⟨(hw _ (List.mem_of_getElem? (i := 13) rfl)), rfl, hnm⟩) (hw _ (List.mem_of_getElem? (i := 4) rfl)) (ty := (.array .int)) (by decide) rfl rfl (g := (mkF m 6 #[.val (.ref a1), .val (.ref a2), .val (.ref a3)] [(.ref a2), (.ref a1)])) rfl rfl (hb hby d1_6)
  have c2_E_a1 := E_a1.wr W2
  have c2_F_a1_terms := F_t.same W2
  have c2_F_a1_weights := F_w.other W2 (Or.inr (slot_ne (Or.inr (hw _ (List.mem_of_getElem? (i := 15) rfl))) (Or.inr (hw _ (List.mem_of_getElem? (i := 13) rfl))) (by decide) (t := (.array .double)) (t' := (.array .int)) (by decide) (by decide)))
  have K2 := (Keep.refl h0 [a1]).wr W2 (Or.inl (List.mem_of_getElem? (i := 0) rfl))
  have N2 := Fr.snoc X2 N0 g_a1
  refine own_go (B := T2.setTop (mkF m 9 #[.val (.ref a1), .val (.ref a2), .val (.ref a3)] [])) (fun t k => st2 _ k) ?_
  refine own_go (B := T2.setTop (mkF m 11 #[.val (.ref a1), .val (.ref a2), .val (.ref a3)] [(.ref a3), (.ref a1)])) (fun t k => ?_) ?_
  · show Steps p.tables e below (T2.setTop (mkF m 9 #[.val (.ref a1), .val (.ref a2), .val (.ref a3)] [])) _
    refine XS.aloadN X2.here hx rfl (hb hby d1_9) rfl rfl ?_
    show Steps p.tables e below (T2.setTop (mkF m 10 #[.val (.ref a1), .val (.ref a2), .val (.ref a3)] [(.ref a1)])) _
    refine XS.aloadN X2.here hx rfl (hb hby d1_10) rfl rfl ?_
    exact k
  obtain ⟨T3, h3, X3, e3, W3, st3⟩ := putF X2 hx hZ hown (host := "") (Or.inl (hw _ (List.mem_of_getElem? (i := 14) rfl))) Via.refl e2 c2_F_a1_weights c2_E_a1 (Or.inr ⟨(hw _ (List.mem_of_getElem? (i := 15) rfl)), rfl, hnm⟩) (hw _ (List.mem_of_getElem? (i := 4) rfl)) (ty := (.array .double)) (by decide) rfl rfl (g := (mkF m 11 #[.val (.ref a1), .val (.ref a2), .val (.ref a3)] [(.ref a3), (.ref a1)])) rfl rfl (hb hby d1_11)
  have c3_E_a1 := c2_E_a1.wr W3
  have c3_F_a1_terms := c2_F_a1_terms.other W3 (Or.inr (slot_ne (Or.inr (hw _ (List.mem_of_getElem? (i := 13) rfl))) (Or.inr (hw _ (List.mem_of_getElem? (i := 15) rfl))) (by decide) (t := (.array .int)) (t' := (.array .double)) (by decide) (by decide)))
  have c3_F_a1_weights := c2_F_a1_weights.same W3
  have K3 := K2.wr W3 (Or.inl (List.mem_of_getElem? (i := 0) rfl))
  have N3 := Fr.snoc X3 N2 g_a1
  refine own_go (B := T3.setTop (mkF m 14 #[.val (.ref a1), .val (.ref a2), .val (.ref a3)] [])) (fun t k => st3 _ k) ?_
  obtain ⟨fs, hr, hrun, hended, hW, hsame⟩ := X3.leave (v := none) (fun _ => rfl)
  refine ⟨_, _, ?_, hrun, hended, _, _, rfl, ?_, ⟨_, rfl⟩, hW, hsame.mono (by decide) (by decide)⟩
  · show Steps p.tables e below (T3.setTop (mkF m 14 #[.val (.ref a1), .val (.ref a2), .val (.ref a3)] [])) _
    exact X3.returnOut hx Bd.returns (hb hby d1_14) hr
  · show Q1 Z a1 a2 a3 h0 n0 _ T3.heap _
    rw [e3]
    exact ⟨rfl, N3, K3, c3_E_a1, c3_F_a1_terms⟩
theorem pn_3 : plainName "com/example/muster/muster/TermVector" = true := by first | (simp [plainName, overriddenIn]; done) | decide +kernel
theorem d3_0 : decode prog_20_method_4_code 0 = .ok (.aload_n 0, 1) := by decide +kernel
theorem d3_1 : decode prog_20_method_4_code 1 = .ok (.getfield 7, 3) := by decide +kernel
theorem d3_4 : decode prog_20_method_4_code 4 = .ok (.arraylength, 1) := by decide +kernel
theorem d3_5 : decode prog_20_method_4_code 5 = .ok (.ifCond .ne 7, 3) := by decide +kernel
theorem d3_8 : decode prog_20_method_4_code 8 = .ok (.iconst 1, 1) := by decide +kernel
theorem d3_9 : decode prog_20_method_4_code 9 = .ok (.goto 4, 3) := by decide +kernel
theorem d3_12 : decode prog_20_method_4_code 12 = .ok (.iconst 0, 1) := by decide +kernel
theorem d3_13 : decode prog_20_method_4_code 13 = .ok (.ireturn, 1) := by decide +kernel
theorem ef_3 (m : MethodId) (x0 : Addr) : entryFrame m #[(.ref x0)] 1 = mkF m 0 #[.val (.ref x0)] [] := by first | (simp [entryFrame, mkF, argsToLocals, Value.category]; done) | rfl
def Q3 (Z : State) (a1 : Addr) (b1 : Addr) (kb : ClassId) (z1 : Int32) (vs : List Value) (dv : Value) (r1 : Int32) (h0 : Heap) (n0 : Nat) (v : Option Value) (h : Heap) (L : List Loc) : Prop := v = some (.int r1) ∧ Fr n0 L ∧ h = h0
set_option maxRecDepth 65536 in
set_option maxHeartbeats 40000000 in
theorem rm3 (l : Launch) (Z : State) (a0 : Array Value) (hw : ∀ d ∈ tables_1, d.before a0 Z = true) (ws : List Jvm.Cond) (a1 : Addr) (b1 : Addr) (kb : ClassId) (z1 : Int32) (vs : List Value) (dv : Value) (r1 : Int32) (h0 : Heap) (n0 : Nat) (Z0 : n0 ≤ h0.size) (F_t : Fld Z h0 a1 "com/example/muster/muster/TermVector" "terms" "[I" (.ref b1)) (V_b : Arv Z h0 b1 kb .int z1 vs dv) (hr1 : r1 = (if z1 = (0 : Int32) then (1 : Int32) else (0 : Int32))) :
    MetFree l (⟨"com/example/muster/muster/TermVector", "isEmpty", "()Z"⟩ : MethodName) (head1 (Jvm.Cond.code (⟨"com/example/muster/muster/TermVector", "isEmpty", "()Z"⟩ : MethodName) prog_20_method_4_code 1 (some .boolean) :: ws) ({ frames := 0, cells := 0, slots := 0, locals := 0 } : Room)) (fun a U => a = #[(.ref a1)] ∧ Z.Warmed39 U.vm ∧ U.heap = h0) (fun _ _ _ _ _ => True) (fun _ U o U' => ∃ v L, o = .returned v ∧ Q3 Z a1 b1 kb z1 vs dv r1 h0 n0 v U'.heap L ∧ FrameEnd U o U' L ({ frames := 0, cells := 0, slots := 0, locals := 0 } : Room).cells ({ frames := 0, cells := 0, slots := 0, locals := 0 } : Room).slots) := by
  refine MetFree.of_bodySF (plainFor_of_name pn_3) hisR ?_
  intro p e s m args below meth c s₁ Bd hml0 hP hK
  obtain ⟨rfl, hZ, hh⟩ := hP
  have hx := Bd.exec
  have hby := Bd.bytes
  have hml : c.maxLocals = 1 := hml0
  have hown : s.vm.findClass "com/example/muster/muster/TermVector" = some m.cls := findClass_of_methodNamed Bd.named
  have hnm := (name_of_methodNamed Bd.named Bd.method).1
  have X0 : Stand p l e ({ frames := 0, cells := 0, slots := 0, locals := 0 } : Room) s m #[(.ref a1)] below meth c s₁ [] 0 0 := Stand.of_body Bd
  have e0 : s₁.heap = h0 := by rw [← hh, Bd.state]; rfl
  have N0 := Fr.nil n0
  refine own_go (B := s₁.setTop (mkF m 0 #[.val (.ref a1)] [])) (fun t k => castTop (ef_3 m a1) k) ?_
  refine own_go (B := s₁.setTop (mkF m 1 #[.val (.ref a1)] [(.ref a1)])) (fun t k => ?_) ?_
  · show Steps p.tables e below (s₁.setTop (mkF m 0 #[.val (.ref a1)] [])) _
    refine XS.aloadN X0.here hx rfl (hb hby d3_0) rfl rfl ?_
    exact k
  obtain ⟨T1, X1, e1, st1⟩ := getF X0 hx hZ hown (host := "") (Or.inl (hw _ (List.mem_of_getElem? (i := 12) rfl))) Via.refl e0 F_t (g := (mkF m 1 #[.val (.ref a1)] [(.ref a1)])) rfl rfl (hb hby d3_1)
  refine own_go (B := T1.setTop (mkF m 4 #[.val (.ref a1)] [(.ref b1)])) (fun t k => st1 _ k) ?_
  obtain ⟨cl2, Ar2, qk2, S2, M2, H2, G2⟩ := id V_b
  refine own_go (B := T1.setTop (mkF m 5 #[.val (.ref a1)] [(.int z1)])) (fun t k => ?_) ?_
  · show Steps p.tables e below (T1.setTop (mkF m 4 #[.val (.ref a1)] [(.ref b1)])) _
    refine X1.arraylength hx (by rw [e1]; exact Ar2.1) (State.isArrayOf_alike hZ.alike Ar2.2.1) (g := (mkF m 4 #[.val (.ref a1)] [(.ref b1)])) rfl rfl (hb hby d3_4) _ ?_
    rw [len_of S2 M2]
    exact k
  by_cases hc5_3 : z1 = (0 : Int32)
  · obtain ⟨fs, hr, hrun, hended, hW, hsame⟩ := X1.leave (v := some (.int (1 : Int32))) (fun h => by rw [Bd.returns] at h; cases h)
    refine ⟨_, _, ?_, hrun, hended, _, _, rfl, ?_, ⟨_, rfl⟩, hW, hsame.mono (by decide) (by decide)⟩
    · show Steps p.tables e below (T1.setTop (mkF m 5 #[.val (.ref a1)] [(.int z1)])) _
      refine XS.ifNo X1.here hx rfl (hb hby d3_5) rfl ((if0 _ _).trans (teq hc5_3).2) ?_
      show Steps p.tables e below (T1.setTop (mkF m 8 #[.val (.ref a1)] [])) _
      refine XS.iconst X1.here hx rfl (hb hby d3_8) ?_
      show Steps p.tables e below (T1.setTop (mkF m 9 #[.val (.ref a1)] [(.int (1 : Int32))])) _
      refine XS.goto X1.here hx rfl (pc0 := 9) (pc' := 13) rfl (hb hby d3_9) (by decide) (by decide) ?_
      show Steps p.tables e below (T1.setTop (mkF m 13 #[.val (.ref a1)] [(.int (1 : Int32))])) _
      exact retN X1 hx (t := .boolean) Bd.returns (by simp) (hb hby d3_13) hr
    · show Q3 Z a1 b1 kb z1 vs dv r1 h0 n0 _ T1.heap _
      rw [e1]
      exact ⟨by rw [hr1, if_pos hc5_3], N0, rfl⟩
  · obtain ⟨fs, hr, hrun, hended, hW, hsame⟩ := X1.leave (v := some (.int (0 : Int32))) (fun h => by rw [Bd.returns] at h; cases h)
    refine ⟨_, _, ?_, hrun, hended, _, _, rfl, ?_, ⟨_, rfl⟩, hW, hsame.mono (by decide) (by decide)⟩
    · show Steps p.tables e below (T1.setTop (mkF m 5 #[.val (.ref a1)] [(.int z1)])) _
      refine XS.ifYes X1.here hx rfl (pc0 := 5) (pc' := 12) rfl (hb hby d3_5) rfl ((if0 _ _).trans (feq hc5_3).2) (by decide) (by decide) ?_
      show Steps p.tables e below (T1.setTop (mkF m 12 #[.val (.ref a1)] [])) _
      refine XS.iconst X1.here hx rfl (hb hby d3_12) ?_
      show Steps p.tables e below (T1.setTop (mkF m 13 #[.val (.ref a1)] [(.int (0 : Int32))])) _
      exact retN X1 hx (t := .boolean) Bd.returns (by simp) (hb hby d3_13) hr
    · show Q3 Z a1 b1 kb z1 vs dv r1 h0 n0 _ T1.heap _
      rw [e1]
      exact ⟨by rw [hr1, if_neg hc5_3], N0, rfl⟩
theorem pn_4 : plainName "com/example/muster/muster/TermVector" = true := by first | (simp [plainName, overriddenIn]; done) | decide +kernel
theorem d4_0 : decode prog_20_method_3_code 0 = .ok (.aload_n 0, 1) := by decide +kernel
theorem d4_1 : decode prog_20_method_3_code 1 = .ok (.getfield 7, 3) := by decide +kernel
theorem d4_4 : decode prog_20_method_3_code 4 = .ok (.arraylength, 1) := by decide +kernel
theorem d4_5 : decode prog_20_method_3_code 5 = .ok (.ireturn, 1) := by decide +kernel
theorem ef_4 (m : MethodId) (x0 : Addr) : entryFrame m #[(.ref x0)] 1 = mkF m 0 #[.val (.ref x0)] [] := by first | (simp [entryFrame, mkF, argsToLocals, Value.category]; done) | rfl
def Q4 (Z : State) (a1 : Addr) (b1 : Addr) (kb : ClassId) (z1 : Int32) (vs : List Value) (dv : Value) (h0 : Heap) (n0 : Nat) (v : Option Value) (h : Heap) (L : List Loc) : Prop := v = some (.int z1) ∧ Fr n0 L ∧ h = h0
set_option maxRecDepth 65536 in
set_option maxHeartbeats 40000000 in
theorem rm4 (l : Launch) (Z : State) (a0 : Array Value) (hw : ∀ d ∈ tables_1, d.before a0 Z = true) (ws : List Jvm.Cond) (a1 : Addr) (b1 : Addr) (kb : ClassId) (z1 : Int32) (vs : List Value) (dv : Value) (h0 : Heap) (n0 : Nat) (Z0 : n0 ≤ h0.size) (F_t : Fld Z h0 a1 "com/example/muster/muster/TermVector" "terms" "[I" (.ref b1)) (V_b : Arv Z h0 b1 kb .int z1 vs dv) :
    MetFree l (⟨"com/example/muster/muster/TermVector", "size", "()I"⟩ : MethodName) (head1 (Jvm.Cond.code (⟨"com/example/muster/muster/TermVector", "size", "()I"⟩ : MethodName) prog_20_method_3_code 1 (some .int) :: ws) ({ frames := 0, cells := 0, slots := 0, locals := 0 } : Room)) (fun a U => a = #[(.ref a1)] ∧ Z.Warmed39 U.vm ∧ U.heap = h0) (fun _ _ _ _ _ => True) (fun _ U o U' => ∃ v L, o = .returned v ∧ Q4 Z a1 b1 kb z1 vs dv h0 n0 v U'.heap L ∧ FrameEnd U o U' L ({ frames := 0, cells := 0, slots := 0, locals := 0 } : Room).cells ({ frames := 0, cells := 0, slots := 0, locals := 0 } : Room).slots) := by
  refine MetFree.of_bodySF (plainFor_of_name pn_4) hisR ?_
  intro p e s m args below meth c s₁ Bd hml0 hP hK
  obtain ⟨rfl, hZ, hh⟩ := hP
  have hx := Bd.exec
  have hby := Bd.bytes
  have hml : c.maxLocals = 1 := hml0
  have hown : s.vm.findClass "com/example/muster/muster/TermVector" = some m.cls := findClass_of_methodNamed Bd.named
  have hnm := (name_of_methodNamed Bd.named Bd.method).1
  have X0 : Stand p l e ({ frames := 0, cells := 0, slots := 0, locals := 0 } : Room) s m #[(.ref a1)] below meth c s₁ [] 0 0 := Stand.of_body Bd
  have e0 : s₁.heap = h0 := by rw [← hh, Bd.state]; rfl
  have N0 := Fr.nil n0
  refine own_go (B := s₁.setTop (mkF m 0 #[.val (.ref a1)] [])) (fun t k => castTop (ef_4 m a1) k) ?_
  refine own_go (B := s₁.setTop (mkF m 1 #[.val (.ref a1)] [(.ref a1)])) (fun t k => ?_) ?_
  · show Steps p.tables e below (s₁.setTop (mkF m 0 #[.val (.ref a1)] [])) _
    refine XS.aloadN X0.here hx rfl (hb hby d4_0) rfl rfl ?_
    exact k
  obtain ⟨T1, X1, e1, st1⟩ := getF X0 hx hZ hown (host := "") (Or.inl (hw _ (List.mem_of_getElem? (i := 12) rfl))) Via.refl e0 F_t (g := (mkF m 1 #[.val (.ref a1)] [(.ref a1)])) rfl rfl (hb hby d4_1)
  refine own_go (B := T1.setTop (mkF m 4 #[.val (.ref a1)] [(.ref b1)])) (fun t k => st1 _ k) ?_
  obtain ⟨cl2, Ar2, qk2, S2, M2, H2, G2⟩ := id V_b
  obtain ⟨fs, hr, hrun, hended, hW, hsame⟩ := X1.leave (v := some (.int z1)) (fun h => by rw [Bd.returns] at h; cases h)
  refine ⟨_, _, ?_, hrun, hended, _, _, rfl, ?_, ⟨_, rfl⟩, hW, hsame.mono (by decide) (by decide)⟩
  · show Steps p.tables e below (T1.setTop (mkF m 4 #[.val (.ref a1)] [(.ref b1)])) _
    refine X1.arraylength hx (by rw [e1]; exact Ar2.1) (State.isArrayOf_alike hZ.alike Ar2.2.1) (g := (mkF m 4 #[.val (.ref a1)] [(.ref b1)])) rfl rfl (hb hby d4_4) _ ?_
    rw [len_of S2 M2]
    show Steps p.tables e below (T1.setTop (mkF m 5 #[.val (.ref a1)] [(.int z1)])) _
    exact retI X1 hx Bd.returns (hb hby d4_5) hr
  · show Q4 Z a1 b1 kb z1 vs dv h0 n0 _ T1.heap _
    rw [e1]
    exact ⟨rfl, N0, rfl⟩
theorem own_three (x : Int32) (h0 : ¬ (x &&& (3 : Int32)) = 0) (h1 : ¬ (x &&& (3 : Int32)) = 1) (h2 : ¬ (x &&& (3 : Int32)) = 2) : (x &&& (3 : Int32)) = 3 := by
  have h := c_mask x 3 2 (by decide) (by decide)
  generalize x &&& (3 : Int32) = i at *
  have g0 : ¬ i.toInt = 0 := fun q => h0 (Int32.toInt_inj.mp q)
  have g1 : ¬ i.toInt = 1 := fun q => h1 (Int32.toInt_inj.mp q)
  have g2 : ¬ i.toInt = 2 := fun q => h2 (Int32.toInt_inj.mp q)
  exact Int32.toInt_inj.mp (show i.toInt = 3 by omega)
theorem own_empty {args : Array Value} {s : State} {t : Term} {w : Addr} (hf : Fit s) (ev : t.eval args s none [] s = some (.ref w)) (ha : (Jvm.Cond.arrayOf t .int).value args s none s [] = some true) (hl : (Jvm.Cond.eq (Jvm.Term.length t) (Jvm.Term.int 0)).value args s none s [] = some true) : ∃ k, Arv s s.heap w k .int 0 [] (.int (0 : Int32)) := by
  obtain ⟨c, A⟩ := Arr.start ev ha
  have he : (Jvm.Term.length t).eval args s none [] s = some (.int 0) := Cond.eq_int (Cond.before_iff.mpr hl) rfl
  obtain ⟨x, cl, e1, e2, e3⟩ := Term.length_spec he
  cases ev.symm.trans e1
  have hx : s.arrayAt? w = some c := IntBox.arrayAt_of A.1 A.2.1 A.2.2
  cases hx.symm.trans e2
  have h31 := SBG.length_lt ev hx he
  have h2 : c.slots.size.toInt32 = 0 := by
    have q := len_f ev hx h31
    rw [he] at q
    exact (Value.int.inj (Option.some.inj q)).symm
  exact ⟨c.cls, Arv.start hf A h31 h2 (by decide) rfl trivial⟩
theorem pn_0 : plainName "com/example/muster/muster/TermVectorIsEmptyPinLaw" = true := by first | (simp [plainName, overriddenIn]; done) | decide +kernel
theorem ef_0 (m : MethodId) (x0 : Int32) (x1 : Int32) : entryFrame m #[(.int x0), (.int x1)] maxLocals = mkF m 0 #[.val (.int x0), .val (.int x1), .unset, .unset, .unset, .unset, .unset, .unset, .unset] [] := by first | (simp [entryFrame, mkF, argsToLocals, Value.category, maxLocals]; done) | rfl
def Q0 (Z : State) (p1 : Int32) (p2 : Int32) (w1 : Addr) (t1 : Addr) (kt : ClassId) (h0 : Heap) (n0 : Nat) (v : Option Value) (h : Heap) (L : List Loc) : Prop := v = some (.int 1) ∧ Fr n0 L
set_option maxRecDepth 65536 in
set_option maxHeartbeats 40000000 in
theorem rm0 (l : Launch) (Z : State) (a0 : Array Value) (hw : ∀ d ∈ tables_1, d.before a0 Z = true) (ws : List Jvm.Cond) (p1 : Int32) (p2 : Int32) (w1 : Addr) (t1 : Addr) (kt : ClassId) (h0 : Heap) (n0 : Nat) (Z0 : n0 ≤ h0.size) (S_E : Sta Z Z.heap "com/example/muster/muster/TermVector" "EMPTY" "Lcom/example/muster/muster/TermVector;" (.ref w1)) (E_w1 : Exa Z Z.heap w1 "com/example/muster/muster/TermVector") (F_w1 : Fld Z Z.heap w1 "com/example/muster/muster/TermVector" "terms" "[I" (.ref t1)) (V_t1 : Arv Z Z.heap t1 kt .int (0 : Int32) [] (.int (0 : Int32))) (O0 : Old Z n0 h0) :
    MetFree l x (head1 (Jvm.Cond.code x code maxLocals ret :: ws) room_1) (fun a U => a = #[(.int p1), (.int p2)] ∧ Z.Warmed39 U.vm ∧ U.heap = h0) (fun _ _ _ _ _ => True) (fun _ U o U' => ∃ v L, o = .returned v ∧ Q0 Z p1 p2 w1 t1 kt h0 n0 v U'.heap L ∧ FrameEnd U o U' L room_1.cells room_1.slots) := by
  refine MetFree.of_bodySF (plainFor_of_name pn_0) hisR ?_
  intro p e s m args below meth c s₁ Bd hml0 hP hK
  obtain ⟨rfl, hZ, hh⟩ := hP
  have hx := Bd.exec
  have hby := Bd.bytes
  have hml : c.maxLocals = 9 := hml0
  have hown : s.vm.findClass "com/example/muster/muster/TermVectorIsEmptyPinLaw" = some m.cls := findClass_of_methodNamed Bd.named
  have hnm := (name_of_methodNamed Bd.named Bd.method).1
  have X0 : Stand p l e room_1 s m #[(.int p1), (.int p2)] below meth c s₁ [] 0 0 := Stand.of_body Bd
  have e0 : s₁.heap = h0 := by rw [← hh, Bd.state]; rfl
  have N0 := Fr.nil n0
  refine own_go (B := s₁.setTop (mkF m 0 #[.val (.int p1), .val (.int p2), .unset, .unset, .unset, .unset, .unset, .unset, .unset] [])) (fun t k => castTop (ef_0 m p1 p2) k) ?_
  refine own_go (B := s₁.setTop (mkF m 10 #[.val (.int p1), .val (.int p2), .val (.int (p1 &&& (3 : Int32))), .val (.int (p2 &&& (1048575 : Int32))), .unset, .unset, .unset, .unset, .unset] [(.int (p1 &&& (3 : Int32)))])) (fun t k => ?_) ?_
  · show Steps p.tables e below (s₁.setTop (mkF m 0 #[.val (.int p1), .val (.int p2), .unset, .unset, .unset, .unset, .unset, .unset, .unset] [])) _
    refine XS.iloadN X0.here hx rfl (hb hby at_0) rfl ?_
    show Steps p.tables e below (s₁.setTop (mkF m 1 #[.val (.int p1), .val (.int p2), .unset, .unset, .unset, .unset, .unset, .unset, .unset] [(.int p1)])) _
    refine XS.iconst X0.here hx rfl (hb hby at_1) ?_
    show Steps p.tables e below (s₁.setTop (mkF m 2 #[.val (.int p1), .val (.int p2), .unset, .unset, .unset, .unset, .unset, .unset, .unset] [(.int (3 : Int32)), (.int p1)])) _
    refine XS.iand X0.here hx rfl (hb hby at_2) rfl ?_
    show Steps p.tables e below (s₁.setTop (mkF m 3 #[.val (.int p1), .val (.int p2), .unset, .unset, .unset, .unset, .unset, .unset, .unset] [(.int (p1 &&& (3 : Int32)))])) _
    refine XS.istoreN X0.here hx rfl (hb hby at_3) rfl (l' := #[.val (.int p1), .val (.int p2), .val (.int (p1 &&& (3 : Int32))), .unset, .unset, .unset, .unset, .unset, .unset]) rfl ?_
    show Steps p.tables e below (s₁.setTop (mkF m 4 #[.val (.int p1), .val (.int p2), .val (.int (p1 &&& (3 : Int32))), .unset, .unset, .unset, .unset, .unset, .unset] [])) _
    refine XS.iloadN X0.here hx rfl (hb hby at_4) rfl ?_
    show Steps p.tables e below (s₁.setTop (mkF m 5 #[.val (.int p1), .val (.int p2), .val (.int (p1 &&& (3 : Int32))), .unset, .unset, .unset, .unset, .unset, .unset] [(.int p2)])) _
    refine X0.ldcInt hx hown (mvT hZ (hw _ (List.mem_of_getElem? (i := 0) rfl))) (g := (mkF m 5 #[.val (.int p1), .val (.int p2), .val (.int (p1 &&& (3 : Int32))), .unset, .unset, .unset, .unset, .unset, .unset] [(.int p2)])) rfl (hb hby at_5) _ ?_
    show Steps p.tables e below (s₁.setTop (mkF m 7 #[.val (.int p1), .val (.int p2), .val (.int (p1 &&& (3 : Int32))), .unset, .unset, .unset, .unset, .unset, .unset] [(.int (1048575 : Int32)), (.int p2)])) _
    refine XS.iand X0.here hx rfl (hb hby at_7) rfl ?_
    show Steps p.tables e below (s₁.setTop (mkF m 8 #[.val (.int p1), .val (.int p2), .val (.int (p1 &&& (3 : Int32))), .unset, .unset, .unset, .unset, .unset, .unset] [(.int (p2 &&& (1048575 : Int32)))])) _
    refine XS.istoreN X0.here hx rfl (hb hby at_8) rfl (l' := #[.val (.int p1), .val (.int p2), .val (.int (p1 &&& (3 : Int32))), .val (.int (p2 &&& (1048575 : Int32))), .unset, .unset, .unset, .unset, .unset]) rfl ?_
    show Steps p.tables e below (s₁.setTop (mkF m 9 #[.val (.int p1), .val (.int p2), .val (.int (p1 &&& (3 : Int32))), .val (.int (p2 &&& (1048575 : Int32))), .unset, .unset, .unset, .unset, .unset] [])) _
    refine XS.iloadN X0.here hx rfl (hb hby at_9) rfl ?_
    exact k
  by_cases hc10_1 : (p1 &&& (3 : Int32)) = (0 : Int32)
  · refine own_go (B := s₁.setTop (mkF m 14 #[.val (.int p1), .val (.int p2), .val (.int (p1 &&& (3 : Int32))), .val (.int (p2 &&& (1048575 : Int32))), .unset, .unset, .unset, .unset, .unset] [(.int (0 : Int32))])) (fun t k => ?_) ?_
    · show Steps p.tables e below (s₁.setTop (mkF m 10 #[.val (.int p1), .val (.int p2), .val (.int (p1 &&& (3 : Int32))), .val (.int (p2 &&& (1048575 : Int32))), .unset, .unset, .unset, .unset, .unset] [(.int (p1 &&& (3 : Int32)))])) _
      refine XS.ifNo X0.here hx rfl (hb hby at_10) rfl ((if0 _ _).trans (teq hc10_1).2) ?_
      show Steps p.tables e below (s₁.setTop (mkF m 13 #[.val (.int p1), .val (.int p2), .val (.int (p1 &&& (3 : Int32))), .val (.int (p2 &&& (1048575 : Int32))), .unset, .unset, .unset, .unset, .unset] [])) _
      refine XS.iconst X0.here hx rfl (hb hby at_13) ?_
      exact k
    obtain ⟨T2, h2, k2, X2, e2, E2, A2, st2⟩ := newP X0 hx hZ (hw _ (List.mem_of_getElem? (i := 1) rfl)) e0 (g := (mkF m 14 #[.val (.int p1), .val (.int p2), .val (.int (p1 &&& (3 : Int32))), .val (.int (p2 &&& (1048575 : Int32))), .unset, .unset, .unset, .unset, .unset] [(.int (0 : Int32))])) rfl (hb hby at_14) rfl (by decide) (cap := 0) (by decide) (by decide) (by decide) (by decide)
    obtain ⟨b2, g2⟩ : ∃ z, z = h0.size := ⟨_, rfl⟩
    rw [← g2] at A2 st2
    have g_b2 : n0 ≤ b2 := Nat.le_trans Z0 (Nat.le_of_eq g2.symm)
    have O2 := O0.ext E2
    have V2 : Arv Z h2 b2 k2 .int (0 : Int32) [] (.int (0 : Int32)) := Arv.new A2 (by decide)
    refine own_go (B := T2.setTop (mkF m 16 #[.val (.int p1), .val (.int p2), .val (.int (p1 &&& (3 : Int32))), .val (.int (p2 &&& (1048575 : Int32))), .unset, .unset, .unset, .unset, .unset] [(.ref b2)])) (fun t k => st2 _ k) ?_
    refine own_go (B := T2.setTop (mkF m 19 #[.val (.int p1), .val (.int p2), .val (.int (p1 &&& (3 : Int32))), .val (.int (p2 &&& (1048575 : Int32))), .val (.ref b2), .unset, .unset, .unset, .unset] [(.int (0 : Int32))])) (fun t k => ?_) ?_
    · show Steps p.tables e below (T2.setTop (mkF m 16 #[.val (.int p1), .val (.int p2), .val (.int (p1 &&& (3 : Int32))), .val (.int (p2 &&& (1048575 : Int32))), .unset, .unset, .unset, .unset, .unset] [(.ref b2)])) _
      refine XS.astore X2.here hx rfl (hb hby at_16) rfl rfl (l' := #[.val (.int p1), .val (.int p2), .val (.int (p1 &&& (3 : Int32))), .val (.int (p2 &&& (1048575 : Int32))), .val (.ref b2), .unset, .unset, .unset, .unset]) rfl ?_
      show Steps p.tables e below (T2.setTop (mkF m 18 #[.val (.int p1), .val (.int p2), .val (.int (p1 &&& (3 : Int32))), .val (.int (p2 &&& (1048575 : Int32))), .val (.ref b2), .unset, .unset, .unset, .unset] [])) _
      refine XS.iconst X2.here hx rfl (hb hby at_18) ?_
      exact k
    obtain ⟨T3, h3, k3, X3, e3, E3, A3, st3⟩ := newP X2 hx hZ (hw _ (List.mem_of_getElem? (i := 2) rfl)) e2 (g := (mkF m 19 #[.val (.int p1), .val (.int p2), .val (.int (p1 &&& (3 : Int32))), .val (.int (p2 &&& (1048575 : Int32))), .val (.ref b2), .unset, .unset, .unset, .unset] [(.int (0 : Int32))])) rfl (hb hby at_19) rfl (by decide) (cap := 0) (by decide) (by decide) (by decide) (by decide)
    obtain ⟨b3, g3⟩ : ∃ z, z = h2.size := ⟨_, rfl⟩
    rw [← g3] at A3 st3
    have g_b3 : n0 ≤ b3 := Nat.le_trans (Nat.le_trans Z0 E2.1) (Nat.le_of_eq g3.symm)
    have ne_b2_b3 : b2 ≠ b3 := Nat.ne_of_lt (Nat.lt_of_lt_of_le V2.lt (Nat.le_of_eq g3.symm))
    have c3_V_b2 := V2.ext E3
    have O3 := O2.ext E3
    have V3 : Arv Z h3 b3 k3 .double (0 : Int32) [] (.double (0 : UInt64)) := Arv.new A3 (by decide)
    refine own_go (B := T3.setTop (mkF m 21 #[.val (.int p1), .val (.int p2), .val (.int (p1 &&& (3 : Int32))), .val (.int (p2 &&& (1048575 : Int32))), .val (.ref b2), .unset, .unset, .unset, .unset] [(.ref b3)])) (fun t k => st3 _ k) ?_
    refine own_go (B := T3.setTop (mkF m 126 #[.val (.int p1), .val (.int p2), .val (.int (p1 &&& (3 : Int32))), .val (.int (p2 &&& (1048575 : Int32))), .val (.ref b2), .val (.ref b3), .unset, .unset, .unset] [])) (fun t k => ?_) ?_
    · show Steps p.tables e below (T3.setTop (mkF m 21 #[.val (.int p1), .val (.int p2), .val (.int (p1 &&& (3 : Int32))), .val (.int (p2 &&& (1048575 : Int32))), .val (.ref b2), .unset, .unset, .unset, .unset] [(.ref b3)])) _
      refine XS.astore X3.here hx rfl (hb hby at_21) rfl rfl (l' := #[.val (.int p1), .val (.int p2), .val (.int (p1 &&& (3 : Int32))), .val (.int (p2 &&& (1048575 : Int32))), .val (.ref b2), .val (.ref b3), .unset, .unset, .unset]) rfl ?_
      show Steps p.tables e below (T3.setTop (mkF m 23 #[.val (.int p1), .val (.int p2), .val (.int (p1 &&& (3 : Int32))), .val (.int (p2 &&& (1048575 : Int32))), .val (.ref b2), .val (.ref b3), .unset, .unset, .unset] [])) _
      refine XS.goto X3.here hx rfl (pc0 := 23) (pc' := 126) rfl (hb hby at_23) (by decide) (by decide) ?_
      exact k
    obtain ⟨T4, h4, X4, e4, E4, A4, D4, -, st4⟩ := newO X3 hx hZ hown (hw _ (List.mem_of_getElem? (i := 3) rfl)) (hw _ (List.mem_of_getElem? (i := 4) rfl)) (hw _ (List.mem_of_getElem? (i := 5) rfl)) e3 (g := (mkF m 126 #[.val (.int p1), .val (.int p2), .val (.int (p1 &&& (3 : Int32))), .val (.int (p2 &&& (1048575 : Int32))), .val (.ref b2), .val (.ref b3), .unset, .unset, .unset] [])) rfl (hb hby at_126) (by decide) (by decide)
    obtain ⟨b4, g4⟩ : ∃ z, z = h3.size := ⟨_, rfl⟩
    rw [← g4] at A4 D4 st4
    have g_b4 : n0 ≤ b4 := Nat.le_trans (Nat.le_trans (Nat.le_trans Z0 E2.1) E3.1) (Nat.le_of_eq g4.symm)
    have ne_b2_b4 : b2 ≠ b4 := Nat.ne_of_lt (Nat.lt_of_lt_of_le c3_V_b2.lt (Nat.le_of_eq g4.symm))
    have ne_b3_b4 : b3 ≠ b4 := Nat.ne_of_lt (Nat.lt_of_lt_of_le V3.lt (Nat.le_of_eq g4.symm))
    have c4_V_b2 := c3_V_b2.ext E4
    have c4_V_b3 := V3.ext E4
    have O4 := O3.ext E4
    have F4_terms : Fld Z h4 b4 "com/example/muster/muster/TermVector" "terms" "[I" .null := D4 (Or.inr (hw _ (List.mem_of_getElem? (i := 13) rfl))) (ty := (.array .int)) (by decide)
    have F4_weights : Fld Z h4 b4 "com/example/muster/muster/TermVector" "weights" "[D" .null := D4 (Or.inr (hw _ (List.mem_of_getElem? (i := 15) rfl))) (ty := (.array .double)) (by decide)
    refine own_go (B := T4.setTop (mkF m 129 #[.val (.int p1), .val (.int p2), .val (.int (p1 &&& (3 : Int32))), .val (.int (p2 &&& (1048575 : Int32))), .val (.ref b2), .val (.ref b3), .unset, .unset, .unset] [(.ref b4)])) (fun t k => st4 _ k) ?_
    refine own_go (B := T4.setTop (mkF m 134 #[.val (.int p1), .val (.int p2), .val (.int (p1 &&& (3 : Int32))), .val (.int (p2 &&& (1048575 : Int32))), .val (.ref b2), .val (.ref b3), .unset, .unset, .unset] [(.ref b3), (.ref b2), (.ref b4), (.ref b4)])) (fun t k => ?_) ?_
    · show Steps p.tables e below (T4.setTop (mkF m 129 #[.val (.int p1), .val (.int p2), .val (.int (p1 &&& (3 : Int32))), .val (.int (p2 &&& (1048575 : Int32))), .val (.ref b2), .val (.ref b3), .unset, .unset, .unset] [(.ref b4)])) _
      refine XS.dup X4.here hx rfl (hb hby at_129) rfl rfl ?_
      show Steps p.tables e below (T4.setTop (mkF m 130 #[.val (.int p1), .val (.int p2), .val (.int (p1 &&& (3 : Int32))), .val (.int (p2 &&& (1048575 : Int32))), .val (.ref b2), .val (.ref b3), .unset, .unset, .unset] [(.ref b4), (.ref b4)])) _
      refine XS.aload X4.here hx rfl (hb hby at_130) rfl rfl ?_
      show Steps p.tables e below (T4.setTop (mkF m 132 #[.val (.int p1), .val (.int p2), .val (.int (p1 &&& (3 : Int32))), .val (.int (p2 &&& (1048575 : Int32))), .val (.ref b2), .val (.ref b3), .unset, .unset, .unset] [(.ref b2), (.ref b4), (.ref b4)])) _
      refine XS.aload X4.here hx rfl (hb hby at_132) rfl rfl ?_
      exact k
    obtain ⟨_, _, ⟨T5, L5, k5, n5⟩, -, X5, ⟨Lc5, hQ5, l5, y5, z5⟩, st5⟩ := X4.specialBack hx (y := (⟨"com/example/muster/muster/TermVector", "<init>", "([I[D)V"⟩ : MethodName)) rfl hown (mvT hZ (hw _ (List.mem_of_getElem? (i := 6) rfl))) (mvT hZ (hw _ (List.mem_of_getElem? (i := 7) rfl))) (mvT hZ (hw _ (List.mem_of_getElem? (i := 8) rfl))) (by decide) (backOf (W := 1) (rm1 l Z a0 hw [] b4 b2 b3 h4 n0 (Nat.le_trans (Nat.le_trans (Nat.le_trans Z0 E2.1) E3.1) E4.1) A4 g_b4 F4_terms F4_weights) hZ (hw _ (List.mem_of_getElem? (i := 8) rfl)) (hw _ (List.mem_of_getElem? (i := 5) rfl)) (by decide) (by decide)) (g := (mkF m 134 #[.val (.int p1), .val (.int p2), .val (.int (p1 &&& (3 : Int32))), .val (.int (p2 &&& (1048575 : Int32))), .val (.ref b2), .val (.ref b3), .unset, .unset, .unset] [(.ref b3), (.ref b2), (.ref b4), (.ref b4)])) rfl (by rw [hml]; rfl) (Steps.refl _) (a := b4) (argsL := [(.ref b2), (.ref b3)]) (rest := [(.ref b4)]) (lenOf own_pd0 rfl) rfl (by show 2 * 0 + _ ≤ _; exact Nat.le_of_eq rfl) (hb hby at_134) (fun _ _ => ⟨rfl, e4, (by decide : 3 + 0 ≤ _), (by decide : 2 + 0 ≤ _)⟩)
    dsimp only [Pt.U, Pt.locs, Pt.cells, Pt.slots] at X5 l5 y5 z5 st5 hQ5
    subst l5 y5 z5
    obtain ⟨rfl, N5q, K5q, E5q, F5t⟩ := hQ5
    have N5 := Fr.app N0 N5q
    have c5_V_b2 := c4_V_b2.keep K5q (fun q => ne_b2_b4 (List.mem_singleton.mp q))
    have c5_V_b3 := c4_V_b3.keep K5q (fun q => ne_b3_b4 (List.mem_singleton.mp q))
    have O5 := O4.keep K5q (allS g_b4 all0)
    refine own_go (B := T5.setTop (mkF m 137 #[.val (.int p1), .val (.int p2), .val (.int (p1 &&& (3 : Int32))), .val (.int (p2 &&& (1048575 : Int32))), .val (.ref b2), .val (.ref b3), .unset, .unset, .unset] [(.ref b4)])) (fun t k => st5.trans k) ?_
    refine own_go (B := T5.setTop (mkF m 141 #[.val (.int p1), .val (.int p2), .val (.int (p1 &&& (3 : Int32))), .val (.int (p2 &&& (1048575 : Int32))), .val (.ref b2), .val (.ref b3), .val (.ref b4), .unset, .unset] [(.ref b4)])) (fun t k => ?_) ?_
    · show Steps p.tables e below (T5.setTop (mkF m 137 #[.val (.int p1), .val (.int p2), .val (.int (p1 &&& (3 : Int32))), .val (.int (p2 &&& (1048575 : Int32))), .val (.ref b2), .val (.ref b3), .unset, .unset, .unset] [(.ref b4)])) _
      refine XS.astore X5.here hx rfl (hb hby at_137) rfl rfl (l' := #[.val (.int p1), .val (.int p2), .val (.int (p1 &&& (3 : Int32))), .val (.int (p2 &&& (1048575 : Int32))), .val (.ref b2), .val (.ref b3), .val (.ref b4), .unset, .unset]) rfl ?_
      show Steps p.tables e below (T5.setTop (mkF m 139 #[.val (.int p1), .val (.int p2), .val (.int (p1 &&& (3 : Int32))), .val (.int (p2 &&& (1048575 : Int32))), .val (.ref b2), .val (.ref b3), .val (.ref b4), .unset, .unset] [])) _
      refine XS.aload X5.here hx rfl (hb hby at_139) rfl rfl ?_
      exact k
    obtain ⟨cq6, kq6, q6a, q6b, q6c⟩ := isOf hZ rfl E5q
    obtain ⟨_, _, ⟨T6, L6, k6, n6⟩, -, X6, ⟨Lc6, hQ6, l6, y6, z6⟩, st6⟩ := X5.virtualBack hx (y := (⟨"com/example/muster/muster/TermVector", "isEmpty", "()Z"⟩ : MethodName)) (z := (⟨"com/example/muster/muster/TermVector", "isEmpty", "()Z"⟩ : MethodName)) hown (mvT hZ (hw _ (List.mem_of_getElem? (i := 16) rfl))) (mvT hZ (hw _ (List.mem_of_getElem? (i := 17) rfl))) (notFace_of_selects (args := #[]) (mvT hZ (hw _ (List.mem_of_getElem? (i := 19) rfl)))) (mvT hZ (hw _ (List.mem_of_getElem? (i := 19) rfl))) (mvT hZ (hw _ (List.mem_of_getElem? (i := 18) rfl))) (by decide) (backOf (W := 0) (rm3 l Z a0 hw [] b4 b2 k2 (0 : Int32) [] (.int (0 : Int32)) (1 : Int32) T5.heap n0 (Nat.le_trans (Nat.le_trans (Nat.le_trans (Nat.le_trans Z0 E2.1) E3.1) E4.1) K5q.1) F5t c5_V_b2 (by decide)) hZ (hw _ (List.mem_of_getElem? (i := 20) rfl)) (hw _ (List.mem_of_getElem? (i := 5) rfl)) (by decide) (by decide)) q6a q6c (g := (mkF m 141 #[.val (.int p1), .val (.int p2), .val (.int (p1 &&& (3 : Int32))), .val (.int (p2 &&& (1048575 : Int32))), .val (.ref b2), .val (.ref b3), .val (.ref b4), .unset, .unset] [(.ref b4)])) rfl (by rw [hml]; rfl) (Steps.refl _) (argsL := []) (rest := []) (lenOf own_pd1 rfl) rfl (by show 2 * 0 + _ ≤ _; exact Nat.le_of_eq rfl) (hb hby at_141) (fun _ _ => ⟨rfl, rfl, (by decide : 3 + 0 ≤ _), (by decide : 2 + 0 ≤ _)⟩)
    dsimp only [Pt.U, Pt.locs, Pt.cells, Pt.slots] at X6 l6 y6 z6 st6 hQ6
    subst l6 y6 z6
    obtain ⟨rfl, N6q, eq6⟩ := hQ6
    have N6 := Fr.app N5 N6q
    refine own_go (B := T6.setTop (mkF m 144 #[.val (.int p1), .val (.int p2), .val (.int (p1 &&& (3 : Int32))), .val (.int (p2 &&& (1048575 : Int32))), .val (.ref b2), .val (.ref b3), .val (.ref b4), .unset, .unset] [(.int (1 : Int32))])) (fun t k => st6.trans k) ?_
    refine own_go (B := T6.setTop (mkF m 148 #[.val (.int p1), .val (.int p2), .val (.int (p1 &&& (3 : Int32))), .val (.int (p2 &&& (1048575 : Int32))), .val (.ref b2), .val (.ref b3), .val (.ref b4), .val (.int (1 : Int32)), .unset] [(.ref b4)])) (fun t k => ?_) ?_
    · show Steps p.tables e below (T6.setTop (mkF m 144 #[.val (.int p1), .val (.int p2), .val (.int (p1 &&& (3 : Int32))), .val (.int (p2 &&& (1048575 : Int32))), .val (.ref b2), .val (.ref b3), .val (.ref b4), .unset, .unset] [(.int (1 : Int32))])) _
      refine XS.istore X6.here hx rfl (hb hby at_144) rfl (l' := #[.val (.int p1), .val (.int p2), .val (.int (p1 &&& (3 : Int32))), .val (.int (p2 &&& (1048575 : Int32))), .val (.ref b2), .val (.ref b3), .val (.ref b4), .val (.int (1 : Int32)), .unset]) rfl ?_
      show Steps p.tables e below (T6.setTop (mkF m 146 #[.val (.int p1), .val (.int p2), .val (.int (p1 &&& (3 : Int32))), .val (.int (p2 &&& (1048575 : Int32))), .val (.ref b2), .val (.ref b3), .val (.ref b4), .val (.int (1 : Int32)), .unset] [])) _
      refine XS.aload X6.here hx rfl (hb hby at_146) rfl rfl ?_
      exact k
    obtain ⟨cq7, kq7, q7a, q7b, q7c⟩ := isOf hZ eq6 E5q
    obtain ⟨_, _, ⟨T7, L7, k7, n7⟩, -, X7, ⟨Lc7, hQ7, l7, y7, z7⟩, st7⟩ := X6.virtualBack hx (y := (⟨"com/example/muster/muster/TermVector", "size", "()I"⟩ : MethodName)) (z := (⟨"com/example/muster/muster/TermVector", "size", "()I"⟩ : MethodName)) hown (mvT hZ (hw _ (List.mem_of_getElem? (i := 21) rfl))) (mvT hZ (hw _ (List.mem_of_getElem? (i := 22) rfl))) (notFace_of_selects (args := #[]) (mvT hZ (hw _ (List.mem_of_getElem? (i := 24) rfl)))) (mvT hZ (hw _ (List.mem_of_getElem? (i := 24) rfl))) (mvT hZ (hw _ (List.mem_of_getElem? (i := 23) rfl))) (by decide) (backOf (W := 0) (rm4 l Z a0 hw [] b4 b2 k2 (0 : Int32) [] (.int (0 : Int32)) T5.heap n0 (Nat.le_trans (Nat.le_trans (Nat.le_trans (Nat.le_trans Z0 E2.1) E3.1) E4.1) K5q.1) F5t c5_V_b2) hZ (hw _ (List.mem_of_getElem? (i := 25) rfl)) (hw _ (List.mem_of_getElem? (i := 5) rfl)) (by decide) (by decide)) q7a q7c (g := (mkF m 148 #[.val (.int p1), .val (.int p2), .val (.int (p1 &&& (3 : Int32))), .val (.int (p2 &&& (1048575 : Int32))), .val (.ref b2), .val (.ref b3), .val (.ref b4), .val (.int (1 : Int32)), .unset] [(.ref b4)])) rfl (by rw [hml]; rfl) (Steps.refl _) (argsL := []) (rest := []) (lenOf own_pd2 rfl) rfl (by show 2 * 0 + _ ≤ _; exact Nat.le_of_eq rfl) (hb hby at_148) (fun _ _ => ⟨rfl, eq6, (by decide : 3 + 0 ≤ _), (by decide : 2 + 0 ≤ _)⟩)
    dsimp only [Pt.U, Pt.locs, Pt.cells, Pt.slots] at X7 l7 y7 z7 st7 hQ7
    subst l7 y7 z7
    obtain ⟨rfl, N7q, eq7⟩ := hQ7
    have N7 := Fr.app N6 N7q
    refine own_go (B := T7.setTop (mkF m 151 #[.val (.int p1), .val (.int p2), .val (.int (p1 &&& (3 : Int32))), .val (.int (p2 &&& (1048575 : Int32))), .val (.ref b2), .val (.ref b3), .val (.ref b4), .val (.int (1 : Int32)), .unset] [(.int (0 : Int32))])) (fun t k => st7.trans k) ?_
    refine own_go (B := T7.setTop (mkF m 188 #[.val (.int p1), .val (.int p2), .val (.int (p1 &&& (3 : Int32))), .val (.int (p2 &&& (1048575 : Int32))), .val (.ref b2), .val (.ref b3), .val (.ref b4), .val (.int (1 : Int32)), .val (.int (0 : Int32))] [])) (fun t k => ?_) ?_
    · show Steps p.tables e below (T7.setTop (mkF m 151 #[.val (.int p1), .val (.int p2), .val (.int (p1 &&& (3 : Int32))), .val (.int (p2 &&& (1048575 : Int32))), .val (.ref b2), .val (.ref b3), .val (.ref b4), .val (.int (1 : Int32)), .unset] [(.int (0 : Int32))])) _
      refine XS.istore X7.here hx rfl (hb hby at_151) rfl (l' := #[.val (.int p1), .val (.int p2), .val (.int (p1 &&& (3 : Int32))), .val (.int (p2 &&& (1048575 : Int32))), .val (.ref b2), .val (.ref b3), .val (.ref b4), .val (.int (1 : Int32)), .val (.int (0 : Int32))]) rfl ?_
      show Steps p.tables e below (T7.setTop (mkF m 153 #[.val (.int p1), .val (.int p2), .val (.int (p1 &&& (3 : Int32))), .val (.int (p2 &&& (1048575 : Int32))), .val (.ref b2), .val (.ref b3), .val (.ref b4), .val (.int (1 : Int32)), .val (.int (0 : Int32))] [])) _
      refine XS.iload X7.here hx rfl (hb hby at_153) rfl ?_
      show Steps p.tables e below (T7.setTop (mkF m 155 #[.val (.int p1), .val (.int p2), .val (.int (p1 &&& (3 : Int32))), .val (.int (p2 &&& (1048575 : Int32))), .val (.ref b2), .val (.ref b3), .val (.ref b4), .val (.int (1 : Int32)), .val (.int (0 : Int32))] [(.int (1 : Int32))])) _
      refine XS.iloadN X7.here hx rfl (hb hby at_155) rfl ?_
      show Steps p.tables e below (T7.setTop (mkF m 156 #[.val (.int p1), .val (.int p2), .val (.int (p1 &&& (3 : Int32))), .val (.int (p2 &&& (1048575 : Int32))), .val (.ref b2), .val (.ref b3), .val (.ref b4), .val (.int (1 : Int32)), .val (.int (0 : Int32))] [(.int (p1 &&& (3 : Int32))), (.int (1 : Int32))])) _
      refine XS.ifNo X7.here hx rfl (hb hby at_156) rfl ((if0 _ _).trans (teq hc10_1).2) ?_
      show Steps p.tables e below (T7.setTop (mkF m 159 #[.val (.int p1), .val (.int p2), .val (.int (p1 &&& (3 : Int32))), .val (.int (p2 &&& (1048575 : Int32))), .val (.ref b2), .val (.ref b3), .val (.ref b4), .val (.int (1 : Int32)), .val (.int (0 : Int32))] [(.int (1 : Int32))])) _
      refine XS.iconst X7.here hx rfl (hb hby at_159) ?_
      show Steps p.tables e below (T7.setTop (mkF m 160 #[.val (.int p1), .val (.int p2), .val (.int (p1 &&& (3 : Int32))), .val (.int (p2 &&& (1048575 : Int32))), .val (.ref b2), .val (.ref b3), .val (.ref b4), .val (.int (1 : Int32)), .val (.int (0 : Int32))] [(.int (1 : Int32)), (.int (1 : Int32))])) _
      refine XS.goto X7.here hx rfl (pc0 := 160) (pc' := 164) rfl (hb hby at_160) (by decide) (by decide) ?_
      show Steps p.tables e below (T7.setTop (mkF m 164 #[.val (.int p1), .val (.int p2), .val (.int (p1 &&& (3 : Int32))), .val (.int (p2 &&& (1048575 : Int32))), .val (.ref b2), .val (.ref b3), .val (.ref b4), .val (.int (1 : Int32)), .val (.int (0 : Int32))] [(.int (1 : Int32)), (.int (1 : Int32))])) _
      refine XS.icmpNo X7.here hx rfl (hb hby at_164) rfl (teq (by decide)).2 ?_
      show Steps p.tables e below (T7.setTop (mkF m 167 #[.val (.int p1), .val (.int p2), .val (.int (p1 &&& (3 : Int32))), .val (.int (p2 &&& (1048575 : Int32))), .val (.ref b2), .val (.ref b3), .val (.ref b4), .val (.int (1 : Int32)), .val (.int (0 : Int32))] [])) _
      refine XS.iload X7.here hx rfl (hb hby at_167) rfl ?_
      show Steps p.tables e below (T7.setTop (mkF m 169 #[.val (.int p1), .val (.int p2), .val (.int (p1 &&& (3 : Int32))), .val (.int (p2 &&& (1048575 : Int32))), .val (.ref b2), .val (.ref b3), .val (.ref b4), .val (.int (1 : Int32)), .val (.int (0 : Int32))] [(.int (0 : Int32))])) _
      refine XS.iloadN X7.here hx rfl (hb hby at_169) rfl ?_
      show Steps p.tables e below (T7.setTop (mkF m 170 #[.val (.int p1), .val (.int p2), .val (.int (p1 &&& (3 : Int32))), .val (.int (p2 &&& (1048575 : Int32))), .val (.ref b2), .val (.ref b3), .val (.ref b4), .val (.int (1 : Int32)), .val (.int (0 : Int32))] [(.int (p1 &&& (3 : Int32))), (.int (0 : Int32))])) _
      refine XS.icmpNo X7.here hx rfl (hb hby at_170) rfl (teq hc10_1.symm).2 ?_
      show Steps p.tables e below (T7.setTop (mkF m 173 #[.val (.int p1), .val (.int p2), .val (.int (p1 &&& (3 : Int32))), .val (.int (p2 &&& (1048575 : Int32))), .val (.ref b2), .val (.ref b3), .val (.ref b4), .val (.int (1 : Int32)), .val (.int (0 : Int32))] [])) _
      refine XS.iload X7.here hx rfl (hb hby at_173) rfl ?_
      show Steps p.tables e below (T7.setTop (mkF m 175 #[.val (.int p1), .val (.int p2), .val (.int (p1 &&& (3 : Int32))), .val (.int (p2 &&& (1048575 : Int32))), .val (.ref b2), .val (.ref b3), .val (.ref b4), .val (.int (1 : Int32)), .val (.int (0 : Int32))] [(.int (1 : Int32))])) _
      refine XS.iload X7.here hx rfl (hb hby at_175) rfl ?_
      show Steps p.tables e below (T7.setTop (mkF m 177 #[.val (.int p1), .val (.int p2), .val (.int (p1 &&& (3 : Int32))), .val (.int (p2 &&& (1048575 : Int32))), .val (.ref b2), .val (.ref b3), .val (.ref b4), .val (.int (1 : Int32)), .val (.int (0 : Int32))] [(.int (0 : Int32)), (.int (1 : Int32))])) _
      refine XS.ifNo X7.here hx rfl (hb hby at_177) rfl ((if0 _ _).trans (teq (by decide)).2) ?_
      show Steps p.tables e below (T7.setTop (mkF m 180 #[.val (.int p1), .val (.int p2), .val (.int (p1 &&& (3 : Int32))), .val (.int (p2 &&& (1048575 : Int32))), .val (.ref b2), .val (.ref b3), .val (.ref b4), .val (.int (1 : Int32)), .val (.int (0 : Int32))] [(.int (1 : Int32))])) _
      refine XS.iconst X7.here hx rfl (hb hby at_180) ?_
      show Steps p.tables e below (T7.setTop (mkF m 181 #[.val (.int p1), .val (.int p2), .val (.int (p1 &&& (3 : Int32))), .val (.int (p2 &&& (1048575 : Int32))), .val (.ref b2), .val (.ref b3), .val (.ref b4), .val (.int (1 : Int32)), .val (.int (0 : Int32))] [(.int (1 : Int32)), (.int (1 : Int32))])) _
      refine XS.goto X7.here hx rfl (pc0 := 181) (pc' := 185) rfl (hb hby at_181) (by decide) (by decide) ?_
      show Steps p.tables e below (T7.setTop (mkF m 185 #[.val (.int p1), .val (.int p2), .val (.int (p1 &&& (3 : Int32))), .val (.int (p2 &&& (1048575 : Int32))), .val (.ref b2), .val (.ref b3), .val (.ref b4), .val (.int (1 : Int32)), .val (.int (0 : Int32))] [(.int (1 : Int32)), (.int (1 : Int32))])) _
      refine XS.icmpNo X7.here hx rfl (hb hby at_185) rfl (teq (by decide)).2 ?_
      exact k
    obtain ⟨T8, X8, e8, st8⟩ := getS2 X7 hx hZ hown (host := "") (Or.inl (hw _ (List.mem_of_getElem? (i := 26) rfl))) Via.refl eq7 (S_E.ext O5.2) (g := (mkF m 188 #[.val (.int p1), .val (.int p2), .val (.int (p1 &&& (3 : Int32))), .val (.int (p2 &&& (1048575 : Int32))), .val (.ref b2), .val (.ref b3), .val (.ref b4), .val (.int (1 : Int32)), .val (.int (0 : Int32))] [])) rfl (hb hby at_188)
    refine own_go (B := T8.setTop (mkF m 191 #[.val (.int p1), .val (.int p2), .val (.int (p1 &&& (3 : Int32))), .val (.int (p2 &&& (1048575 : Int32))), .val (.ref b2), .val (.ref b3), .val (.ref b4), .val (.int (1 : Int32)), .val (.int (0 : Int32))] [(.ref w1)])) (fun t k => st8 _ k) ?_
    obtain ⟨cq9, kq9, q9a, q9b, q9c⟩ := isOf hZ e8 (E_w1.ext O5.2)
    obtain ⟨_, _, ⟨T9, L9, k9, n9⟩, -, X9, ⟨Lc9, hQ9, l9, y9, z9⟩, st9⟩ := X8.virtualBack hx (y := (⟨"com/example/muster/muster/TermVector", "isEmpty", "()Z"⟩ : MethodName)) (z := (⟨"com/example/muster/muster/TermVector", "isEmpty", "()Z"⟩ : MethodName)) hown (mvT hZ (hw _ (List.mem_of_getElem? (i := 16) rfl))) (mvT hZ (hw _ (List.mem_of_getElem? (i := 17) rfl))) (notFace_of_selects (args := #[]) (mvT hZ (hw _ (List.mem_of_getElem? (i := 19) rfl)))) (mvT hZ (hw _ (List.mem_of_getElem? (i := 19) rfl))) (mvT hZ (hw _ (List.mem_of_getElem? (i := 18) rfl))) (by decide) (backOf (W := 0) (rm3 l Z a0 hw [] w1 t1 kt (0 : Int32) [] (.int (0 : Int32)) (1 : Int32) T5.heap n0 (Nat.le_trans (Nat.le_trans (Nat.le_trans (Nat.le_trans Z0 E2.1) E3.1) E4.1) K5q.1) (F_w1.ext O5.2) (V_t1.ext O5.2) (by decide)) hZ (hw _ (List.mem_of_getElem? (i := 20) rfl)) (hw _ (List.mem_of_getElem? (i := 5) rfl)) (by decide) (by decide)) q9a q9c (g := (mkF m 191 #[.val (.int p1), .val (.int p2), .val (.int (p1 &&& (3 : Int32))), .val (.int (p2 &&& (1048575 : Int32))), .val (.ref b2), .val (.ref b3), .val (.ref b4), .val (.int (1 : Int32)), .val (.int (0 : Int32))] [(.ref w1)])) rfl (by rw [hml]; rfl) (Steps.refl _) (argsL := []) (rest := []) (lenOf own_pd1 rfl) rfl (by show 2 * 0 + _ ≤ _; exact Nat.le_of_eq rfl) (hb hby at_191) (fun _ _ => ⟨rfl, e8, (by decide : 3 + 0 ≤ _), (by decide : 2 + 0 ≤ _)⟩)
    dsimp only [Pt.U, Pt.locs, Pt.cells, Pt.slots] at X9 l9 y9 z9 st9 hQ9
    subst l9 y9 z9
    obtain ⟨rfl, N9q, eq9⟩ := hQ9
    have N9 := Fr.app N7 N9q
    refine own_go (B := T9.setTop (mkF m 194 #[.val (.int p1), .val (.int p2), .val (.int (p1 &&& (3 : Int32))), .val (.int (p2 &&& (1048575 : Int32))), .val (.ref b2), .val (.ref b3), .val (.ref b4), .val (.int (1 : Int32)), .val (.int (0 : Int32))] [(.int (1 : Int32))])) (fun t k => st9.trans k) ?_
    obtain ⟨fs, hr, hrun, hended, hW, hsame⟩ := X9.leave (v := some (.int (1 : Int32))) (fun h => by rw [Bd.returns] at h; cases h)
    refine ⟨_, _, ?_, hrun, hended, _, _, rfl, ?_, ⟨_, rfl⟩, hW, hsame.mono (by decide) (by decide)⟩
    · show Steps p.tables e below (T9.setTop (mkF m 194 #[.val (.int p1), .val (.int p2), .val (.int (p1 &&& (3 : Int32))), .val (.int (p2 &&& (1048575 : Int32))), .val (.ref b2), .val (.ref b3), .val (.ref b4), .val (.int (1 : Int32)), .val (.int (0 : Int32))] [(.int (1 : Int32))])) _
      refine XS.ifNo X9.here hx rfl (hb hby at_194) rfl ((if0 _ _).trans (feq (by decide)).1) ?_
      show Steps p.tables e below (T9.setTop (mkF m 197 #[.val (.int p1), .val (.int p2), .val (.int (p1 &&& (3 : Int32))), .val (.int (p2 &&& (1048575 : Int32))), .val (.ref b2), .val (.ref b3), .val (.ref b4), .val (.int (1 : Int32)), .val (.int (0 : Int32))] [])) _
      refine XS.iconst X9.here hx rfl (hb hby at_197) ?_
      show Steps p.tables e below (T9.setTop (mkF m 198 #[.val (.int p1), .val (.int p2), .val (.int (p1 &&& (3 : Int32))), .val (.int (p2 &&& (1048575 : Int32))), .val (.ref b2), .val (.ref b3), .val (.ref b4), .val (.int (1 : Int32)), .val (.int (0 : Int32))] [(.int (1 : Int32))])) _
      refine XS.goto X9.here hx rfl (pc0 := 198) (pc' := 202) rfl (hb hby at_198) (by decide) (by decide) ?_
      show Steps p.tables e below (T9.setTop (mkF m 202 #[.val (.int p1), .val (.int p2), .val (.int (p1 &&& (3 : Int32))), .val (.int (p2 &&& (1048575 : Int32))), .val (.ref b2), .val (.ref b3), .val (.ref b4), .val (.int (1 : Int32)), .val (.int (0 : Int32))] [(.int (1 : Int32))])) _
      exact retN X9 hx (t := .boolean) Bd.returns (by simp) (hb hby at_202) hr
    · show Q0 Z p1 p2 w1 t1 kt h0 n0 _ T9.heap _
      rw [eq9]
      exact ⟨rfl, N9⟩
  · refine own_go (B := s₁.setTop (mkF m 28 #[.val (.int p1), .val (.int p2), .val (.int (p1 &&& (3 : Int32))), .val (.int (p2 &&& (1048575 : Int32))), .unset, .unset, .unset, .unset, .unset] [(.int (1 : Int32)), (.int (p1 &&& (3 : Int32)))])) (fun t k => ?_) ?_
    · show Steps p.tables e below (s₁.setTop (mkF m 10 #[.val (.int p1), .val (.int p2), .val (.int (p1 &&& (3 : Int32))), .val (.int (p2 &&& (1048575 : Int32))), .unset, .unset, .unset, .unset, .unset] [(.int (p1 &&& (3 : Int32)))])) _
      refine XS.ifYes X0.here hx rfl (pc0 := 10) (pc' := 26) rfl (hb hby at_10) rfl ((if0 _ _).trans (feq hc10_1).2) (by decide) (by decide) ?_
      show Steps p.tables e below (s₁.setTop (mkF m 26 #[.val (.int p1), .val (.int p2), .val (.int (p1 &&& (3 : Int32))), .val (.int (p2 &&& (1048575 : Int32))), .unset, .unset, .unset, .unset, .unset] [])) _
      refine XS.iloadN X0.here hx rfl (hb hby at_26) rfl ?_
      show Steps p.tables e below (s₁.setTop (mkF m 27 #[.val (.int p1), .val (.int p2), .val (.int (p1 &&& (3 : Int32))), .val (.int (p2 &&& (1048575 : Int32))), .unset, .unset, .unset, .unset, .unset] [(.int (p1 &&& (3 : Int32)))])) _
      refine XS.iconst X0.here hx rfl (hb hby at_27) ?_
      exact k
    by_cases hc28_10 : (p1 &&& (3 : Int32)) = (1 : Int32)
    · refine own_go (B := s₁.setTop (mkF m 32 #[.val (.int p1), .val (.int p2), .val (.int (p1 &&& (3 : Int32))), .val (.int (p2 &&& (1048575 : Int32))), .unset, .unset, .unset, .unset, .unset] [(.int (1 : Int32))])) (fun t k => ?_) ?_
      · show Steps p.tables e below (s₁.setTop (mkF m 28 #[.val (.int p1), .val (.int p2), .val (.int (p1 &&& (3 : Int32))), .val (.int (p2 &&& (1048575 : Int32))), .unset, .unset, .unset, .unset, .unset] [(.int (1 : Int32)), (.int (p1 &&& (3 : Int32)))])) _
        refine XS.icmpNo X0.here hx rfl (hb hby at_28) rfl (teq hc28_10).2 ?_
        show Steps p.tables e below (s₁.setTop (mkF m 31 #[.val (.int p1), .val (.int p2), .val (.int (p1 &&& (3 : Int32))), .val (.int (p2 &&& (1048575 : Int32))), .unset, .unset, .unset, .unset, .unset] [])) _
        refine XS.iconst X0.here hx rfl (hb hby at_31) ?_
        exact k
      obtain ⟨T11, h11, k11, X11, e11, E11, A11, st11⟩ := newP X0 hx hZ (hw _ (List.mem_of_getElem? (i := 1) rfl)) e0 (g := (mkF m 32 #[.val (.int p1), .val (.int p2), .val (.int (p1 &&& (3 : Int32))), .val (.int (p2 &&& (1048575 : Int32))), .unset, .unset, .unset, .unset, .unset] [(.int (1 : Int32))])) rfl (hb hby at_32) rfl (by decide) (cap := 1) (by decide) (by decide) (by decide) (by decide)
      obtain ⟨b11, g11⟩ : ∃ z, z = h0.size := ⟨_, rfl⟩
      rw [← g11] at A11 st11
      have g_b11 : n0 ≤ b11 := Nat.le_trans Z0 (Nat.le_of_eq g11.symm)
      have O11 := O0.ext E11
      have V11 : Arv Z h11 b11 k11 .int (1 : Int32) [(.int (0 : Int32))] (.int (0 : Int32)) := (Arv.new A11 (by decide)).pad (pad_rep [] (.int (0 : Int32)) 1)
      refine own_go (B := T11.setTop (mkF m 34 #[.val (.int p1), .val (.int p2), .val (.int (p1 &&& (3 : Int32))), .val (.int (p2 &&& (1048575 : Int32))), .unset, .unset, .unset, .unset, .unset] [(.ref b11)])) (fun t k => st11 _ k) ?_
      refine own_go (B := T11.setTop (mkF m 37 #[.val (.int p1), .val (.int p2), .val (.int (p1 &&& (3 : Int32))), .val (.int (p2 &&& (1048575 : Int32))), .unset, .unset, .unset, .unset, .unset] [(.int (p2 &&& (1048575 : Int32))), (.int (0 : Int32)), (.ref b11), (.ref b11)])) (fun t k => ?_) ?_
      · show Steps p.tables e below (T11.setTop (mkF m 34 #[.val (.int p1), .val (.int p2), .val (.int (p1 &&& (3 : Int32))), .val (.int (p2 &&& (1048575 : Int32))), .unset, .unset, .unset, .unset, .unset] [(.ref b11)])) _
        refine XS.dup X11.here hx rfl (hb hby at_34) rfl rfl ?_
        show Steps p.tables e below (T11.setTop (mkF m 35 #[.val (.int p1), .val (.int p2), .val (.int (p1 &&& (3 : Int32))), .val (.int (p2 &&& (1048575 : Int32))), .unset, .unset, .unset, .unset, .unset] [(.ref b11), (.ref b11)])) _
        refine XS.iconst X11.here hx rfl (hb hby at_35) ?_
        show Steps p.tables e below (T11.setTop (mkF m 36 #[.val (.int p1), .val (.int p2), .val (.int (p1 &&& (3 : Int32))), .val (.int (p2 &&& (1048575 : Int32))), .unset, .unset, .unset, .unset, .unset] [(.int (0 : Int32)), (.ref b11), (.ref b11)])) _
        refine XS.iloadN X11.here hx rfl (hb hby at_36) rfl ?_
        exact k
      obtain ⟨cl12, Ar12, qk12, S12, M12, H12, G12⟩ := id V11
      obtain ⟨T12, h12, X12, e12, W12, st12⟩ := stI X11 hx hZ e11 Ar12 (j := (0 : Int32)) (inb_of S12 ⟨by decide, by decide⟩) (g := (mkF m 37 #[.val (.int p1), .val (.int p2), .val (.int (p1 &&& (3 : Int32))), .val (.int (p2 &&& (1048575 : Int32))), .unset, .unset, .unset, .unset, .unset] [(.int (p2 &&& (1048575 : Int32))), (.int (0 : Int32)), (.ref b11), (.ref b11)])) rfl rfl (hb hby at_37)
      have V12 : Arv Z h12 b11 k11 .int (1 : Int32) [(.int (p2 &&& (1048575 : Int32)))] (.int (0 : Int32)) := Arv.set Ar12 qk12 S12 M12 H12 G12 rfl W12 0 rfl (Nat.le_of_ble_eq_true rfl)
      have O12 := O11.wr W12 g_b11
      have N12 := Fr.snoc X12 N0 g_b11
      refine own_go (B := T12.setTop (mkF m 38 #[.val (.int p1), .val (.int p2), .val (.int (p1 &&& (3 : Int32))), .val (.int (p2 &&& (1048575 : Int32))), .unset, .unset, .unset, .unset, .unset] [(.ref b11)])) (fun t k => st12 _ k) ?_
      refine own_go (B := T12.setTop (mkF m 41 #[.val (.int p1), .val (.int p2), .val (.int (p1 &&& (3 : Int32))), .val (.int (p2 &&& (1048575 : Int32))), .val (.ref b11), .unset, .unset, .unset, .unset] [(.int (1 : Int32))])) (fun t k => ?_) ?_
      · show Steps p.tables e below (T12.setTop (mkF m 38 #[.val (.int p1), .val (.int p2), .val (.int (p1 &&& (3 : Int32))), .val (.int (p2 &&& (1048575 : Int32))), .unset, .unset, .unset, .unset, .unset] [(.ref b11)])) _
        refine XS.astore X12.here hx rfl (hb hby at_38) rfl rfl (l' := #[.val (.int p1), .val (.int p2), .val (.int (p1 &&& (3 : Int32))), .val (.int (p2 &&& (1048575 : Int32))), .val (.ref b11), .unset, .unset, .unset, .unset]) rfl ?_
        show Steps p.tables e below (T12.setTop (mkF m 40 #[.val (.int p1), .val (.int p2), .val (.int (p1 &&& (3 : Int32))), .val (.int (p2 &&& (1048575 : Int32))), .val (.ref b11), .unset, .unset, .unset, .unset] [])) _
        refine XS.iconst X12.here hx rfl (hb hby at_40) ?_
        exact k
      obtain ⟨T13, h13, k13, X13, e13, E13, A13, st13⟩ := newP X12 hx hZ (hw _ (List.mem_of_getElem? (i := 2) rfl)) e12 (g := (mkF m 41 #[.val (.int p1), .val (.int p2), .val (.int (p1 &&& (3 : Int32))), .val (.int (p2 &&& (1048575 : Int32))), .val (.ref b11), .unset, .unset, .unset, .unset] [(.int (1 : Int32))])) rfl (hb hby at_41) rfl (by decide) (cap := 1) (by decide) (by decide) (by decide) (by decide)
      obtain ⟨b13, g13⟩ : ∃ z, z = h12.size := ⟨_, rfl⟩
      rw [← g13] at A13 st13
      have g_b13 : n0 ≤ b13 := Nat.le_trans (Nat.le_trans (Nat.le_trans Z0 E11.1) (Keep.of_wr W12).1) (Nat.le_of_eq g13.symm)
      have ne_b11_b13 : b11 ≠ b13 := Nat.ne_of_lt (Nat.lt_of_lt_of_le V12.lt (Nat.le_of_eq g13.symm))
      have c13_V_b11 := V12.ext E13
      have O13 := O12.ext E13
      have V13 : Arv Z h13 b13 k13 .double (1 : Int32) [(.double (0 : UInt64))] (.double (0 : UInt64)) := (Arv.new A13 (by decide)).pad (pad_rep [] (.double (0 : UInt64)) 1)
      refine own_go (B := T13.setTop (mkF m 43 #[.val (.int p1), .val (.int p2), .val (.int (p1 &&& (3 : Int32))), .val (.int (p2 &&& (1048575 : Int32))), .val (.ref b11), .unset, .unset, .unset, .unset] [(.ref b13)])) (fun t k => st13 _ k) ?_
      refine own_go (B := T13.setTop (mkF m 46 #[.val (.int p1), .val (.int p2), .val (.int (p1 &&& (3 : Int32))), .val (.int (p2 &&& (1048575 : Int32))), .val (.ref b11), .unset, .unset, .unset, .unset] [(.double FP.dconst1), (.int (0 : Int32)), (.ref b13), (.ref b13)])) (fun t k => ?_) ?_
      · show Steps p.tables e below (T13.setTop (mkF m 43 #[.val (.int p1), .val (.int p2), .val (.int (p1 &&& (3 : Int32))), .val (.int (p2 &&& (1048575 : Int32))), .val (.ref b11), .unset, .unset, .unset, .unset] [(.ref b13)])) _
        refine XS.dup X13.here hx rfl (hb hby at_43) rfl rfl ?_
        show Steps p.tables e below (T13.setTop (mkF m 44 #[.val (.int p1), .val (.int p2), .val (.int (p1 &&& (3 : Int32))), .val (.int (p2 &&& (1048575 : Int32))), .val (.ref b11), .unset, .unset, .unset, .unset] [(.ref b13), (.ref b13)])) _
        refine XS.iconst X13.here hx rfl (hb hby at_44) ?_
        show Steps p.tables e below (T13.setTop (mkF m 45 #[.val (.int p1), .val (.int p2), .val (.int (p1 &&& (3 : Int32))), .val (.int (p2 &&& (1048575 : Int32))), .val (.ref b11), .unset, .unset, .unset, .unset] [(.int (0 : Int32)), (.ref b13), (.ref b13)])) _
        refine XS.dconst1 X13.here hx rfl (hb hby at_45) rfl ?_
        exact k
      obtain ⟨cl14, Ar14, qk14, S14, M14, H14, G14⟩ := id V13
      obtain ⟨T14, h14, X14, e14, W14, st14⟩ := stD X13 hx hZ e13 Ar14 (j := (0 : Int32)) (inb_of S14 ⟨by decide, by decide⟩) (g := (mkF m 46 #[.val (.int p1), .val (.int p2), .val (.int (p1 &&& (3 : Int32))), .val (.int (p2 &&& (1048575 : Int32))), .val (.ref b11), .unset, .unset, .unset, .unset] [(.double FP.dconst1), (.int (0 : Int32)), (.ref b13), (.ref b13)])) rfl rfl (hb hby at_46)
      have V14 : Arv Z h14 b13 k13 .double (1 : Int32) [(.double FP.dconst1)] (.double (0 : UInt64)) := Arv.set Ar14 qk14 S14 M14 H14 G14 rfl W14 0 rfl (Nat.le_of_ble_eq_true rfl)
      have c14_V_b11 := c13_V_b11.other W14 ne_b11_b13
      have O14 := O13.wr W14 g_b13
      have N14 := Fr.snoc X14 N12 g_b13
      refine own_go (B := T14.setTop (mkF m 47 #[.val (.int p1), .val (.int p2), .val (.int (p1 &&& (3 : Int32))), .val (.int (p2 &&& (1048575 : Int32))), .val (.ref b11), .unset, .unset, .unset, .unset] [(.ref b13)])) (fun t k => st14 _ k) ?_
      refine own_go (B := T14.setTop (mkF m 126 #[.val (.int p1), .val (.int p2), .val (.int (p1 &&& (3 : Int32))), .val (.int (p2 &&& (1048575 : Int32))), .val (.ref b11), .val (.ref b13), .unset, .unset, .unset] [])) (fun t k => ?_) ?_
      · show Steps p.tables e below (T14.setTop (mkF m 47 #[.val (.int p1), .val (.int p2), .val (.int (p1 &&& (3 : Int32))), .val (.int (p2 &&& (1048575 : Int32))), .val (.ref b11), .unset, .unset, .unset, .unset] [(.ref b13)])) _
        refine XS.astore X14.here hx rfl (hb hby at_47) rfl rfl (l' := #[.val (.int p1), .val (.int p2), .val (.int (p1 &&& (3 : Int32))), .val (.int (p2 &&& (1048575 : Int32))), .val (.ref b11), .val (.ref b13), .unset, .unset, .unset]) rfl ?_
        show Steps p.tables e below (T14.setTop (mkF m 49 #[.val (.int p1), .val (.int p2), .val (.int (p1 &&& (3 : Int32))), .val (.int (p2 &&& (1048575 : Int32))), .val (.ref b11), .val (.ref b13), .unset, .unset, .unset] [])) _
        refine XS.goto X14.here hx rfl (pc0 := 49) (pc' := 126) rfl (hb hby at_49) (by decide) (by decide) ?_
        exact k
      obtain ⟨T15, h15, X15, e15, E15, A15, D15, -, st15⟩ := newO X14 hx hZ hown (hw _ (List.mem_of_getElem? (i := 3) rfl)) (hw _ (List.mem_of_getElem? (i := 4) rfl)) (hw _ (List.mem_of_getElem? (i := 5) rfl)) e14 (g := (mkF m 126 #[.val (.int p1), .val (.int p2), .val (.int (p1 &&& (3 : Int32))), .val (.int (p2 &&& (1048575 : Int32))), .val (.ref b11), .val (.ref b13), .unset, .unset, .unset] [])) rfl (hb hby at_126) (by decide) (by decide)
      obtain ⟨b15, g15⟩ : ∃ z, z = h14.size := ⟨_, rfl⟩
      rw [← g15] at A15 D15 st15
      have g_b15 : n0 ≤ b15 := Nat.le_trans (Nat.le_trans (Nat.le_trans (Nat.le_trans (Nat.le_trans Z0 E11.1) (Keep.of_wr W12).1) E13.1) (Keep.of_wr W14).1) (Nat.le_of_eq g15.symm)
      have ne_b11_b15 : b11 ≠ b15 := Nat.ne_of_lt (Nat.lt_of_lt_of_le c14_V_b11.lt (Nat.le_of_eq g15.symm))
      have ne_b13_b15 : b13 ≠ b15 := Nat.ne_of_lt (Nat.lt_of_lt_of_le V14.lt (Nat.le_of_eq g15.symm))
      have c15_V_b11 := c14_V_b11.ext E15
      have c15_V_b13 := V14.ext E15
      have O15 := O14.ext E15
      have F15_terms : Fld Z h15 b15 "com/example/muster/muster/TermVector" "terms" "[I" .null := D15 (Or.inr (hw _ (List.mem_of_getElem? (i := 13) rfl))) (ty := (.array .int)) (by decide)
      have F15_weights : Fld Z h15 b15 "com/example/muster/muster/TermVector" "weights" "[D" .null := D15 (Or.inr (hw _ (List.mem_of_getElem? (i := 15) rfl))) (ty := (.array .double)) (by decide)
      refine own_go (B := T15.setTop (mkF m 129 #[.val (.int p1), .val (.int p2), .val (.int (p1 &&& (3 : Int32))), .val (.int (p2 &&& (1048575 : Int32))), .val (.ref b11), .val (.ref b13), .unset, .unset, .unset] [(.ref b15)])) (fun t k => st15 _ k) ?_
      refine own_go (B := T15.setTop (mkF m 134 #[.val (.int p1), .val (.int p2), .val (.int (p1 &&& (3 : Int32))), .val (.int (p2 &&& (1048575 : Int32))), .val (.ref b11), .val (.ref b13), .unset, .unset, .unset] [(.ref b13), (.ref b11), (.ref b15), (.ref b15)])) (fun t k => ?_) ?_
      · show Steps p.tables e below (T15.setTop (mkF m 129 #[.val (.int p1), .val (.int p2), .val (.int (p1 &&& (3 : Int32))), .val (.int (p2 &&& (1048575 : Int32))), .val (.ref b11), .val (.ref b13), .unset, .unset, .unset] [(.ref b15)])) _
        refine XS.dup X15.here hx rfl (hb hby at_129) rfl rfl ?_
        show Steps p.tables e below (T15.setTop (mkF m 130 #[.val (.int p1), .val (.int p2), .val (.int (p1 &&& (3 : Int32))), .val (.int (p2 &&& (1048575 : Int32))), .val (.ref b11), .val (.ref b13), .unset, .unset, .unset] [(.ref b15), (.ref b15)])) _
        refine XS.aload X15.here hx rfl (hb hby at_130) rfl rfl ?_
        show Steps p.tables e below (T15.setTop (mkF m 132 #[.val (.int p1), .val (.int p2), .val (.int (p1 &&& (3 : Int32))), .val (.int (p2 &&& (1048575 : Int32))), .val (.ref b11), .val (.ref b13), .unset, .unset, .unset] [(.ref b11), (.ref b15), (.ref b15)])) _
        refine XS.aload X15.here hx rfl (hb hby at_132) rfl rfl ?_
        exact k
      obtain ⟨_, _, ⟨T16, L16, k16, n16⟩, -, X16, ⟨Lc16, hQ16, l16, y16, z16⟩, st16⟩ := X15.specialBack hx (y := (⟨"com/example/muster/muster/TermVector", "<init>", "([I[D)V"⟩ : MethodName)) rfl hown (mvT hZ (hw _ (List.mem_of_getElem? (i := 6) rfl))) (mvT hZ (hw _ (List.mem_of_getElem? (i := 7) rfl))) (mvT hZ (hw _ (List.mem_of_getElem? (i := 8) rfl))) (by decide) (backOf (W := 1) (rm1 l Z a0 hw [] b15 b11 b13 h15 n0 (Nat.le_trans (Nat.le_trans (Nat.le_trans (Nat.le_trans (Nat.le_trans Z0 E11.1) (Keep.of_wr W12).1) E13.1) (Keep.of_wr W14).1) E15.1) A15 g_b15 F15_terms F15_weights) hZ (hw _ (List.mem_of_getElem? (i := 8) rfl)) (hw _ (List.mem_of_getElem? (i := 5) rfl)) (by decide) (by decide)) (g := (mkF m 134 #[.val (.int p1), .val (.int p2), .val (.int (p1 &&& (3 : Int32))), .val (.int (p2 &&& (1048575 : Int32))), .val (.ref b11), .val (.ref b13), .unset, .unset, .unset] [(.ref b13), (.ref b11), (.ref b15), (.ref b15)])) rfl (by rw [hml]; rfl) (Steps.refl _) (a := b15) (argsL := [(.ref b11), (.ref b13)]) (rest := [(.ref b15)]) (lenOf own_pd0 rfl) rfl (by show 2 * 0 + _ ≤ _; exact Nat.le_of_eq rfl) (hb hby at_134) (fun _ _ => ⟨rfl, e15, (by decide : 3 + 0 ≤ _), (by decide : 4 + 0 ≤ _)⟩)
      dsimp only [Pt.U, Pt.locs, Pt.cells, Pt.slots] at X16 l16 y16 z16 st16 hQ16
      subst l16 y16 z16
      obtain ⟨rfl, N16q, K16q, E16q, F16t⟩ := hQ16
      have N16 := Fr.app N14 N16q
      have c16_V_b11 := c15_V_b11.keep K16q (fun q => ne_b11_b15 (List.mem_singleton.mp q))
      have c16_V_b13 := c15_V_b13.keep K16q (fun q => ne_b13_b15 (List.mem_singleton.mp q))
      have O16 := O15.keep K16q (allS g_b15 all0)
      refine own_go (B := T16.setTop (mkF m 137 #[.val (.int p1), .val (.int p2), .val (.int (p1 &&& (3 : Int32))), .val (.int (p2 &&& (1048575 : Int32))), .val (.ref b11), .val (.ref b13), .unset, .unset, .unset] [(.ref b15)])) (fun t k => st16.trans k) ?_
      refine own_go (B := T16.setTop (mkF m 141 #[.val (.int p1), .val (.int p2), .val (.int (p1 &&& (3 : Int32))), .val (.int (p2 &&& (1048575 : Int32))), .val (.ref b11), .val (.ref b13), .val (.ref b15), .unset, .unset] [(.ref b15)])) (fun t k => ?_) ?_
      · show Steps p.tables e below (T16.setTop (mkF m 137 #[.val (.int p1), .val (.int p2), .val (.int (p1 &&& (3 : Int32))), .val (.int (p2 &&& (1048575 : Int32))), .val (.ref b11), .val (.ref b13), .unset, .unset, .unset] [(.ref b15)])) _
        refine XS.astore X16.here hx rfl (hb hby at_137) rfl rfl (l' := #[.val (.int p1), .val (.int p2), .val (.int (p1 &&& (3 : Int32))), .val (.int (p2 &&& (1048575 : Int32))), .val (.ref b11), .val (.ref b13), .val (.ref b15), .unset, .unset]) rfl ?_
        show Steps p.tables e below (T16.setTop (mkF m 139 #[.val (.int p1), .val (.int p2), .val (.int (p1 &&& (3 : Int32))), .val (.int (p2 &&& (1048575 : Int32))), .val (.ref b11), .val (.ref b13), .val (.ref b15), .unset, .unset] [])) _
        refine XS.aload X16.here hx rfl (hb hby at_139) rfl rfl ?_
        exact k
      obtain ⟨cq17, kq17, q17a, q17b, q17c⟩ := isOf hZ rfl E16q
      obtain ⟨_, _, ⟨T17, L17, k17, n17⟩, -, X17, ⟨Lc17, hQ17, l17, y17, z17⟩, st17⟩ := X16.virtualBack hx (y := (⟨"com/example/muster/muster/TermVector", "isEmpty", "()Z"⟩ : MethodName)) (z := (⟨"com/example/muster/muster/TermVector", "isEmpty", "()Z"⟩ : MethodName)) hown (mvT hZ (hw _ (List.mem_of_getElem? (i := 16) rfl))) (mvT hZ (hw _ (List.mem_of_getElem? (i := 17) rfl))) (notFace_of_selects (args := #[]) (mvT hZ (hw _ (List.mem_of_getElem? (i := 19) rfl)))) (mvT hZ (hw _ (List.mem_of_getElem? (i := 19) rfl))) (mvT hZ (hw _ (List.mem_of_getElem? (i := 18) rfl))) (by decide) (backOf (W := 0) (rm3 l Z a0 hw [] b15 b11 k11 (1 : Int32) [(.int (p2 &&& (1048575 : Int32)))] (.int (0 : Int32)) (0 : Int32) T16.heap n0 (Nat.le_trans (Nat.le_trans (Nat.le_trans (Nat.le_trans (Nat.le_trans (Nat.le_trans Z0 E11.1) (Keep.of_wr W12).1) E13.1) (Keep.of_wr W14).1) E15.1) K16q.1) F16t c16_V_b11 (by decide)) hZ (hw _ (List.mem_of_getElem? (i := 20) rfl)) (hw _ (List.mem_of_getElem? (i := 5) rfl)) (by decide) (by decide)) q17a q17c (g := (mkF m 141 #[.val (.int p1), .val (.int p2), .val (.int (p1 &&& (3 : Int32))), .val (.int (p2 &&& (1048575 : Int32))), .val (.ref b11), .val (.ref b13), .val (.ref b15), .unset, .unset] [(.ref b15)])) rfl (by rw [hml]; rfl) (Steps.refl _) (argsL := []) (rest := []) (lenOf own_pd1 rfl) rfl (by show 2 * 0 + _ ≤ _; exact Nat.le_of_eq rfl) (hb hby at_141) (fun _ _ => ⟨rfl, rfl, (by decide : 3 + 0 ≤ _), (by decide : 4 + 0 ≤ _)⟩)
      dsimp only [Pt.U, Pt.locs, Pt.cells, Pt.slots] at X17 l17 y17 z17 st17 hQ17
      subst l17 y17 z17
      obtain ⟨rfl, N17q, eq17⟩ := hQ17
      have N17 := Fr.app N16 N17q
      refine own_go (B := T17.setTop (mkF m 144 #[.val (.int p1), .val (.int p2), .val (.int (p1 &&& (3 : Int32))), .val (.int (p2 &&& (1048575 : Int32))), .val (.ref b11), .val (.ref b13), .val (.ref b15), .unset, .unset] [(.int (0 : Int32))])) (fun t k => st17.trans k) ?_
      refine own_go (B := T17.setTop (mkF m 148 #[.val (.int p1), .val (.int p2), .val (.int (p1 &&& (3 : Int32))), .val (.int (p2 &&& (1048575 : Int32))), .val (.ref b11), .val (.ref b13), .val (.ref b15), .val (.int (0 : Int32)), .unset] [(.ref b15)])) (fun t k => ?_) ?_
      · show Steps p.tables e below (T17.setTop (mkF m 144 #[.val (.int p1), .val (.int p2), .val (.int (p1 &&& (3 : Int32))), .val (.int (p2 &&& (1048575 : Int32))), .val (.ref b11), .val (.ref b13), .val (.ref b15), .unset, .unset] [(.int (0 : Int32))])) _
        refine XS.istore X17.here hx rfl (hb hby at_144) rfl (l' := #[.val (.int p1), .val (.int p2), .val (.int (p1 &&& (3 : Int32))), .val (.int (p2 &&& (1048575 : Int32))), .val (.ref b11), .val (.ref b13), .val (.ref b15), .val (.int (0 : Int32)), .unset]) rfl ?_
        show Steps p.tables e below (T17.setTop (mkF m 146 #[.val (.int p1), .val (.int p2), .val (.int (p1 &&& (3 : Int32))), .val (.int (p2 &&& (1048575 : Int32))), .val (.ref b11), .val (.ref b13), .val (.ref b15), .val (.int (0 : Int32)), .unset] [])) _
        refine XS.aload X17.here hx rfl (hb hby at_146) rfl rfl ?_
        exact k
      obtain ⟨cq18, kq18, q18a, q18b, q18c⟩ := isOf hZ eq17 E16q
      obtain ⟨_, _, ⟨T18, L18, k18, n18⟩, -, X18, ⟨Lc18, hQ18, l18, y18, z18⟩, st18⟩ := X17.virtualBack hx (y := (⟨"com/example/muster/muster/TermVector", "size", "()I"⟩ : MethodName)) (z := (⟨"com/example/muster/muster/TermVector", "size", "()I"⟩ : MethodName)) hown (mvT hZ (hw _ (List.mem_of_getElem? (i := 21) rfl))) (mvT hZ (hw _ (List.mem_of_getElem? (i := 22) rfl))) (notFace_of_selects (args := #[]) (mvT hZ (hw _ (List.mem_of_getElem? (i := 24) rfl)))) (mvT hZ (hw _ (List.mem_of_getElem? (i := 24) rfl))) (mvT hZ (hw _ (List.mem_of_getElem? (i := 23) rfl))) (by decide) (backOf (W := 0) (rm4 l Z a0 hw [] b15 b11 k11 (1 : Int32) [(.int (p2 &&& (1048575 : Int32)))] (.int (0 : Int32)) T16.heap n0 (Nat.le_trans (Nat.le_trans (Nat.le_trans (Nat.le_trans (Nat.le_trans (Nat.le_trans Z0 E11.1) (Keep.of_wr W12).1) E13.1) (Keep.of_wr W14).1) E15.1) K16q.1) F16t c16_V_b11) hZ (hw _ (List.mem_of_getElem? (i := 25) rfl)) (hw _ (List.mem_of_getElem? (i := 5) rfl)) (by decide) (by decide)) q18a q18c (g := (mkF m 148 #[.val (.int p1), .val (.int p2), .val (.int (p1 &&& (3 : Int32))), .val (.int (p2 &&& (1048575 : Int32))), .val (.ref b11), .val (.ref b13), .val (.ref b15), .val (.int (0 : Int32)), .unset] [(.ref b15)])) rfl (by rw [hml]; rfl) (Steps.refl _) (argsL := []) (rest := []) (lenOf own_pd2 rfl) rfl (by show 2 * 0 + _ ≤ _; exact Nat.le_of_eq rfl) (hb hby at_148) (fun _ _ => ⟨rfl, eq17, (by decide : 3 + 0 ≤ _), (by decide : 4 + 0 ≤ _)⟩)
      dsimp only [Pt.U, Pt.locs, Pt.cells, Pt.slots] at X18 l18 y18 z18 st18 hQ18
      subst l18 y18 z18
      obtain ⟨rfl, N18q, eq18⟩ := hQ18
      have N18 := Fr.app N17 N18q
      refine own_go (B := T18.setTop (mkF m 151 #[.val (.int p1), .val (.int p2), .val (.int (p1 &&& (3 : Int32))), .val (.int (p2 &&& (1048575 : Int32))), .val (.ref b11), .val (.ref b13), .val (.ref b15), .val (.int (0 : Int32)), .unset] [(.int (1 : Int32))])) (fun t k => st18.trans k) ?_
      refine own_go (B := T18.setTop (mkF m 188 #[.val (.int p1), .val (.int p2), .val (.int (p1 &&& (3 : Int32))), .val (.int (p2 &&& (1048575 : Int32))), .val (.ref b11), .val (.ref b13), .val (.ref b15), .val (.int (0 : Int32)), .val (.int (1 : Int32))] [])) (fun t k => ?_) ?_
      · show Steps p.tables e below (T18.setTop (mkF m 151 #[.val (.int p1), .val (.int p2), .val (.int (p1 &&& (3 : Int32))), .val (.int (p2 &&& (1048575 : Int32))), .val (.ref b11), .val (.ref b13), .val (.ref b15), .val (.int (0 : Int32)), .unset] [(.int (1 : Int32))])) _
        refine XS.istore X18.here hx rfl (hb hby at_151) rfl (l' := #[.val (.int p1), .val (.int p2), .val (.int (p1 &&& (3 : Int32))), .val (.int (p2 &&& (1048575 : Int32))), .val (.ref b11), .val (.ref b13), .val (.ref b15), .val (.int (0 : Int32)), .val (.int (1 : Int32))]) rfl ?_
        show Steps p.tables e below (T18.setTop (mkF m 153 #[.val (.int p1), .val (.int p2), .val (.int (p1 &&& (3 : Int32))), .val (.int (p2 &&& (1048575 : Int32))), .val (.ref b11), .val (.ref b13), .val (.ref b15), .val (.int (0 : Int32)), .val (.int (1 : Int32))] [])) _
        refine XS.iload X18.here hx rfl (hb hby at_153) rfl ?_
        show Steps p.tables e below (T18.setTop (mkF m 155 #[.val (.int p1), .val (.int p2), .val (.int (p1 &&& (3 : Int32))), .val (.int (p2 &&& (1048575 : Int32))), .val (.ref b11), .val (.ref b13), .val (.ref b15), .val (.int (0 : Int32)), .val (.int (1 : Int32))] [(.int (0 : Int32))])) _
        refine XS.iloadN X18.here hx rfl (hb hby at_155) rfl ?_
        show Steps p.tables e below (T18.setTop (mkF m 156 #[.val (.int p1), .val (.int p2), .val (.int (p1 &&& (3 : Int32))), .val (.int (p2 &&& (1048575 : Int32))), .val (.ref b11), .val (.ref b13), .val (.ref b15), .val (.int (0 : Int32)), .val (.int (1 : Int32))] [(.int (p1 &&& (3 : Int32))), (.int (0 : Int32))])) _
        refine XS.ifYes X18.here hx rfl (pc0 := 156) (pc' := 163) rfl (hb hby at_156) rfl ((if0 _ _).trans (feq hc10_1).2) (by decide) (by decide) ?_
        show Steps p.tables e below (T18.setTop (mkF m 163 #[.val (.int p1), .val (.int p2), .val (.int (p1 &&& (3 : Int32))), .val (.int (p2 &&& (1048575 : Int32))), .val (.ref b11), .val (.ref b13), .val (.ref b15), .val (.int (0 : Int32)), .val (.int (1 : Int32))] [(.int (0 : Int32))])) _
        refine XS.iconst X18.here hx rfl (hb hby at_163) ?_
        show Steps p.tables e below (T18.setTop (mkF m 164 #[.val (.int p1), .val (.int p2), .val (.int (p1 &&& (3 : Int32))), .val (.int (p2 &&& (1048575 : Int32))), .val (.ref b11), .val (.ref b13), .val (.ref b15), .val (.int (0 : Int32)), .val (.int (1 : Int32))] [(.int (0 : Int32)), (.int (0 : Int32))])) _
        refine XS.icmpNo X18.here hx rfl (hb hby at_164) rfl (teq (by decide)).2 ?_
        show Steps p.tables e below (T18.setTop (mkF m 167 #[.val (.int p1), .val (.int p2), .val (.int (p1 &&& (3 : Int32))), .val (.int (p2 &&& (1048575 : Int32))), .val (.ref b11), .val (.ref b13), .val (.ref b15), .val (.int (0 : Int32)), .val (.int (1 : Int32))] [])) _
        refine XS.iload X18.here hx rfl (hb hby at_167) rfl ?_
        show Steps p.tables e below (T18.setTop (mkF m 169 #[.val (.int p1), .val (.int p2), .val (.int (p1 &&& (3 : Int32))), .val (.int (p2 &&& (1048575 : Int32))), .val (.ref b11), .val (.ref b13), .val (.ref b15), .val (.int (0 : Int32)), .val (.int (1 : Int32))] [(.int (1 : Int32))])) _
        refine XS.iloadN X18.here hx rfl (hb hby at_169) rfl ?_
        show Steps p.tables e below (T18.setTop (mkF m 170 #[.val (.int p1), .val (.int p2), .val (.int (p1 &&& (3 : Int32))), .val (.int (p2 &&& (1048575 : Int32))), .val (.ref b11), .val (.ref b13), .val (.ref b15), .val (.int (0 : Int32)), .val (.int (1 : Int32))] [(.int (p1 &&& (3 : Int32))), (.int (1 : Int32))])) _
        refine XS.icmpNo X18.here hx rfl (hb hby at_170) rfl (teq hc28_10.symm).2 ?_
        show Steps p.tables e below (T18.setTop (mkF m 173 #[.val (.int p1), .val (.int p2), .val (.int (p1 &&& (3 : Int32))), .val (.int (p2 &&& (1048575 : Int32))), .val (.ref b11), .val (.ref b13), .val (.ref b15), .val (.int (0 : Int32)), .val (.int (1 : Int32))] [])) _
        refine XS.iload X18.here hx rfl (hb hby at_173) rfl ?_
        show Steps p.tables e below (T18.setTop (mkF m 175 #[.val (.int p1), .val (.int p2), .val (.int (p1 &&& (3 : Int32))), .val (.int (p2 &&& (1048575 : Int32))), .val (.ref b11), .val (.ref b13), .val (.ref b15), .val (.int (0 : Int32)), .val (.int (1 : Int32))] [(.int (0 : Int32))])) _
        refine XS.iload X18.here hx rfl (hb hby at_175) rfl ?_
        show Steps p.tables e below (T18.setTop (mkF m 177 #[.val (.int p1), .val (.int p2), .val (.int (p1 &&& (3 : Int32))), .val (.int (p2 &&& (1048575 : Int32))), .val (.ref b11), .val (.ref b13), .val (.ref b15), .val (.int (0 : Int32)), .val (.int (1 : Int32))] [(.int (1 : Int32)), (.int (0 : Int32))])) _
        refine XS.ifYes X18.here hx rfl (pc0 := 177) (pc' := 184) rfl (hb hby at_177) rfl ((if0 _ _).trans (feq (by decide)).2) (by decide) (by decide) ?_
        show Steps p.tables e below (T18.setTop (mkF m 184 #[.val (.int p1), .val (.int p2), .val (.int (p1 &&& (3 : Int32))), .val (.int (p2 &&& (1048575 : Int32))), .val (.ref b11), .val (.ref b13), .val (.ref b15), .val (.int (0 : Int32)), .val (.int (1 : Int32))] [(.int (0 : Int32))])) _
        refine XS.iconst X18.here hx rfl (hb hby at_184) ?_
        show Steps p.tables e below (T18.setTop (mkF m 185 #[.val (.int p1), .val (.int p2), .val (.int (p1 &&& (3 : Int32))), .val (.int (p2 &&& (1048575 : Int32))), .val (.ref b11), .val (.ref b13), .val (.ref b15), .val (.int (0 : Int32)), .val (.int (1 : Int32))] [(.int (0 : Int32)), (.int (0 : Int32))])) _
        refine XS.icmpNo X18.here hx rfl (hb hby at_185) rfl (teq (by decide)).2 ?_
        exact k
      obtain ⟨T19, X19, e19, st19⟩ := getS2 X18 hx hZ hown (host := "") (Or.inl (hw _ (List.mem_of_getElem? (i := 26) rfl))) Via.refl eq18 (S_E.ext O16.2) (g := (mkF m 188 #[.val (.int p1), .val (.int p2), .val (.int (p1 &&& (3 : Int32))), .val (.int (p2 &&& (1048575 : Int32))), .val (.ref b11), .val (.ref b13), .val (.ref b15), .val (.int (0 : Int32)), .val (.int (1 : Int32))] [])) rfl (hb hby at_188)
      refine own_go (B := T19.setTop (mkF m 191 #[.val (.int p1), .val (.int p2), .val (.int (p1 &&& (3 : Int32))), .val (.int (p2 &&& (1048575 : Int32))), .val (.ref b11), .val (.ref b13), .val (.ref b15), .val (.int (0 : Int32)), .val (.int (1 : Int32))] [(.ref w1)])) (fun t k => st19 _ k) ?_
      obtain ⟨cq20, kq20, q20a, q20b, q20c⟩ := isOf hZ e19 (E_w1.ext O16.2)
      obtain ⟨_, _, ⟨T20, L20, k20, n20⟩, -, X20, ⟨Lc20, hQ20, l20, y20, z20⟩, st20⟩ := X19.virtualBack hx (y := (⟨"com/example/muster/muster/TermVector", "isEmpty", "()Z"⟩ : MethodName)) (z := (⟨"com/example/muster/muster/TermVector", "isEmpty", "()Z"⟩ : MethodName)) hown (mvT hZ (hw _ (List.mem_of_getElem? (i := 16) rfl))) (mvT hZ (hw _ (List.mem_of_getElem? (i := 17) rfl))) (notFace_of_selects (args := #[]) (mvT hZ (hw _ (List.mem_of_getElem? (i := 19) rfl)))) (mvT hZ (hw _ (List.mem_of_getElem? (i := 19) rfl))) (mvT hZ (hw _ (List.mem_of_getElem? (i := 18) rfl))) (by decide) (backOf (W := 0) (rm3 l Z a0 hw [] w1 t1 kt (0 : Int32) [] (.int (0 : Int32)) (1 : Int32) T16.heap n0 (Nat.le_trans (Nat.le_trans (Nat.le_trans (Nat.le_trans (Nat.le_trans (Nat.le_trans Z0 E11.1) (Keep.of_wr W12).1) E13.1) (Keep.of_wr W14).1) E15.1) K16q.1) (F_w1.ext O16.2) (V_t1.ext O16.2) (by decide)) hZ (hw _ (List.mem_of_getElem? (i := 20) rfl)) (hw _ (List.mem_of_getElem? (i := 5) rfl)) (by decide) (by decide)) q20a q20c (g := (mkF m 191 #[.val (.int p1), .val (.int p2), .val (.int (p1 &&& (3 : Int32))), .val (.int (p2 &&& (1048575 : Int32))), .val (.ref b11), .val (.ref b13), .val (.ref b15), .val (.int (0 : Int32)), .val (.int (1 : Int32))] [(.ref w1)])) rfl (by rw [hml]; rfl) (Steps.refl _) (argsL := []) (rest := []) (lenOf own_pd1 rfl) rfl (by show 2 * 0 + _ ≤ _; exact Nat.le_of_eq rfl) (hb hby at_191) (fun _ _ => ⟨rfl, e19, (by decide : 3 + 0 ≤ _), (by decide : 4 + 0 ≤ _)⟩)
      dsimp only [Pt.U, Pt.locs, Pt.cells, Pt.slots] at X20 l20 y20 z20 st20 hQ20
      subst l20 y20 z20
      obtain ⟨rfl, N20q, eq20⟩ := hQ20
      have N20 := Fr.app N18 N20q
      refine own_go (B := T20.setTop (mkF m 194 #[.val (.int p1), .val (.int p2), .val (.int (p1 &&& (3 : Int32))), .val (.int (p2 &&& (1048575 : Int32))), .val (.ref b11), .val (.ref b13), .val (.ref b15), .val (.int (0 : Int32)), .val (.int (1 : Int32))] [(.int (1 : Int32))])) (fun t k => st20.trans k) ?_
      obtain ⟨fs, hr, hrun, hended, hW, hsame⟩ := X20.leave (v := some (.int (1 : Int32))) (fun h => by rw [Bd.returns] at h; cases h)
      refine ⟨_, _, ?_, hrun, hended, _, _, rfl, ?_, ⟨_, rfl⟩, hW, hsame.mono (by decide) (by decide)⟩
      · show Steps p.tables e below (T20.setTop (mkF m 194 #[.val (.int p1), .val (.int p2), .val (.int (p1 &&& (3 : Int32))), .val (.int (p2 &&& (1048575 : Int32))), .val (.ref b11), .val (.ref b13), .val (.ref b15), .val (.int (0 : Int32)), .val (.int (1 : Int32))] [(.int (1 : Int32))])) _
        refine XS.ifNo X20.here hx rfl (hb hby at_194) rfl ((if0 _ _).trans (feq (by decide)).1) ?_
        show Steps p.tables e below (T20.setTop (mkF m 197 #[.val (.int p1), .val (.int p2), .val (.int (p1 &&& (3 : Int32))), .val (.int (p2 &&& (1048575 : Int32))), .val (.ref b11), .val (.ref b13), .val (.ref b15), .val (.int (0 : Int32)), .val (.int (1 : Int32))] [])) _
        refine XS.iconst X20.here hx rfl (hb hby at_197) ?_
        show Steps p.tables e below (T20.setTop (mkF m 198 #[.val (.int p1), .val (.int p2), .val (.int (p1 &&& (3 : Int32))), .val (.int (p2 &&& (1048575 : Int32))), .val (.ref b11), .val (.ref b13), .val (.ref b15), .val (.int (0 : Int32)), .val (.int (1 : Int32))] [(.int (1 : Int32))])) _
        refine XS.goto X20.here hx rfl (pc0 := 198) (pc' := 202) rfl (hb hby at_198) (by decide) (by decide) ?_
        show Steps p.tables e below (T20.setTop (mkF m 202 #[.val (.int p1), .val (.int p2), .val (.int (p1 &&& (3 : Int32))), .val (.int (p2 &&& (1048575 : Int32))), .val (.ref b11), .val (.ref b13), .val (.ref b15), .val (.int (0 : Int32)), .val (.int (1 : Int32))] [(.int (1 : Int32))])) _
        exact retN X20 hx (t := .boolean) Bd.returns (by simp) (hb hby at_202) hr
      · show Q0 Z p1 p2 w1 t1 kt h0 n0 _ T20.heap _
        rw [eq20]
        exact ⟨rfl, N20⟩
    · refine own_go (B := s₁.setTop (mkF m 54 #[.val (.int p1), .val (.int p2), .val (.int (p1 &&& (3 : Int32))), .val (.int (p2 &&& (1048575 : Int32))), .unset, .unset, .unset, .unset, .unset] [(.int (2 : Int32)), (.int (p1 &&& (3 : Int32)))])) (fun t k => ?_) ?_
      · show Steps p.tables e below (s₁.setTop (mkF m 28 #[.val (.int p1), .val (.int p2), .val (.int (p1 &&& (3 : Int32))), .val (.int (p2 &&& (1048575 : Int32))), .unset, .unset, .unset, .unset, .unset] [(.int (1 : Int32)), (.int (p1 &&& (3 : Int32)))])) _
        refine XS.icmpYes X0.here hx rfl (pc0 := 28) (pc' := 52) rfl (hb hby at_28) rfl (feq hc28_10).2 (by decide) (by decide) ?_
        show Steps p.tables e below (s₁.setTop (mkF m 52 #[.val (.int p1), .val (.int p2), .val (.int (p1 &&& (3 : Int32))), .val (.int (p2 &&& (1048575 : Int32))), .unset, .unset, .unset, .unset, .unset] [])) _
        refine XS.iloadN X0.here hx rfl (hb hby at_52) rfl ?_
        show Steps p.tables e below (s₁.setTop (mkF m 53 #[.val (.int p1), .val (.int p2), .val (.int (p1 &&& (3 : Int32))), .val (.int (p2 &&& (1048575 : Int32))), .unset, .unset, .unset, .unset, .unset] [(.int (p1 &&& (3 : Int32)))])) _
        refine XS.iconst X0.here hx rfl (hb hby at_53) ?_
        exact k
      by_cases hc54_21 : (p1 &&& (3 : Int32)) = (2 : Int32)
      · refine own_go (B := s₁.setTop (mkF m 58 #[.val (.int p1), .val (.int p2), .val (.int (p1 &&& (3 : Int32))), .val (.int (p2 &&& (1048575 : Int32))), .unset, .unset, .unset, .unset, .unset] [(.int (2 : Int32))])) (fun t k => ?_) ?_
        · show Steps p.tables e below (s₁.setTop (mkF m 54 #[.val (.int p1), .val (.int p2), .val (.int (p1 &&& (3 : Int32))), .val (.int (p2 &&& (1048575 : Int32))), .unset, .unset, .unset, .unset, .unset] [(.int (2 : Int32)), (.int (p1 &&& (3 : Int32)))])) _
          refine XS.icmpNo X0.here hx rfl (hb hby at_54) rfl (teq hc54_21).2 ?_
          show Steps p.tables e below (s₁.setTop (mkF m 57 #[.val (.int p1), .val (.int p2), .val (.int (p1 &&& (3 : Int32))), .val (.int (p2 &&& (1048575 : Int32))), .unset, .unset, .unset, .unset, .unset] [])) _
          refine XS.iconst X0.here hx rfl (hb hby at_57) ?_
          exact k
        obtain ⟨T22, h22, k22, X22, e22, E22, A22, st22⟩ := newP X0 hx hZ (hw _ (List.mem_of_getElem? (i := 1) rfl)) e0 (g := (mkF m 58 #[.val (.int p1), .val (.int p2), .val (.int (p1 &&& (3 : Int32))), .val (.int (p2 &&& (1048575 : Int32))), .unset, .unset, .unset, .unset, .unset] [(.int (2 : Int32))])) rfl (hb hby at_58) rfl (by decide) (cap := 2) (by decide) (by decide) (by decide) (by decide)
        obtain ⟨b22, g22⟩ : ∃ z, z = h0.size := ⟨_, rfl⟩
        rw [← g22] at A22 st22
        have g_b22 : n0 ≤ b22 := Nat.le_trans Z0 (Nat.le_of_eq g22.symm)
        have O22 := O0.ext E22
        have V22 : Arv Z h22 b22 k22 .int (2 : Int32) [(.int (0 : Int32)), (.int (0 : Int32))] (.int (0 : Int32)) := (Arv.new A22 (by decide)).pad (pad_rep [] (.int (0 : Int32)) 2)
        refine own_go (B := T22.setTop (mkF m 60 #[.val (.int p1), .val (.int p2), .val (.int (p1 &&& (3 : Int32))), .val (.int (p2 &&& (1048575 : Int32))), .unset, .unset, .unset, .unset, .unset] [(.ref b22)])) (fun t k => st22 _ k) ?_
        refine own_go (B := T22.setTop (mkF m 63 #[.val (.int p1), .val (.int p2), .val (.int (p1 &&& (3 : Int32))), .val (.int (p2 &&& (1048575 : Int32))), .unset, .unset, .unset, .unset, .unset] [(.int (p2 &&& (1048575 : Int32))), (.int (0 : Int32)), (.ref b22), (.ref b22)])) (fun t k => ?_) ?_
        · show Steps p.tables e below (T22.setTop (mkF m 60 #[.val (.int p1), .val (.int p2), .val (.int (p1 &&& (3 : Int32))), .val (.int (p2 &&& (1048575 : Int32))), .unset, .unset, .unset, .unset, .unset] [(.ref b22)])) _
          refine XS.dup X22.here hx rfl (hb hby at_60) rfl rfl ?_
          show Steps p.tables e below (T22.setTop (mkF m 61 #[.val (.int p1), .val (.int p2), .val (.int (p1 &&& (3 : Int32))), .val (.int (p2 &&& (1048575 : Int32))), .unset, .unset, .unset, .unset, .unset] [(.ref b22), (.ref b22)])) _
          refine XS.iconst X22.here hx rfl (hb hby at_61) ?_
          show Steps p.tables e below (T22.setTop (mkF m 62 #[.val (.int p1), .val (.int p2), .val (.int (p1 &&& (3 : Int32))), .val (.int (p2 &&& (1048575 : Int32))), .unset, .unset, .unset, .unset, .unset] [(.int (0 : Int32)), (.ref b22), (.ref b22)])) _
          refine XS.iloadN X22.here hx rfl (hb hby at_62) rfl ?_
          exact k
        obtain ⟨cl23, Ar23, qk23, S23, M23, H23, G23⟩ := id V22
        obtain ⟨T23, h23, X23, e23, W23, st23⟩ := stI X22 hx hZ e22 Ar23 (j := (0 : Int32)) (inb_of S23 ⟨by decide, by decide⟩) (g := (mkF m 63 #[.val (.int p1), .val (.int p2), .val (.int (p1 &&& (3 : Int32))), .val (.int (p2 &&& (1048575 : Int32))), .unset, .unset, .unset, .unset, .unset] [(.int (p2 &&& (1048575 : Int32))), (.int (0 : Int32)), (.ref b22), (.ref b22)])) rfl rfl (hb hby at_63)
        have V23 : Arv Z h23 b22 k22 .int (2 : Int32) [(.int (p2 &&& (1048575 : Int32))), (.int (0 : Int32))] (.int (0 : Int32)) := Arv.set Ar23 qk23 S23 M23 H23 G23 rfl W23 0 rfl (Nat.le_of_ble_eq_true rfl)
        have O23 := O22.wr W23 g_b22
        have N23 := Fr.snoc X23 N0 g_b22
        refine own_go (B := T23.setTop (mkF m 64 #[.val (.int p1), .val (.int p2), .val (.int (p1 &&& (3 : Int32))), .val (.int (p2 &&& (1048575 : Int32))), .unset, .unset, .unset, .unset, .unset] [(.ref b22)])) (fun t k => st23 _ k) ?_
        refine own_go (B := T23.setTop (mkF m 69 #[.val (.int p1), .val (.int p2), .val (.int (p1 &&& (3 : Int32))), .val (.int (p2 &&& (1048575 : Int32))), .unset, .unset, .unset, .unset, .unset] [(.int ((p2 &&& (1048575 : Int32)) + (1 : Int32))), (.int (1 : Int32)), (.ref b22), (.ref b22)])) (fun t k => ?_) ?_
        · show Steps p.tables e below (T23.setTop (mkF m 64 #[.val (.int p1), .val (.int p2), .val (.int (p1 &&& (3 : Int32))), .val (.int (p2 &&& (1048575 : Int32))), .unset, .unset, .unset, .unset, .unset] [(.ref b22)])) _
          refine XS.dup X23.here hx rfl (hb hby at_64) rfl rfl ?_
          show Steps p.tables e below (T23.setTop (mkF m 65 #[.val (.int p1), .val (.int p2), .val (.int (p1 &&& (3 : Int32))), .val (.int (p2 &&& (1048575 : Int32))), .unset, .unset, .unset, .unset, .unset] [(.ref b22), (.ref b22)])) _
          refine XS.iconst X23.here hx rfl (hb hby at_65) ?_
          show Steps p.tables e below (T23.setTop (mkF m 66 #[.val (.int p1), .val (.int p2), .val (.int (p1 &&& (3 : Int32))), .val (.int (p2 &&& (1048575 : Int32))), .unset, .unset, .unset, .unset, .unset] [(.int (1 : Int32)), (.ref b22), (.ref b22)])) _
          refine XS.iloadN X23.here hx rfl (hb hby at_66) rfl ?_
          show Steps p.tables e below (T23.setTop (mkF m 67 #[.val (.int p1), .val (.int p2), .val (.int (p1 &&& (3 : Int32))), .val (.int (p2 &&& (1048575 : Int32))), .unset, .unset, .unset, .unset, .unset] [(.int (p2 &&& (1048575 : Int32))), (.int (1 : Int32)), (.ref b22), (.ref b22)])) _
          refine XS.iconst X23.here hx rfl (hb hby at_67) ?_
          show Steps p.tables e below (T23.setTop (mkF m 68 #[.val (.int p1), .val (.int p2), .val (.int (p1 &&& (3 : Int32))), .val (.int (p2 &&& (1048575 : Int32))), .unset, .unset, .unset, .unset, .unset] [(.int (1 : Int32)), (.int (p2 &&& (1048575 : Int32))), (.int (1 : Int32)), (.ref b22), (.ref b22)])) _
          refine XS.iadd X23.here hx rfl (hb hby at_68) rfl ?_
          exact k
        obtain ⟨cl24, Ar24, qk24, S24, M24, H24, G24⟩ := id V23
        obtain ⟨T24, h24, X24, e24, W24, st24⟩ := stI X23 hx hZ e23 Ar24 (j := (1 : Int32)) (inb_of S24 ⟨by decide, by decide⟩) (g := (mkF m 69 #[.val (.int p1), .val (.int p2), .val (.int (p1 &&& (3 : Int32))), .val (.int (p2 &&& (1048575 : Int32))), .unset, .unset, .unset, .unset, .unset] [(.int ((p2 &&& (1048575 : Int32)) + (1 : Int32))), (.int (1 : Int32)), (.ref b22), (.ref b22)])) rfl rfl (hb hby at_69)
        have V24 : Arv Z h24 b22 k22 .int (2 : Int32) [(.int (p2 &&& (1048575 : Int32))), (.int ((p2 &&& (1048575 : Int32)) + (1 : Int32)))] (.int (0 : Int32)) := Arv.set Ar24 qk24 S24 M24 H24 G24 rfl W24 1 rfl (Nat.le_of_ble_eq_true rfl)
        have O24 := O23.wr W24 g_b22
        have N24 := Fr.snoc X24 N23 g_b22
        refine own_go (B := T24.setTop (mkF m 70 #[.val (.int p1), .val (.int p2), .val (.int (p1 &&& (3 : Int32))), .val (.int (p2 &&& (1048575 : Int32))), .unset, .unset, .unset, .unset, .unset] [(.ref b22)])) (fun t k => st24 _ k) ?_
        refine own_go (B := T24.setTop (mkF m 73 #[.val (.int p1), .val (.int p2), .val (.int (p1 &&& (3 : Int32))), .val (.int (p2 &&& (1048575 : Int32))), .val (.ref b22), .unset, .unset, .unset, .unset] [(.int (2 : Int32))])) (fun t k => ?_) ?_
        · show Steps p.tables e below (T24.setTop (mkF m 70 #[.val (.int p1), .val (.int p2), .val (.int (p1 &&& (3 : Int32))), .val (.int (p2 &&& (1048575 : Int32))), .unset, .unset, .unset, .unset, .unset] [(.ref b22)])) _
          refine XS.astore X24.here hx rfl (hb hby at_70) rfl rfl (l' := #[.val (.int p1), .val (.int p2), .val (.int (p1 &&& (3 : Int32))), .val (.int (p2 &&& (1048575 : Int32))), .val (.ref b22), .unset, .unset, .unset, .unset]) rfl ?_
          show Steps p.tables e below (T24.setTop (mkF m 72 #[.val (.int p1), .val (.int p2), .val (.int (p1 &&& (3 : Int32))), .val (.int (p2 &&& (1048575 : Int32))), .val (.ref b22), .unset, .unset, .unset, .unset] [])) _
          refine XS.iconst X24.here hx rfl (hb hby at_72) ?_
          exact k
        obtain ⟨T25, h25, k25, X25, e25, E25, A25, st25⟩ := newP X24 hx hZ (hw _ (List.mem_of_getElem? (i := 2) rfl)) e24 (g := (mkF m 73 #[.val (.int p1), .val (.int p2), .val (.int (p1 &&& (3 : Int32))), .val (.int (p2 &&& (1048575 : Int32))), .val (.ref b22), .unset, .unset, .unset, .unset] [(.int (2 : Int32))])) rfl (hb hby at_73) rfl (by decide) (cap := 2) (by decide) (by decide) (by decide) (by decide)
        obtain ⟨b25, g25⟩ : ∃ z, z = h24.size := ⟨_, rfl⟩
        rw [← g25] at A25 st25
        have g_b25 : n0 ≤ b25 := Nat.le_trans (Nat.le_trans (Nat.le_trans (Nat.le_trans Z0 E22.1) (Keep.of_wr W23).1) (Keep.of_wr W24).1) (Nat.le_of_eq g25.symm)
        have ne_b22_b25 : b22 ≠ b25 := Nat.ne_of_lt (Nat.lt_of_lt_of_le V24.lt (Nat.le_of_eq g25.symm))
        have c25_V_b22 := V24.ext E25
        have O25 := O24.ext E25
        have V25 : Arv Z h25 b25 k25 .double (2 : Int32) [(.double (0 : UInt64)), (.double (0 : UInt64))] (.double (0 : UInt64)) := (Arv.new A25 (by decide)).pad (pad_rep [] (.double (0 : UInt64)) 2)
        refine own_go (B := T25.setTop (mkF m 75 #[.val (.int p1), .val (.int p2), .val (.int (p1 &&& (3 : Int32))), .val (.int (p2 &&& (1048575 : Int32))), .val (.ref b22), .unset, .unset, .unset, .unset] [(.ref b25)])) (fun t k => st25 _ k) ?_
        refine own_go (B := T25.setTop (mkF m 78 #[.val (.int p1), .val (.int p2), .val (.int (p1 &&& (3 : Int32))), .val (.int (p2 &&& (1048575 : Int32))), .val (.ref b22), .unset, .unset, .unset, .unset] [(.double FP.dconst1), (.int (0 : Int32)), (.ref b25), (.ref b25)])) (fun t k => ?_) ?_
        · show Steps p.tables e below (T25.setTop (mkF m 75 #[.val (.int p1), .val (.int p2), .val (.int (p1 &&& (3 : Int32))), .val (.int (p2 &&& (1048575 : Int32))), .val (.ref b22), .unset, .unset, .unset, .unset] [(.ref b25)])) _
          refine XS.dup X25.here hx rfl (hb hby at_75) rfl rfl ?_
          show Steps p.tables e below (T25.setTop (mkF m 76 #[.val (.int p1), .val (.int p2), .val (.int (p1 &&& (3 : Int32))), .val (.int (p2 &&& (1048575 : Int32))), .val (.ref b22), .unset, .unset, .unset, .unset] [(.ref b25), (.ref b25)])) _
          refine XS.iconst X25.here hx rfl (hb hby at_76) ?_
          show Steps p.tables e below (T25.setTop (mkF m 77 #[.val (.int p1), .val (.int p2), .val (.int (p1 &&& (3 : Int32))), .val (.int (p2 &&& (1048575 : Int32))), .val (.ref b22), .unset, .unset, .unset, .unset] [(.int (0 : Int32)), (.ref b25), (.ref b25)])) _
          refine XS.dconst1 X25.here hx rfl (hb hby at_77) rfl ?_
          exact k
        obtain ⟨cl26, Ar26, qk26, S26, M26, H26, G26⟩ := id V25
        obtain ⟨T26, h26, X26, e26, W26, st26⟩ := stD X25 hx hZ e25 Ar26 (j := (0 : Int32)) (inb_of S26 ⟨by decide, by decide⟩) (g := (mkF m 78 #[.val (.int p1), .val (.int p2), .val (.int (p1 &&& (3 : Int32))), .val (.int (p2 &&& (1048575 : Int32))), .val (.ref b22), .unset, .unset, .unset, .unset] [(.double FP.dconst1), (.int (0 : Int32)), (.ref b25), (.ref b25)])) rfl rfl (hb hby at_78)
        have V26 : Arv Z h26 b25 k25 .double (2 : Int32) [(.double FP.dconst1), (.double (0 : UInt64))] (.double (0 : UInt64)) := Arv.set Ar26 qk26 S26 M26 H26 G26 rfl W26 0 rfl (Nat.le_of_ble_eq_true rfl)
        have c26_V_b22 := c25_V_b22.other W26 ne_b22_b25
        have O26 := O25.wr W26 g_b25
        have N26 := Fr.snoc X26 N24 g_b25
        refine own_go (B := T26.setTop (mkF m 79 #[.val (.int p1), .val (.int p2), .val (.int (p1 &&& (3 : Int32))), .val (.int (p2 &&& (1048575 : Int32))), .val (.ref b22), .unset, .unset, .unset, .unset] [(.ref b25)])) (fun t k => st26 _ k) ?_
        refine own_go (B := T26.setTop (mkF m 82 #[.val (.int p1), .val (.int p2), .val (.int (p1 &&& (3 : Int32))), .val (.int (p2 &&& (1048575 : Int32))), .val (.ref b22), .unset, .unset, .unset, .unset] [(.double FP.dconst1), (.int (1 : Int32)), (.ref b25), (.ref b25)])) (fun t k => ?_) ?_
        · show Steps p.tables e below (T26.setTop (mkF m 79 #[.val (.int p1), .val (.int p2), .val (.int (p1 &&& (3 : Int32))), .val (.int (p2 &&& (1048575 : Int32))), .val (.ref b22), .unset, .unset, .unset, .unset] [(.ref b25)])) _
          refine XS.dup X26.here hx rfl (hb hby at_79) rfl rfl ?_
          show Steps p.tables e below (T26.setTop (mkF m 80 #[.val (.int p1), .val (.int p2), .val (.int (p1 &&& (3 : Int32))), .val (.int (p2 &&& (1048575 : Int32))), .val (.ref b22), .unset, .unset, .unset, .unset] [(.ref b25), (.ref b25)])) _
          refine XS.iconst X26.here hx rfl (hb hby at_80) ?_
          show Steps p.tables e below (T26.setTop (mkF m 81 #[.val (.int p1), .val (.int p2), .val (.int (p1 &&& (3 : Int32))), .val (.int (p2 &&& (1048575 : Int32))), .val (.ref b22), .unset, .unset, .unset, .unset] [(.int (1 : Int32)), (.ref b25), (.ref b25)])) _
          refine XS.dconst1 X26.here hx rfl (hb hby at_81) rfl ?_
          exact k
        obtain ⟨cl27, Ar27, qk27, S27, M27, H27, G27⟩ := id V26
        obtain ⟨T27, h27, X27, e27, W27, st27⟩ := stD X26 hx hZ e26 Ar27 (j := (1 : Int32)) (inb_of S27 ⟨by decide, by decide⟩) (g := (mkF m 82 #[.val (.int p1), .val (.int p2), .val (.int (p1 &&& (3 : Int32))), .val (.int (p2 &&& (1048575 : Int32))), .val (.ref b22), .unset, .unset, .unset, .unset] [(.double FP.dconst1), (.int (1 : Int32)), (.ref b25), (.ref b25)])) rfl rfl (hb hby at_82)
        have V27 : Arv Z h27 b25 k25 .double (2 : Int32) [(.double FP.dconst1), (.double FP.dconst1)] (.double (0 : UInt64)) := Arv.set Ar27 qk27 S27 M27 H27 G27 rfl W27 1 rfl (Nat.le_of_ble_eq_true rfl)
        have c27_V_b22 := c26_V_b22.other W27 ne_b22_b25
        have O27 := O26.wr W27 g_b25
        have N27 := Fr.snoc X27 N26 g_b25
        refine own_go (B := T27.setTop (mkF m 83 #[.val (.int p1), .val (.int p2), .val (.int (p1 &&& (3 : Int32))), .val (.int (p2 &&& (1048575 : Int32))), .val (.ref b22), .unset, .unset, .unset, .unset] [(.ref b25)])) (fun t k => st27 _ k) ?_
        refine own_go (B := T27.setTop (mkF m 126 #[.val (.int p1), .val (.int p2), .val (.int (p1 &&& (3 : Int32))), .val (.int (p2 &&& (1048575 : Int32))), .val (.ref b22), .val (.ref b25), .unset, .unset, .unset] [])) (fun t k => ?_) ?_
        · show Steps p.tables e below (T27.setTop (mkF m 83 #[.val (.int p1), .val (.int p2), .val (.int (p1 &&& (3 : Int32))), .val (.int (p2 &&& (1048575 : Int32))), .val (.ref b22), .unset, .unset, .unset, .unset] [(.ref b25)])) _
          refine XS.astore X27.here hx rfl (hb hby at_83) rfl rfl (l' := #[.val (.int p1), .val (.int p2), .val (.int (p1 &&& (3 : Int32))), .val (.int (p2 &&& (1048575 : Int32))), .val (.ref b22), .val (.ref b25), .unset, .unset, .unset]) rfl ?_
          show Steps p.tables e below (T27.setTop (mkF m 85 #[.val (.int p1), .val (.int p2), .val (.int (p1 &&& (3 : Int32))), .val (.int (p2 &&& (1048575 : Int32))), .val (.ref b22), .val (.ref b25), .unset, .unset, .unset] [])) _
          refine XS.goto X27.here hx rfl (pc0 := 85) (pc' := 126) rfl (hb hby at_85) (by decide) (by decide) ?_
          exact k
        obtain ⟨T28, h28, X28, e28, E28, A28, D28, -, st28⟩ := newO X27 hx hZ hown (hw _ (List.mem_of_getElem? (i := 3) rfl)) (hw _ (List.mem_of_getElem? (i := 4) rfl)) (hw _ (List.mem_of_getElem? (i := 5) rfl)) e27 (g := (mkF m 126 #[.val (.int p1), .val (.int p2), .val (.int (p1 &&& (3 : Int32))), .val (.int (p2 &&& (1048575 : Int32))), .val (.ref b22), .val (.ref b25), .unset, .unset, .unset] [])) rfl (hb hby at_126) (by decide) (by decide)
        obtain ⟨b28, g28⟩ : ∃ z, z = h27.size := ⟨_, rfl⟩
        rw [← g28] at A28 D28 st28
        have g_b28 : n0 ≤ b28 := Nat.le_trans (Nat.le_trans (Nat.le_trans (Nat.le_trans (Nat.le_trans (Nat.le_trans (Nat.le_trans Z0 E22.1) (Keep.of_wr W23).1) (Keep.of_wr W24).1) E25.1) (Keep.of_wr W26).1) (Keep.of_wr W27).1) (Nat.le_of_eq g28.symm)
        have ne_b22_b28 : b22 ≠ b28 := Nat.ne_of_lt (Nat.lt_of_lt_of_le c27_V_b22.lt (Nat.le_of_eq g28.symm))
        have ne_b25_b28 : b25 ≠ b28 := Nat.ne_of_lt (Nat.lt_of_lt_of_le V27.lt (Nat.le_of_eq g28.symm))
        have c28_V_b22 := c27_V_b22.ext E28
        have c28_V_b25 := V27.ext E28
        have O28 := O27.ext E28
        have F28_terms : Fld Z h28 b28 "com/example/muster/muster/TermVector" "terms" "[I" .null := D28 (Or.inr (hw _ (List.mem_of_getElem? (i := 13) rfl))) (ty := (.array .int)) (by decide)
        have F28_weights : Fld Z h28 b28 "com/example/muster/muster/TermVector" "weights" "[D" .null := D28 (Or.inr (hw _ (List.mem_of_getElem? (i := 15) rfl))) (ty := (.array .double)) (by decide)
        refine own_go (B := T28.setTop (mkF m 129 #[.val (.int p1), .val (.int p2), .val (.int (p1 &&& (3 : Int32))), .val (.int (p2 &&& (1048575 : Int32))), .val (.ref b22), .val (.ref b25), .unset, .unset, .unset] [(.ref b28)])) (fun t k => st28 _ k) ?_
        refine own_go (B := T28.setTop (mkF m 134 #[.val (.int p1), .val (.int p2), .val (.int (p1 &&& (3 : Int32))), .val (.int (p2 &&& (1048575 : Int32))), .val (.ref b22), .val (.ref b25), .unset, .unset, .unset] [(.ref b25), (.ref b22), (.ref b28), (.ref b28)])) (fun t k => ?_) ?_
        · show Steps p.tables e below (T28.setTop (mkF m 129 #[.val (.int p1), .val (.int p2), .val (.int (p1 &&& (3 : Int32))), .val (.int (p2 &&& (1048575 : Int32))), .val (.ref b22), .val (.ref b25), .unset, .unset, .unset] [(.ref b28)])) _
          refine XS.dup X28.here hx rfl (hb hby at_129) rfl rfl ?_
          show Steps p.tables e below (T28.setTop (mkF m 130 #[.val (.int p1), .val (.int p2), .val (.int (p1 &&& (3 : Int32))), .val (.int (p2 &&& (1048575 : Int32))), .val (.ref b22), .val (.ref b25), .unset, .unset, .unset] [(.ref b28), (.ref b28)])) _
          refine XS.aload X28.here hx rfl (hb hby at_130) rfl rfl ?_
          show Steps p.tables e below (T28.setTop (mkF m 132 #[.val (.int p1), .val (.int p2), .val (.int (p1 &&& (3 : Int32))), .val (.int (p2 &&& (1048575 : Int32))), .val (.ref b22), .val (.ref b25), .unset, .unset, .unset] [(.ref b22), (.ref b28), (.ref b28)])) _
          refine XS.aload X28.here hx rfl (hb hby at_132) rfl rfl ?_
          exact k
        obtain ⟨_, _, ⟨T29, L29, k29, n29⟩, -, X29, ⟨Lc29, hQ29, l29, y29, z29⟩, st29⟩ := X28.specialBack hx (y := (⟨"com/example/muster/muster/TermVector", "<init>", "([I[D)V"⟩ : MethodName)) rfl hown (mvT hZ (hw _ (List.mem_of_getElem? (i := 6) rfl))) (mvT hZ (hw _ (List.mem_of_getElem? (i := 7) rfl))) (mvT hZ (hw _ (List.mem_of_getElem? (i := 8) rfl))) (by decide) (backOf (W := 1) (rm1 l Z a0 hw [] b28 b22 b25 h28 n0 (Nat.le_trans (Nat.le_trans (Nat.le_trans (Nat.le_trans (Nat.le_trans (Nat.le_trans (Nat.le_trans Z0 E22.1) (Keep.of_wr W23).1) (Keep.of_wr W24).1) E25.1) (Keep.of_wr W26).1) (Keep.of_wr W27).1) E28.1) A28 g_b28 F28_terms F28_weights) hZ (hw _ (List.mem_of_getElem? (i := 8) rfl)) (hw _ (List.mem_of_getElem? (i := 5) rfl)) (by decide) (by decide)) (g := (mkF m 134 #[.val (.int p1), .val (.int p2), .val (.int (p1 &&& (3 : Int32))), .val (.int (p2 &&& (1048575 : Int32))), .val (.ref b22), .val (.ref b25), .unset, .unset, .unset] [(.ref b25), (.ref b22), (.ref b28), (.ref b28)])) rfl (by rw [hml]; rfl) (Steps.refl _) (a := b28) (argsL := [(.ref b22), (.ref b25)]) (rest := [(.ref b28)]) (lenOf own_pd0 rfl) rfl (by show 2 * 0 + _ ≤ _; exact Nat.le_of_eq rfl) (hb hby at_134) (fun _ _ => ⟨rfl, e28, (by decide : 3 + 0 ≤ _), (by decide : 6 + 0 ≤ _)⟩)
        dsimp only [Pt.U, Pt.locs, Pt.cells, Pt.slots] at X29 l29 y29 z29 st29 hQ29
        subst l29 y29 z29
        obtain ⟨rfl, N29q, K29q, E29q, F29t⟩ := hQ29
        have N29 := Fr.app N27 N29q
        have c29_V_b22 := c28_V_b22.keep K29q (fun q => ne_b22_b28 (List.mem_singleton.mp q))
        have c29_V_b25 := c28_V_b25.keep K29q (fun q => ne_b25_b28 (List.mem_singleton.mp q))
        have O29 := O28.keep K29q (allS g_b28 all0)
        refine own_go (B := T29.setTop (mkF m 137 #[.val (.int p1), .val (.int p2), .val (.int (p1 &&& (3 : Int32))), .val (.int (p2 &&& (1048575 : Int32))), .val (.ref b22), .val (.ref b25), .unset, .unset, .unset] [(.ref b28)])) (fun t k => st29.trans k) ?_
        refine own_go (B := T29.setTop (mkF m 141 #[.val (.int p1), .val (.int p2), .val (.int (p1 &&& (3 : Int32))), .val (.int (p2 &&& (1048575 : Int32))), .val (.ref b22), .val (.ref b25), .val (.ref b28), .unset, .unset] [(.ref b28)])) (fun t k => ?_) ?_
        · show Steps p.tables e below (T29.setTop (mkF m 137 #[.val (.int p1), .val (.int p2), .val (.int (p1 &&& (3 : Int32))), .val (.int (p2 &&& (1048575 : Int32))), .val (.ref b22), .val (.ref b25), .unset, .unset, .unset] [(.ref b28)])) _
          refine XS.astore X29.here hx rfl (hb hby at_137) rfl rfl (l' := #[.val (.int p1), .val (.int p2), .val (.int (p1 &&& (3 : Int32))), .val (.int (p2 &&& (1048575 : Int32))), .val (.ref b22), .val (.ref b25), .val (.ref b28), .unset, .unset]) rfl ?_
          show Steps p.tables e below (T29.setTop (mkF m 139 #[.val (.int p1), .val (.int p2), .val (.int (p1 &&& (3 : Int32))), .val (.int (p2 &&& (1048575 : Int32))), .val (.ref b22), .val (.ref b25), .val (.ref b28), .unset, .unset] [])) _
          refine XS.aload X29.here hx rfl (hb hby at_139) rfl rfl ?_
          exact k
        obtain ⟨cq30, kq30, q30a, q30b, q30c⟩ := isOf hZ rfl E29q
        obtain ⟨_, _, ⟨T30, L30, k30, n30⟩, -, X30, ⟨Lc30, hQ30, l30, y30, z30⟩, st30⟩ := X29.virtualBack hx (y := (⟨"com/example/muster/muster/TermVector", "isEmpty", "()Z"⟩ : MethodName)) (z := (⟨"com/example/muster/muster/TermVector", "isEmpty", "()Z"⟩ : MethodName)) hown (mvT hZ (hw _ (List.mem_of_getElem? (i := 16) rfl))) (mvT hZ (hw _ (List.mem_of_getElem? (i := 17) rfl))) (notFace_of_selects (args := #[]) (mvT hZ (hw _ (List.mem_of_getElem? (i := 19) rfl)))) (mvT hZ (hw _ (List.mem_of_getElem? (i := 19) rfl))) (mvT hZ (hw _ (List.mem_of_getElem? (i := 18) rfl))) (by decide) (backOf (W := 0) (rm3 l Z a0 hw [] b28 b22 k22 (2 : Int32) [(.int (p2 &&& (1048575 : Int32))), (.int ((p2 &&& (1048575 : Int32)) + (1 : Int32)))] (.int (0 : Int32)) (0 : Int32) T29.heap n0 (Nat.le_trans (Nat.le_trans (Nat.le_trans (Nat.le_trans (Nat.le_trans (Nat.le_trans (Nat.le_trans (Nat.le_trans Z0 E22.1) (Keep.of_wr W23).1) (Keep.of_wr W24).1) E25.1) (Keep.of_wr W26).1) (Keep.of_wr W27).1) E28.1) K29q.1) F29t c29_V_b22 (by decide)) hZ (hw _ (List.mem_of_getElem? (i := 20) rfl)) (hw _ (List.mem_of_getElem? (i := 5) rfl)) (by decide) (by decide)) q30a q30c (g := (mkF m 141 #[.val (.int p1), .val (.int p2), .val (.int (p1 &&& (3 : Int32))), .val (.int (p2 &&& (1048575 : Int32))), .val (.ref b22), .val (.ref b25), .val (.ref b28), .unset, .unset] [(.ref b28)])) rfl (by rw [hml]; rfl) (Steps.refl _) (argsL := []) (rest := []) (lenOf own_pd1 rfl) rfl (by show 2 * 0 + _ ≤ _; exact Nat.le_of_eq rfl) (hb hby at_141) (fun _ _ => ⟨rfl, rfl, (by decide : 3 + 0 ≤ _), (by decide : 6 + 0 ≤ _)⟩)
        dsimp only [Pt.U, Pt.locs, Pt.cells, Pt.slots] at X30 l30 y30 z30 st30 hQ30
        subst l30 y30 z30
        obtain ⟨rfl, N30q, eq30⟩ := hQ30
        have N30 := Fr.app N29 N30q
        refine own_go (B := T30.setTop (mkF m 144 #[.val (.int p1), .val (.int p2), .val (.int (p1 &&& (3 : Int32))), .val (.int (p2 &&& (1048575 : Int32))), .val (.ref b22), .val (.ref b25), .val (.ref b28), .unset, .unset] [(.int (0 : Int32))])) (fun t k => st30.trans k) ?_
        refine own_go (B := T30.setTop (mkF m 148 #[.val (.int p1), .val (.int p2), .val (.int (p1 &&& (3 : Int32))), .val (.int (p2 &&& (1048575 : Int32))), .val (.ref b22), .val (.ref b25), .val (.ref b28), .val (.int (0 : Int32)), .unset] [(.ref b28)])) (fun t k => ?_) ?_
        · show Steps p.tables e below (T30.setTop (mkF m 144 #[.val (.int p1), .val (.int p2), .val (.int (p1 &&& (3 : Int32))), .val (.int (p2 &&& (1048575 : Int32))), .val (.ref b22), .val (.ref b25), .val (.ref b28), .unset, .unset] [(.int (0 : Int32))])) _
          refine XS.istore X30.here hx rfl (hb hby at_144) rfl (l' := #[.val (.int p1), .val (.int p2), .val (.int (p1 &&& (3 : Int32))), .val (.int (p2 &&& (1048575 : Int32))), .val (.ref b22), .val (.ref b25), .val (.ref b28), .val (.int (0 : Int32)), .unset]) rfl ?_
          show Steps p.tables e below (T30.setTop (mkF m 146 #[.val (.int p1), .val (.int p2), .val (.int (p1 &&& (3 : Int32))), .val (.int (p2 &&& (1048575 : Int32))), .val (.ref b22), .val (.ref b25), .val (.ref b28), .val (.int (0 : Int32)), .unset] [])) _
          refine XS.aload X30.here hx rfl (hb hby at_146) rfl rfl ?_
          exact k
        obtain ⟨cq31, kq31, q31a, q31b, q31c⟩ := isOf hZ eq30 E29q
        obtain ⟨_, _, ⟨T31, L31, k31, n31⟩, -, X31, ⟨Lc31, hQ31, l31, y31, z31⟩, st31⟩ := X30.virtualBack hx (y := (⟨"com/example/muster/muster/TermVector", "size", "()I"⟩ : MethodName)) (z := (⟨"com/example/muster/muster/TermVector", "size", "()I"⟩ : MethodName)) hown (mvT hZ (hw _ (List.mem_of_getElem? (i := 21) rfl))) (mvT hZ (hw _ (List.mem_of_getElem? (i := 22) rfl))) (notFace_of_selects (args := #[]) (mvT hZ (hw _ (List.mem_of_getElem? (i := 24) rfl)))) (mvT hZ (hw _ (List.mem_of_getElem? (i := 24) rfl))) (mvT hZ (hw _ (List.mem_of_getElem? (i := 23) rfl))) (by decide) (backOf (W := 0) (rm4 l Z a0 hw [] b28 b22 k22 (2 : Int32) [(.int (p2 &&& (1048575 : Int32))), (.int ((p2 &&& (1048575 : Int32)) + (1 : Int32)))] (.int (0 : Int32)) T29.heap n0 (Nat.le_trans (Nat.le_trans (Nat.le_trans (Nat.le_trans (Nat.le_trans (Nat.le_trans (Nat.le_trans (Nat.le_trans Z0 E22.1) (Keep.of_wr W23).1) (Keep.of_wr W24).1) E25.1) (Keep.of_wr W26).1) (Keep.of_wr W27).1) E28.1) K29q.1) F29t c29_V_b22) hZ (hw _ (List.mem_of_getElem? (i := 25) rfl)) (hw _ (List.mem_of_getElem? (i := 5) rfl)) (by decide) (by decide)) q31a q31c (g := (mkF m 148 #[.val (.int p1), .val (.int p2), .val (.int (p1 &&& (3 : Int32))), .val (.int (p2 &&& (1048575 : Int32))), .val (.ref b22), .val (.ref b25), .val (.ref b28), .val (.int (0 : Int32)), .unset] [(.ref b28)])) rfl (by rw [hml]; rfl) (Steps.refl _) (argsL := []) (rest := []) (lenOf own_pd2 rfl) rfl (by show 2 * 0 + _ ≤ _; exact Nat.le_of_eq rfl) (hb hby at_148) (fun _ _ => ⟨rfl, eq30, (by decide : 3 + 0 ≤ _), (by decide : 6 + 0 ≤ _)⟩)
        dsimp only [Pt.U, Pt.locs, Pt.cells, Pt.slots] at X31 l31 y31 z31 st31 hQ31
        subst l31 y31 z31
        obtain ⟨rfl, N31q, eq31⟩ := hQ31
        have N31 := Fr.app N30 N31q
        refine own_go (B := T31.setTop (mkF m 151 #[.val (.int p1), .val (.int p2), .val (.int (p1 &&& (3 : Int32))), .val (.int (p2 &&& (1048575 : Int32))), .val (.ref b22), .val (.ref b25), .val (.ref b28), .val (.int (0 : Int32)), .unset] [(.int (2 : Int32))])) (fun t k => st31.trans k) ?_
        refine own_go (B := T31.setTop (mkF m 188 #[.val (.int p1), .val (.int p2), .val (.int (p1 &&& (3 : Int32))), .val (.int (p2 &&& (1048575 : Int32))), .val (.ref b22), .val (.ref b25), .val (.ref b28), .val (.int (0 : Int32)), .val (.int (2 : Int32))] [])) (fun t k => ?_) ?_
        · show Steps p.tables e below (T31.setTop (mkF m 151 #[.val (.int p1), .val (.int p2), .val (.int (p1 &&& (3 : Int32))), .val (.int (p2 &&& (1048575 : Int32))), .val (.ref b22), .val (.ref b25), .val (.ref b28), .val (.int (0 : Int32)), .unset] [(.int (2 : Int32))])) _
          refine XS.istore X31.here hx rfl (hb hby at_151) rfl (l' := #[.val (.int p1), .val (.int p2), .val (.int (p1 &&& (3 : Int32))), .val (.int (p2 &&& (1048575 : Int32))), .val (.ref b22), .val (.ref b25), .val (.ref b28), .val (.int (0 : Int32)), .val (.int (2 : Int32))]) rfl ?_
          show Steps p.tables e below (T31.setTop (mkF m 153 #[.val (.int p1), .val (.int p2), .val (.int (p1 &&& (3 : Int32))), .val (.int (p2 &&& (1048575 : Int32))), .val (.ref b22), .val (.ref b25), .val (.ref b28), .val (.int (0 : Int32)), .val (.int (2 : Int32))] [])) _
          refine XS.iload X31.here hx rfl (hb hby at_153) rfl ?_
          show Steps p.tables e below (T31.setTop (mkF m 155 #[.val (.int p1), .val (.int p2), .val (.int (p1 &&& (3 : Int32))), .val (.int (p2 &&& (1048575 : Int32))), .val (.ref b22), .val (.ref b25), .val (.ref b28), .val (.int (0 : Int32)), .val (.int (2 : Int32))] [(.int (0 : Int32))])) _
          refine XS.iloadN X31.here hx rfl (hb hby at_155) rfl ?_
          show Steps p.tables e below (T31.setTop (mkF m 156 #[.val (.int p1), .val (.int p2), .val (.int (p1 &&& (3 : Int32))), .val (.int (p2 &&& (1048575 : Int32))), .val (.ref b22), .val (.ref b25), .val (.ref b28), .val (.int (0 : Int32)), .val (.int (2 : Int32))] [(.int (p1 &&& (3 : Int32))), (.int (0 : Int32))])) _
          refine XS.ifYes X31.here hx rfl (pc0 := 156) (pc' := 163) rfl (hb hby at_156) rfl ((if0 _ _).trans (feq hc10_1).2) (by decide) (by decide) ?_
          show Steps p.tables e below (T31.setTop (mkF m 163 #[.val (.int p1), .val (.int p2), .val (.int (p1 &&& (3 : Int32))), .val (.int (p2 &&& (1048575 : Int32))), .val (.ref b22), .val (.ref b25), .val (.ref b28), .val (.int (0 : Int32)), .val (.int (2 : Int32))] [(.int (0 : Int32))])) _
          refine XS.iconst X31.here hx rfl (hb hby at_163) ?_
          show Steps p.tables e below (T31.setTop (mkF m 164 #[.val (.int p1), .val (.int p2), .val (.int (p1 &&& (3 : Int32))), .val (.int (p2 &&& (1048575 : Int32))), .val (.ref b22), .val (.ref b25), .val (.ref b28), .val (.int (0 : Int32)), .val (.int (2 : Int32))] [(.int (0 : Int32)), (.int (0 : Int32))])) _
          refine XS.icmpNo X31.here hx rfl (hb hby at_164) rfl (teq (by decide)).2 ?_
          show Steps p.tables e below (T31.setTop (mkF m 167 #[.val (.int p1), .val (.int p2), .val (.int (p1 &&& (3 : Int32))), .val (.int (p2 &&& (1048575 : Int32))), .val (.ref b22), .val (.ref b25), .val (.ref b28), .val (.int (0 : Int32)), .val (.int (2 : Int32))] [])) _
          refine XS.iload X31.here hx rfl (hb hby at_167) rfl ?_
          show Steps p.tables e below (T31.setTop (mkF m 169 #[.val (.int p1), .val (.int p2), .val (.int (p1 &&& (3 : Int32))), .val (.int (p2 &&& (1048575 : Int32))), .val (.ref b22), .val (.ref b25), .val (.ref b28), .val (.int (0 : Int32)), .val (.int (2 : Int32))] [(.int (2 : Int32))])) _
          refine XS.iloadN X31.here hx rfl (hb hby at_169) rfl ?_
          show Steps p.tables e below (T31.setTop (mkF m 170 #[.val (.int p1), .val (.int p2), .val (.int (p1 &&& (3 : Int32))), .val (.int (p2 &&& (1048575 : Int32))), .val (.ref b22), .val (.ref b25), .val (.ref b28), .val (.int (0 : Int32)), .val (.int (2 : Int32))] [(.int (p1 &&& (3 : Int32))), (.int (2 : Int32))])) _
          refine XS.icmpNo X31.here hx rfl (hb hby at_170) rfl (teq hc54_21.symm).2 ?_
          show Steps p.tables e below (T31.setTop (mkF m 173 #[.val (.int p1), .val (.int p2), .val (.int (p1 &&& (3 : Int32))), .val (.int (p2 &&& (1048575 : Int32))), .val (.ref b22), .val (.ref b25), .val (.ref b28), .val (.int (0 : Int32)), .val (.int (2 : Int32))] [])) _
          refine XS.iload X31.here hx rfl (hb hby at_173) rfl ?_
          show Steps p.tables e below (T31.setTop (mkF m 175 #[.val (.int p1), .val (.int p2), .val (.int (p1 &&& (3 : Int32))), .val (.int (p2 &&& (1048575 : Int32))), .val (.ref b22), .val (.ref b25), .val (.ref b28), .val (.int (0 : Int32)), .val (.int (2 : Int32))] [(.int (0 : Int32))])) _
          refine XS.iload X31.here hx rfl (hb hby at_175) rfl ?_
          show Steps p.tables e below (T31.setTop (mkF m 177 #[.val (.int p1), .val (.int p2), .val (.int (p1 &&& (3 : Int32))), .val (.int (p2 &&& (1048575 : Int32))), .val (.ref b22), .val (.ref b25), .val (.ref b28), .val (.int (0 : Int32)), .val (.int (2 : Int32))] [(.int (2 : Int32)), (.int (0 : Int32))])) _
          refine XS.ifYes X31.here hx rfl (pc0 := 177) (pc' := 184) rfl (hb hby at_177) rfl ((if0 _ _).trans (feq (by decide)).2) (by decide) (by decide) ?_
          show Steps p.tables e below (T31.setTop (mkF m 184 #[.val (.int p1), .val (.int p2), .val (.int (p1 &&& (3 : Int32))), .val (.int (p2 &&& (1048575 : Int32))), .val (.ref b22), .val (.ref b25), .val (.ref b28), .val (.int (0 : Int32)), .val (.int (2 : Int32))] [(.int (0 : Int32))])) _
          refine XS.iconst X31.here hx rfl (hb hby at_184) ?_
          show Steps p.tables e below (T31.setTop (mkF m 185 #[.val (.int p1), .val (.int p2), .val (.int (p1 &&& (3 : Int32))), .val (.int (p2 &&& (1048575 : Int32))), .val (.ref b22), .val (.ref b25), .val (.ref b28), .val (.int (0 : Int32)), .val (.int (2 : Int32))] [(.int (0 : Int32)), (.int (0 : Int32))])) _
          refine XS.icmpNo X31.here hx rfl (hb hby at_185) rfl (teq (by decide)).2 ?_
          exact k
        obtain ⟨T32, X32, e32, st32⟩ := getS2 X31 hx hZ hown (host := "") (Or.inl (hw _ (List.mem_of_getElem? (i := 26) rfl))) Via.refl eq31 (S_E.ext O29.2) (g := (mkF m 188 #[.val (.int p1), .val (.int p2), .val (.int (p1 &&& (3 : Int32))), .val (.int (p2 &&& (1048575 : Int32))), .val (.ref b22), .val (.ref b25), .val (.ref b28), .val (.int (0 : Int32)), .val (.int (2 : Int32))] [])) rfl (hb hby at_188)
        refine own_go (B := T32.setTop (mkF m 191 #[.val (.int p1), .val (.int p2), .val (.int (p1 &&& (3 : Int32))), .val (.int (p2 &&& (1048575 : Int32))), .val (.ref b22), .val (.ref b25), .val (.ref b28), .val (.int (0 : Int32)), .val (.int (2 : Int32))] [(.ref w1)])) (fun t k => st32 _ k) ?_
        obtain ⟨cq33, kq33, q33a, q33b, q33c⟩ := isOf hZ e32 (E_w1.ext O29.2)
        obtain ⟨_, _, ⟨T33, L33, k33, n33⟩, -, X33, ⟨Lc33, hQ33, l33, y33, z33⟩, st33⟩ := X32.virtualBack hx (y := (⟨"com/example/muster/muster/TermVector", "isEmpty", "()Z"⟩ : MethodName)) (z := (⟨"com/example/muster/muster/TermVector", "isEmpty", "()Z"⟩ : MethodName)) hown (mvT hZ (hw _ (List.mem_of_getElem? (i := 16) rfl))) (mvT hZ (hw _ (List.mem_of_getElem? (i := 17) rfl))) (notFace_of_selects (args := #[]) (mvT hZ (hw _ (List.mem_of_getElem? (i := 19) rfl)))) (mvT hZ (hw _ (List.mem_of_getElem? (i := 19) rfl))) (mvT hZ (hw _ (List.mem_of_getElem? (i := 18) rfl))) (by decide) (backOf (W := 0) (rm3 l Z a0 hw [] w1 t1 kt (0 : Int32) [] (.int (0 : Int32)) (1 : Int32) T29.heap n0 (Nat.le_trans (Nat.le_trans (Nat.le_trans (Nat.le_trans (Nat.le_trans (Nat.le_trans (Nat.le_trans (Nat.le_trans Z0 E22.1) (Keep.of_wr W23).1) (Keep.of_wr W24).1) E25.1) (Keep.of_wr W26).1) (Keep.of_wr W27).1) E28.1) K29q.1) (F_w1.ext O29.2) (V_t1.ext O29.2) (by decide)) hZ (hw _ (List.mem_of_getElem? (i := 20) rfl)) (hw _ (List.mem_of_getElem? (i := 5) rfl)) (by decide) (by decide)) q33a q33c (g := (mkF m 191 #[.val (.int p1), .val (.int p2), .val (.int (p1 &&& (3 : Int32))), .val (.int (p2 &&& (1048575 : Int32))), .val (.ref b22), .val (.ref b25), .val (.ref b28), .val (.int (0 : Int32)), .val (.int (2 : Int32))] [(.ref w1)])) rfl (by rw [hml]; rfl) (Steps.refl _) (argsL := []) (rest := []) (lenOf own_pd1 rfl) rfl (by show 2 * 0 + _ ≤ _; exact Nat.le_of_eq rfl) (hb hby at_191) (fun _ _ => ⟨rfl, e32, (by decide : 3 + 0 ≤ _), (by decide : 6 + 0 ≤ _)⟩)
        dsimp only [Pt.U, Pt.locs, Pt.cells, Pt.slots] at X33 l33 y33 z33 st33 hQ33
        subst l33 y33 z33
        obtain ⟨rfl, N33q, eq33⟩ := hQ33
        have N33 := Fr.app N31 N33q
        refine own_go (B := T33.setTop (mkF m 194 #[.val (.int p1), .val (.int p2), .val (.int (p1 &&& (3 : Int32))), .val (.int (p2 &&& (1048575 : Int32))), .val (.ref b22), .val (.ref b25), .val (.ref b28), .val (.int (0 : Int32)), .val (.int (2 : Int32))] [(.int (1 : Int32))])) (fun t k => st33.trans k) ?_
        obtain ⟨fs, hr, hrun, hended, hW, hsame⟩ := X33.leave (v := some (.int (1 : Int32))) (fun h => by rw [Bd.returns] at h; cases h)
        refine ⟨_, _, ?_, hrun, hended, _, _, rfl, ?_, ⟨_, rfl⟩, hW, hsame.mono (by decide) (by decide)⟩
        · show Steps p.tables e below (T33.setTop (mkF m 194 #[.val (.int p1), .val (.int p2), .val (.int (p1 &&& (3 : Int32))), .val (.int (p2 &&& (1048575 : Int32))), .val (.ref b22), .val (.ref b25), .val (.ref b28), .val (.int (0 : Int32)), .val (.int (2 : Int32))] [(.int (1 : Int32))])) _
          refine XS.ifNo X33.here hx rfl (hb hby at_194) rfl ((if0 _ _).trans (feq (by decide)).1) ?_
          show Steps p.tables e below (T33.setTop (mkF m 197 #[.val (.int p1), .val (.int p2), .val (.int (p1 &&& (3 : Int32))), .val (.int (p2 &&& (1048575 : Int32))), .val (.ref b22), .val (.ref b25), .val (.ref b28), .val (.int (0 : Int32)), .val (.int (2 : Int32))] [])) _
          refine XS.iconst X33.here hx rfl (hb hby at_197) ?_
          show Steps p.tables e below (T33.setTop (mkF m 198 #[.val (.int p1), .val (.int p2), .val (.int (p1 &&& (3 : Int32))), .val (.int (p2 &&& (1048575 : Int32))), .val (.ref b22), .val (.ref b25), .val (.ref b28), .val (.int (0 : Int32)), .val (.int (2 : Int32))] [(.int (1 : Int32))])) _
          refine XS.goto X33.here hx rfl (pc0 := 198) (pc' := 202) rfl (hb hby at_198) (by decide) (by decide) ?_
          show Steps p.tables e below (T33.setTop (mkF m 202 #[.val (.int p1), .val (.int p2), .val (.int (p1 &&& (3 : Int32))), .val (.int (p2 &&& (1048575 : Int32))), .val (.ref b22), .val (.ref b25), .val (.ref b28), .val (.int (0 : Int32)), .val (.int (2 : Int32))] [(.int (1 : Int32))])) _
          exact retN X33 hx (t := .boolean) Bd.returns (by simp) (hb hby at_202) hr
        · show Q0 Z p1 p2 w1 t1 kt h0 n0 _ T33.heap _
          rw [eq33]
          exact ⟨rfl, N33⟩
      · refine own_go (B := s₁.setTop (mkF m 89 #[.val (.int p1), .val (.int p2), .val (.int (p1 &&& (3 : Int32))), .val (.int (p2 &&& (1048575 : Int32))), .unset, .unset, .unset, .unset, .unset] [(.int (3 : Int32))])) (fun t k => ?_) ?_
        · show Steps p.tables e below (s₁.setTop (mkF m 54 #[.val (.int p1), .val (.int p2), .val (.int (p1 &&& (3 : Int32))), .val (.int (p2 &&& (1048575 : Int32))), .unset, .unset, .unset, .unset, .unset] [(.int (2 : Int32)), (.int (p1 &&& (3 : Int32)))])) _
          refine XS.icmpYes X0.here hx rfl (pc0 := 54) (pc' := 88) rfl (hb hby at_54) rfl (feq hc54_21).2 (by decide) (by decide) ?_
          show Steps p.tables e below (s₁.setTop (mkF m 88 #[.val (.int p1), .val (.int p2), .val (.int (p1 &&& (3 : Int32))), .val (.int (p2 &&& (1048575 : Int32))), .unset, .unset, .unset, .unset, .unset] [])) _
          refine XS.iconst X0.here hx rfl (hb hby at_88) ?_
          exact k
        obtain ⟨T34, h34, k34, X34, e34, E34, A34, st34⟩ := newP X0 hx hZ (hw _ (List.mem_of_getElem? (i := 1) rfl)) e0 (g := (mkF m 89 #[.val (.int p1), .val (.int p2), .val (.int (p1 &&& (3 : Int32))), .val (.int (p2 &&& (1048575 : Int32))), .unset, .unset, .unset, .unset, .unset] [(.int (3 : Int32))])) rfl (hb hby at_89) rfl (by decide) (cap := 3) (by decide) (by decide) (by decide) (by decide)
        obtain ⟨b34, g34⟩ : ∃ z, z = h0.size := ⟨_, rfl⟩
        rw [← g34] at A34 st34
        have g_b34 : n0 ≤ b34 := Nat.le_trans Z0 (Nat.le_of_eq g34.symm)
        have O34 := O0.ext E34
        have V34 : Arv Z h34 b34 k34 .int (3 : Int32) [(.int (0 : Int32)), (.int (0 : Int32)), (.int (0 : Int32))] (.int (0 : Int32)) := (Arv.new A34 (by decide)).pad (pad_rep [] (.int (0 : Int32)) 3)
        refine own_go (B := T34.setTop (mkF m 91 #[.val (.int p1), .val (.int p2), .val (.int (p1 &&& (3 : Int32))), .val (.int (p2 &&& (1048575 : Int32))), .unset, .unset, .unset, .unset, .unset] [(.ref b34)])) (fun t k => st34 _ k) ?_
        refine own_go (B := T34.setTop (mkF m 94 #[.val (.int p1), .val (.int p2), .val (.int (p1 &&& (3 : Int32))), .val (.int (p2 &&& (1048575 : Int32))), .unset, .unset, .unset, .unset, .unset] [(.int (p2 &&& (1048575 : Int32))), (.int (0 : Int32)), (.ref b34), (.ref b34)])) (fun t k => ?_) ?_
        · show Steps p.tables e below (T34.setTop (mkF m 91 #[.val (.int p1), .val (.int p2), .val (.int (p1 &&& (3 : Int32))), .val (.int (p2 &&& (1048575 : Int32))), .unset, .unset, .unset, .unset, .unset] [(.ref b34)])) _
          refine XS.dup X34.here hx rfl (hb hby at_91) rfl rfl ?_
          show Steps p.tables e below (T34.setTop (mkF m 92 #[.val (.int p1), .val (.int p2), .val (.int (p1 &&& (3 : Int32))), .val (.int (p2 &&& (1048575 : Int32))), .unset, .unset, .unset, .unset, .unset] [(.ref b34), (.ref b34)])) _
          refine XS.iconst X34.here hx rfl (hb hby at_92) ?_
          show Steps p.tables e below (T34.setTop (mkF m 93 #[.val (.int p1), .val (.int p2), .val (.int (p1 &&& (3 : Int32))), .val (.int (p2 &&& (1048575 : Int32))), .unset, .unset, .unset, .unset, .unset] [(.int (0 : Int32)), (.ref b34), (.ref b34)])) _
          refine XS.iloadN X34.here hx rfl (hb hby at_93) rfl ?_
          exact k
        obtain ⟨cl35, Ar35, qk35, S35, M35, H35, G35⟩ := id V34
        obtain ⟨T35, h35, X35, e35, W35, st35⟩ := stI X34 hx hZ e34 Ar35 (j := (0 : Int32)) (inb_of S35 ⟨by decide, by decide⟩) (g := (mkF m 94 #[.val (.int p1), .val (.int p2), .val (.int (p1 &&& (3 : Int32))), .val (.int (p2 &&& (1048575 : Int32))), .unset, .unset, .unset, .unset, .unset] [(.int (p2 &&& (1048575 : Int32))), (.int (0 : Int32)), (.ref b34), (.ref b34)])) rfl rfl (hb hby at_94)
        have V35 : Arv Z h35 b34 k34 .int (3 : Int32) [(.int (p2 &&& (1048575 : Int32))), (.int (0 : Int32)), (.int (0 : Int32))] (.int (0 : Int32)) := Arv.set Ar35 qk35 S35 M35 H35 G35 rfl W35 0 rfl (Nat.le_of_ble_eq_true rfl)
        have O35 := O34.wr W35 g_b34
        have N35 := Fr.snoc X35 N0 g_b34
        refine own_go (B := T35.setTop (mkF m 95 #[.val (.int p1), .val (.int p2), .val (.int (p1 &&& (3 : Int32))), .val (.int (p2 &&& (1048575 : Int32))), .unset, .unset, .unset, .unset, .unset] [(.ref b34)])) (fun t k => st35 _ k) ?_
        refine own_go (B := T35.setTop (mkF m 100 #[.val (.int p1), .val (.int p2), .val (.int (p1 &&& (3 : Int32))), .val (.int (p2 &&& (1048575 : Int32))), .unset, .unset, .unset, .unset, .unset] [(.int ((p2 &&& (1048575 : Int32)) + (1 : Int32))), (.int (1 : Int32)), (.ref b34), (.ref b34)])) (fun t k => ?_) ?_
        · show Steps p.tables e below (T35.setTop (mkF m 95 #[.val (.int p1), .val (.int p2), .val (.int (p1 &&& (3 : Int32))), .val (.int (p2 &&& (1048575 : Int32))), .unset, .unset, .unset, .unset, .unset] [(.ref b34)])) _
          refine XS.dup X35.here hx rfl (hb hby at_95) rfl rfl ?_
          show Steps p.tables e below (T35.setTop (mkF m 96 #[.val (.int p1), .val (.int p2), .val (.int (p1 &&& (3 : Int32))), .val (.int (p2 &&& (1048575 : Int32))), .unset, .unset, .unset, .unset, .unset] [(.ref b34), (.ref b34)])) _
          refine XS.iconst X35.here hx rfl (hb hby at_96) ?_
          show Steps p.tables e below (T35.setTop (mkF m 97 #[.val (.int p1), .val (.int p2), .val (.int (p1 &&& (3 : Int32))), .val (.int (p2 &&& (1048575 : Int32))), .unset, .unset, .unset, .unset, .unset] [(.int (1 : Int32)), (.ref b34), (.ref b34)])) _
          refine XS.iloadN X35.here hx rfl (hb hby at_97) rfl ?_
          show Steps p.tables e below (T35.setTop (mkF m 98 #[.val (.int p1), .val (.int p2), .val (.int (p1 &&& (3 : Int32))), .val (.int (p2 &&& (1048575 : Int32))), .unset, .unset, .unset, .unset, .unset] [(.int (p2 &&& (1048575 : Int32))), (.int (1 : Int32)), (.ref b34), (.ref b34)])) _
          refine XS.iconst X35.here hx rfl (hb hby at_98) ?_
          show Steps p.tables e below (T35.setTop (mkF m 99 #[.val (.int p1), .val (.int p2), .val (.int (p1 &&& (3 : Int32))), .val (.int (p2 &&& (1048575 : Int32))), .unset, .unset, .unset, .unset, .unset] [(.int (1 : Int32)), (.int (p2 &&& (1048575 : Int32))), (.int (1 : Int32)), (.ref b34), (.ref b34)])) _
          refine XS.iadd X35.here hx rfl (hb hby at_99) rfl ?_
          exact k
        obtain ⟨cl36, Ar36, qk36, S36, M36, H36, G36⟩ := id V35
        obtain ⟨T36, h36, X36, e36, W36, st36⟩ := stI X35 hx hZ e35 Ar36 (j := (1 : Int32)) (inb_of S36 ⟨by decide, by decide⟩) (g := (mkF m 100 #[.val (.int p1), .val (.int p2), .val (.int (p1 &&& (3 : Int32))), .val (.int (p2 &&& (1048575 : Int32))), .unset, .unset, .unset, .unset, .unset] [(.int ((p2 &&& (1048575 : Int32)) + (1 : Int32))), (.int (1 : Int32)), (.ref b34), (.ref b34)])) rfl rfl (hb hby at_100)
        have V36 : Arv Z h36 b34 k34 .int (3 : Int32) [(.int (p2 &&& (1048575 : Int32))), (.int ((p2 &&& (1048575 : Int32)) + (1 : Int32))), (.int (0 : Int32))] (.int (0 : Int32)) := Arv.set Ar36 qk36 S36 M36 H36 G36 rfl W36 1 rfl (Nat.le_of_ble_eq_true rfl)
        have O36 := O35.wr W36 g_b34
        have N36 := Fr.snoc X36 N35 g_b34
        refine own_go (B := T36.setTop (mkF m 101 #[.val (.int p1), .val (.int p2), .val (.int (p1 &&& (3 : Int32))), .val (.int (p2 &&& (1048575 : Int32))), .unset, .unset, .unset, .unset, .unset] [(.ref b34)])) (fun t k => st36 _ k) ?_
        refine own_go (B := T36.setTop (mkF m 106 #[.val (.int p1), .val (.int p2), .val (.int (p1 &&& (3 : Int32))), .val (.int (p2 &&& (1048575 : Int32))), .unset, .unset, .unset, .unset, .unset] [(.int ((p2 &&& (1048575 : Int32)) + (2 : Int32))), (.int (2 : Int32)), (.ref b34), (.ref b34)])) (fun t k => ?_) ?_
        · show Steps p.tables e below (T36.setTop (mkF m 101 #[.val (.int p1), .val (.int p2), .val (.int (p1 &&& (3 : Int32))), .val (.int (p2 &&& (1048575 : Int32))), .unset, .unset, .unset, .unset, .unset] [(.ref b34)])) _
          refine XS.dup X36.here hx rfl (hb hby at_101) rfl rfl ?_
          show Steps p.tables e below (T36.setTop (mkF m 102 #[.val (.int p1), .val (.int p2), .val (.int (p1 &&& (3 : Int32))), .val (.int (p2 &&& (1048575 : Int32))), .unset, .unset, .unset, .unset, .unset] [(.ref b34), (.ref b34)])) _
          refine XS.iconst X36.here hx rfl (hb hby at_102) ?_
          show Steps p.tables e below (T36.setTop (mkF m 103 #[.val (.int p1), .val (.int p2), .val (.int (p1 &&& (3 : Int32))), .val (.int (p2 &&& (1048575 : Int32))), .unset, .unset, .unset, .unset, .unset] [(.int (2 : Int32)), (.ref b34), (.ref b34)])) _
          refine XS.iloadN X36.here hx rfl (hb hby at_103) rfl ?_
          show Steps p.tables e below (T36.setTop (mkF m 104 #[.val (.int p1), .val (.int p2), .val (.int (p1 &&& (3 : Int32))), .val (.int (p2 &&& (1048575 : Int32))), .unset, .unset, .unset, .unset, .unset] [(.int (p2 &&& (1048575 : Int32))), (.int (2 : Int32)), (.ref b34), (.ref b34)])) _
          refine XS.iconst X36.here hx rfl (hb hby at_104) ?_
          show Steps p.tables e below (T36.setTop (mkF m 105 #[.val (.int p1), .val (.int p2), .val (.int (p1 &&& (3 : Int32))), .val (.int (p2 &&& (1048575 : Int32))), .unset, .unset, .unset, .unset, .unset] [(.int (2 : Int32)), (.int (p2 &&& (1048575 : Int32))), (.int (2 : Int32)), (.ref b34), (.ref b34)])) _
          refine XS.iadd X36.here hx rfl (hb hby at_105) rfl ?_
          exact k
        obtain ⟨cl37, Ar37, qk37, S37, M37, H37, G37⟩ := id V36
        obtain ⟨T37, h37, X37, e37, W37, st37⟩ := stI X36 hx hZ e36 Ar37 (j := (2 : Int32)) (inb_of S37 ⟨by decide, by decide⟩) (g := (mkF m 106 #[.val (.int p1), .val (.int p2), .val (.int (p1 &&& (3 : Int32))), .val (.int (p2 &&& (1048575 : Int32))), .unset, .unset, .unset, .unset, .unset] [(.int ((p2 &&& (1048575 : Int32)) + (2 : Int32))), (.int (2 : Int32)), (.ref b34), (.ref b34)])) rfl rfl (hb hby at_106)
        have V37 : Arv Z h37 b34 k34 .int (3 : Int32) [(.int (p2 &&& (1048575 : Int32))), (.int ((p2 &&& (1048575 : Int32)) + (1 : Int32))), (.int ((p2 &&& (1048575 : Int32)) + (2 : Int32)))] (.int (0 : Int32)) := Arv.set Ar37 qk37 S37 M37 H37 G37 rfl W37 2 rfl (Nat.le_of_ble_eq_true rfl)
        have O37 := O36.wr W37 g_b34
        have N37 := Fr.snoc X37 N36 g_b34
        refine own_go (B := T37.setTop (mkF m 107 #[.val (.int p1), .val (.int p2), .val (.int (p1 &&& (3 : Int32))), .val (.int (p2 &&& (1048575 : Int32))), .unset, .unset, .unset, .unset, .unset] [(.ref b34)])) (fun t k => st37 _ k) ?_
        refine own_go (B := T37.setTop (mkF m 110 #[.val (.int p1), .val (.int p2), .val (.int (p1 &&& (3 : Int32))), .val (.int (p2 &&& (1048575 : Int32))), .val (.ref b34), .unset, .unset, .unset, .unset] [(.int (3 : Int32))])) (fun t k => ?_) ?_
        · show Steps p.tables e below (T37.setTop (mkF m 107 #[.val (.int p1), .val (.int p2), .val (.int (p1 &&& (3 : Int32))), .val (.int (p2 &&& (1048575 : Int32))), .unset, .unset, .unset, .unset, .unset] [(.ref b34)])) _
          refine XS.astore X37.here hx rfl (hb hby at_107) rfl rfl (l' := #[.val (.int p1), .val (.int p2), .val (.int (p1 &&& (3 : Int32))), .val (.int (p2 &&& (1048575 : Int32))), .val (.ref b34), .unset, .unset, .unset, .unset]) rfl ?_
          show Steps p.tables e below (T37.setTop (mkF m 109 #[.val (.int p1), .val (.int p2), .val (.int (p1 &&& (3 : Int32))), .val (.int (p2 &&& (1048575 : Int32))), .val (.ref b34), .unset, .unset, .unset, .unset] [])) _
          refine XS.iconst X37.here hx rfl (hb hby at_109) ?_
          exact k
        obtain ⟨T38, h38, k38, X38, e38, E38, A38, st38⟩ := newP X37 hx hZ (hw _ (List.mem_of_getElem? (i := 2) rfl)) e37 (g := (mkF m 110 #[.val (.int p1), .val (.int p2), .val (.int (p1 &&& (3 : Int32))), .val (.int (p2 &&& (1048575 : Int32))), .val (.ref b34), .unset, .unset, .unset, .unset] [(.int (3 : Int32))])) rfl (hb hby at_110) rfl (by decide) (cap := 3) (by decide) (by decide) (by decide) (by decide)
        obtain ⟨b38, g38⟩ : ∃ z, z = h37.size := ⟨_, rfl⟩
        rw [← g38] at A38 st38
        have g_b38 : n0 ≤ b38 := Nat.le_trans (Nat.le_trans (Nat.le_trans (Nat.le_trans (Nat.le_trans Z0 E34.1) (Keep.of_wr W35).1) (Keep.of_wr W36).1) (Keep.of_wr W37).1) (Nat.le_of_eq g38.symm)
        have ne_b34_b38 : b34 ≠ b38 := Nat.ne_of_lt (Nat.lt_of_lt_of_le V37.lt (Nat.le_of_eq g38.symm))
        have c38_V_b34 := V37.ext E38
        have O38 := O37.ext E38
        have V38 : Arv Z h38 b38 k38 .double (3 : Int32) [(.double (0 : UInt64)), (.double (0 : UInt64)), (.double (0 : UInt64))] (.double (0 : UInt64)) := (Arv.new A38 (by decide)).pad (pad_rep [] (.double (0 : UInt64)) 3)
        refine own_go (B := T38.setTop (mkF m 112 #[.val (.int p1), .val (.int p2), .val (.int (p1 &&& (3 : Int32))), .val (.int (p2 &&& (1048575 : Int32))), .val (.ref b34), .unset, .unset, .unset, .unset] [(.ref b38)])) (fun t k => st38 _ k) ?_
        refine own_go (B := T38.setTop (mkF m 115 #[.val (.int p1), .val (.int p2), .val (.int (p1 &&& (3 : Int32))), .val (.int (p2 &&& (1048575 : Int32))), .val (.ref b34), .unset, .unset, .unset, .unset] [(.double FP.dconst1), (.int (0 : Int32)), (.ref b38), (.ref b38)])) (fun t k => ?_) ?_
        · show Steps p.tables e below (T38.setTop (mkF m 112 #[.val (.int p1), .val (.int p2), .val (.int (p1 &&& (3 : Int32))), .val (.int (p2 &&& (1048575 : Int32))), .val (.ref b34), .unset, .unset, .unset, .unset] [(.ref b38)])) _
          refine XS.dup X38.here hx rfl (hb hby at_112) rfl rfl ?_
          show Steps p.tables e below (T38.setTop (mkF m 113 #[.val (.int p1), .val (.int p2), .val (.int (p1 &&& (3 : Int32))), .val (.int (p2 &&& (1048575 : Int32))), .val (.ref b34), .unset, .unset, .unset, .unset] [(.ref b38), (.ref b38)])) _
          refine XS.iconst X38.here hx rfl (hb hby at_113) ?_
          show Steps p.tables e below (T38.setTop (mkF m 114 #[.val (.int p1), .val (.int p2), .val (.int (p1 &&& (3 : Int32))), .val (.int (p2 &&& (1048575 : Int32))), .val (.ref b34), .unset, .unset, .unset, .unset] [(.int (0 : Int32)), (.ref b38), (.ref b38)])) _
          refine XS.dconst1 X38.here hx rfl (hb hby at_114) rfl ?_
          exact k
        obtain ⟨cl39, Ar39, qk39, S39, M39, H39, G39⟩ := id V38
        obtain ⟨T39, h39, X39, e39, W39, st39⟩ := stD X38 hx hZ e38 Ar39 (j := (0 : Int32)) (inb_of S39 ⟨by decide, by decide⟩) (g := (mkF m 115 #[.val (.int p1), .val (.int p2), .val (.int (p1 &&& (3 : Int32))), .val (.int (p2 &&& (1048575 : Int32))), .val (.ref b34), .unset, .unset, .unset, .unset] [(.double FP.dconst1), (.int (0 : Int32)), (.ref b38), (.ref b38)])) rfl rfl (hb hby at_115)
        have V39 : Arv Z h39 b38 k38 .double (3 : Int32) [(.double FP.dconst1), (.double (0 : UInt64)), (.double (0 : UInt64))] (.double (0 : UInt64)) := Arv.set Ar39 qk39 S39 M39 H39 G39 rfl W39 0 rfl (Nat.le_of_ble_eq_true rfl)
        have c39_V_b34 := c38_V_b34.other W39 ne_b34_b38
        have O39 := O38.wr W39 g_b38
        have N39 := Fr.snoc X39 N37 g_b38
        refine own_go (B := T39.setTop (mkF m 116 #[.val (.int p1), .val (.int p2), .val (.int (p1 &&& (3 : Int32))), .val (.int (p2 &&& (1048575 : Int32))), .val (.ref b34), .unset, .unset, .unset, .unset] [(.ref b38)])) (fun t k => st39 _ k) ?_
        refine own_go (B := T39.setTop (mkF m 119 #[.val (.int p1), .val (.int p2), .val (.int (p1 &&& (3 : Int32))), .val (.int (p2 &&& (1048575 : Int32))), .val (.ref b34), .unset, .unset, .unset, .unset] [(.double FP.dconst1), (.int (1 : Int32)), (.ref b38), (.ref b38)])) (fun t k => ?_) ?_
        · show Steps p.tables e below (T39.setTop (mkF m 116 #[.val (.int p1), .val (.int p2), .val (.int (p1 &&& (3 : Int32))), .val (.int (p2 &&& (1048575 : Int32))), .val (.ref b34), .unset, .unset, .unset, .unset] [(.ref b38)])) _
          refine XS.dup X39.here hx rfl (hb hby at_116) rfl rfl ?_
          show Steps p.tables e below (T39.setTop (mkF m 117 #[.val (.int p1), .val (.int p2), .val (.int (p1 &&& (3 : Int32))), .val (.int (p2 &&& (1048575 : Int32))), .val (.ref b34), .unset, .unset, .unset, .unset] [(.ref b38), (.ref b38)])) _
          refine XS.iconst X39.here hx rfl (hb hby at_117) ?_
          show Steps p.tables e below (T39.setTop (mkF m 118 #[.val (.int p1), .val (.int p2), .val (.int (p1 &&& (3 : Int32))), .val (.int (p2 &&& (1048575 : Int32))), .val (.ref b34), .unset, .unset, .unset, .unset] [(.int (1 : Int32)), (.ref b38), (.ref b38)])) _
          refine XS.dconst1 X39.here hx rfl (hb hby at_118) rfl ?_
          exact k
        obtain ⟨cl40, Ar40, qk40, S40, M40, H40, G40⟩ := id V39
        obtain ⟨T40, h40, X40, e40, W40, st40⟩ := stD X39 hx hZ e39 Ar40 (j := (1 : Int32)) (inb_of S40 ⟨by decide, by decide⟩) (g := (mkF m 119 #[.val (.int p1), .val (.int p2), .val (.int (p1 &&& (3 : Int32))), .val (.int (p2 &&& (1048575 : Int32))), .val (.ref b34), .unset, .unset, .unset, .unset] [(.double FP.dconst1), (.int (1 : Int32)), (.ref b38), (.ref b38)])) rfl rfl (hb hby at_119)
        have V40 : Arv Z h40 b38 k38 .double (3 : Int32) [(.double FP.dconst1), (.double FP.dconst1), (.double (0 : UInt64))] (.double (0 : UInt64)) := Arv.set Ar40 qk40 S40 M40 H40 G40 rfl W40 1 rfl (Nat.le_of_ble_eq_true rfl)
        have c40_V_b34 := c39_V_b34.other W40 ne_b34_b38
        have O40 := O39.wr W40 g_b38
        have N40 := Fr.snoc X40 N39 g_b38
        refine own_go (B := T40.setTop (mkF m 120 #[.val (.int p1), .val (.int p2), .val (.int (p1 &&& (3 : Int32))), .val (.int (p2 &&& (1048575 : Int32))), .val (.ref b34), .unset, .unset, .unset, .unset] [(.ref b38)])) (fun t k => st40 _ k) ?_
        refine own_go (B := T40.setTop (mkF m 123 #[.val (.int p1), .val (.int p2), .val (.int (p1 &&& (3 : Int32))), .val (.int (p2 &&& (1048575 : Int32))), .val (.ref b34), .unset, .unset, .unset, .unset] [(.double FP.dconst1), (.int (2 : Int32)), (.ref b38), (.ref b38)])) (fun t k => ?_) ?_
        · show Steps p.tables e below (T40.setTop (mkF m 120 #[.val (.int p1), .val (.int p2), .val (.int (p1 &&& (3 : Int32))), .val (.int (p2 &&& (1048575 : Int32))), .val (.ref b34), .unset, .unset, .unset, .unset] [(.ref b38)])) _
          refine XS.dup X40.here hx rfl (hb hby at_120) rfl rfl ?_
          show Steps p.tables e below (T40.setTop (mkF m 121 #[.val (.int p1), .val (.int p2), .val (.int (p1 &&& (3 : Int32))), .val (.int (p2 &&& (1048575 : Int32))), .val (.ref b34), .unset, .unset, .unset, .unset] [(.ref b38), (.ref b38)])) _
          refine XS.iconst X40.here hx rfl (hb hby at_121) ?_
          show Steps p.tables e below (T40.setTop (mkF m 122 #[.val (.int p1), .val (.int p2), .val (.int (p1 &&& (3 : Int32))), .val (.int (p2 &&& (1048575 : Int32))), .val (.ref b34), .unset, .unset, .unset, .unset] [(.int (2 : Int32)), (.ref b38), (.ref b38)])) _
          refine XS.dconst1 X40.here hx rfl (hb hby at_122) rfl ?_
          exact k
        obtain ⟨cl41, Ar41, qk41, S41, M41, H41, G41⟩ := id V40
        obtain ⟨T41, h41, X41, e41, W41, st41⟩ := stD X40 hx hZ e40 Ar41 (j := (2 : Int32)) (inb_of S41 ⟨by decide, by decide⟩) (g := (mkF m 123 #[.val (.int p1), .val (.int p2), .val (.int (p1 &&& (3 : Int32))), .val (.int (p2 &&& (1048575 : Int32))), .val (.ref b34), .unset, .unset, .unset, .unset] [(.double FP.dconst1), (.int (2 : Int32)), (.ref b38), (.ref b38)])) rfl rfl (hb hby at_123)
        have V41 : Arv Z h41 b38 k38 .double (3 : Int32) [(.double FP.dconst1), (.double FP.dconst1), (.double FP.dconst1)] (.double (0 : UInt64)) := Arv.set Ar41 qk41 S41 M41 H41 G41 rfl W41 2 rfl (Nat.le_of_ble_eq_true rfl)
        have c41_V_b34 := c40_V_b34.other W41 ne_b34_b38
        have O41 := O40.wr W41 g_b38
        have N41 := Fr.snoc X41 N40 g_b38
        refine own_go (B := T41.setTop (mkF m 124 #[.val (.int p1), .val (.int p2), .val (.int (p1 &&& (3 : Int32))), .val (.int (p2 &&& (1048575 : Int32))), .val (.ref b34), .unset, .unset, .unset, .unset] [(.ref b38)])) (fun t k => st41 _ k) ?_
        refine own_go (B := T41.setTop (mkF m 126 #[.val (.int p1), .val (.int p2), .val (.int (p1 &&& (3 : Int32))), .val (.int (p2 &&& (1048575 : Int32))), .val (.ref b34), .val (.ref b38), .unset, .unset, .unset] [])) (fun t k => ?_) ?_
        · show Steps p.tables e below (T41.setTop (mkF m 124 #[.val (.int p1), .val (.int p2), .val (.int (p1 &&& (3 : Int32))), .val (.int (p2 &&& (1048575 : Int32))), .val (.ref b34), .unset, .unset, .unset, .unset] [(.ref b38)])) _
          refine XS.astore X41.here hx rfl (hb hby at_124) rfl rfl (l' := #[.val (.int p1), .val (.int p2), .val (.int (p1 &&& (3 : Int32))), .val (.int (p2 &&& (1048575 : Int32))), .val (.ref b34), .val (.ref b38), .unset, .unset, .unset]) rfl ?_
          exact k
        obtain ⟨T42, h42, X42, e42, E42, A42, D42, -, st42⟩ := newO X41 hx hZ hown (hw _ (List.mem_of_getElem? (i := 3) rfl)) (hw _ (List.mem_of_getElem? (i := 4) rfl)) (hw _ (List.mem_of_getElem? (i := 5) rfl)) e41 (g := (mkF m 126 #[.val (.int p1), .val (.int p2), .val (.int (p1 &&& (3 : Int32))), .val (.int (p2 &&& (1048575 : Int32))), .val (.ref b34), .val (.ref b38), .unset, .unset, .unset] [])) rfl (hb hby at_126) (by decide) (by decide)
        obtain ⟨b42, g42⟩ : ∃ z, z = h41.size := ⟨_, rfl⟩
        rw [← g42] at A42 D42 st42
        have g_b42 : n0 ≤ b42 := Nat.le_trans (Nat.le_trans (Nat.le_trans (Nat.le_trans (Nat.le_trans (Nat.le_trans (Nat.le_trans (Nat.le_trans (Nat.le_trans Z0 E34.1) (Keep.of_wr W35).1) (Keep.of_wr W36).1) (Keep.of_wr W37).1) E38.1) (Keep.of_wr W39).1) (Keep.of_wr W40).1) (Keep.of_wr W41).1) (Nat.le_of_eq g42.symm)
        have ne_b34_b42 : b34 ≠ b42 := Nat.ne_of_lt (Nat.lt_of_lt_of_le c41_V_b34.lt (Nat.le_of_eq g42.symm))
        have ne_b38_b42 : b38 ≠ b42 := Nat.ne_of_lt (Nat.lt_of_lt_of_le V41.lt (Nat.le_of_eq g42.symm))
        have c42_V_b34 := c41_V_b34.ext E42
        have c42_V_b38 := V41.ext E42
        have O42 := O41.ext E42
        have F42_terms : Fld Z h42 b42 "com/example/muster/muster/TermVector" "terms" "[I" .null := D42 (Or.inr (hw _ (List.mem_of_getElem? (i := 13) rfl))) (ty := (.array .int)) (by decide)
        have F42_weights : Fld Z h42 b42 "com/example/muster/muster/TermVector" "weights" "[D" .null := D42 (Or.inr (hw _ (List.mem_of_getElem? (i := 15) rfl))) (ty := (.array .double)) (by decide)
        refine own_go (B := T42.setTop (mkF m 129 #[.val (.int p1), .val (.int p2), .val (.int (p1 &&& (3 : Int32))), .val (.int (p2 &&& (1048575 : Int32))), .val (.ref b34), .val (.ref b38), .unset, .unset, .unset] [(.ref b42)])) (fun t k => st42 _ k) ?_
        refine own_go (B := T42.setTop (mkF m 134 #[.val (.int p1), .val (.int p2), .val (.int (p1 &&& (3 : Int32))), .val (.int (p2 &&& (1048575 : Int32))), .val (.ref b34), .val (.ref b38), .unset, .unset, .unset] [(.ref b38), (.ref b34), (.ref b42), (.ref b42)])) (fun t k => ?_) ?_
        · show Steps p.tables e below (T42.setTop (mkF m 129 #[.val (.int p1), .val (.int p2), .val (.int (p1 &&& (3 : Int32))), .val (.int (p2 &&& (1048575 : Int32))), .val (.ref b34), .val (.ref b38), .unset, .unset, .unset] [(.ref b42)])) _
          refine XS.dup X42.here hx rfl (hb hby at_129) rfl rfl ?_
          show Steps p.tables e below (T42.setTop (mkF m 130 #[.val (.int p1), .val (.int p2), .val (.int (p1 &&& (3 : Int32))), .val (.int (p2 &&& (1048575 : Int32))), .val (.ref b34), .val (.ref b38), .unset, .unset, .unset] [(.ref b42), (.ref b42)])) _
          refine XS.aload X42.here hx rfl (hb hby at_130) rfl rfl ?_
          show Steps p.tables e below (T42.setTop (mkF m 132 #[.val (.int p1), .val (.int p2), .val (.int (p1 &&& (3 : Int32))), .val (.int (p2 &&& (1048575 : Int32))), .val (.ref b34), .val (.ref b38), .unset, .unset, .unset] [(.ref b34), (.ref b42), (.ref b42)])) _
          refine XS.aload X42.here hx rfl (hb hby at_132) rfl rfl ?_
          exact k
        obtain ⟨_, _, ⟨T43, L43, k43, n43⟩, -, X43, ⟨Lc43, hQ43, l43, y43, z43⟩, st43⟩ := X42.specialBack hx (y := (⟨"com/example/muster/muster/TermVector", "<init>", "([I[D)V"⟩ : MethodName)) rfl hown (mvT hZ (hw _ (List.mem_of_getElem? (i := 6) rfl))) (mvT hZ (hw _ (List.mem_of_getElem? (i := 7) rfl))) (mvT hZ (hw _ (List.mem_of_getElem? (i := 8) rfl))) (by decide) (backOf (W := 1) (rm1 l Z a0 hw [] b42 b34 b38 h42 n0 (Nat.le_trans (Nat.le_trans (Nat.le_trans (Nat.le_trans (Nat.le_trans (Nat.le_trans (Nat.le_trans (Nat.le_trans (Nat.le_trans Z0 E34.1) (Keep.of_wr W35).1) (Keep.of_wr W36).1) (Keep.of_wr W37).1) E38.1) (Keep.of_wr W39).1) (Keep.of_wr W40).1) (Keep.of_wr W41).1) E42.1) A42 g_b42 F42_terms F42_weights) hZ (hw _ (List.mem_of_getElem? (i := 8) rfl)) (hw _ (List.mem_of_getElem? (i := 5) rfl)) (by decide) (by decide)) (g := (mkF m 134 #[.val (.int p1), .val (.int p2), .val (.int (p1 &&& (3 : Int32))), .val (.int (p2 &&& (1048575 : Int32))), .val (.ref b34), .val (.ref b38), .unset, .unset, .unset] [(.ref b38), (.ref b34), (.ref b42), (.ref b42)])) rfl (by rw [hml]; rfl) (Steps.refl _) (a := b42) (argsL := [(.ref b34), (.ref b38)]) (rest := [(.ref b42)]) (lenOf own_pd0 rfl) rfl (by show 2 * 0 + _ ≤ _; exact Nat.le_of_eq rfl) (hb hby at_134) (fun _ _ => ⟨rfl, e42, (by decide : 3 + 0 ≤ _), (by decide : 8 + 0 ≤ _)⟩)
        dsimp only [Pt.U, Pt.locs, Pt.cells, Pt.slots] at X43 l43 y43 z43 st43 hQ43
        subst l43 y43 z43
        obtain ⟨rfl, N43q, K43q, E43q, F43t⟩ := hQ43
        have N43 := Fr.app N41 N43q
        have c43_V_b34 := c42_V_b34.keep K43q (fun q => ne_b34_b42 (List.mem_singleton.mp q))
        have c43_V_b38 := c42_V_b38.keep K43q (fun q => ne_b38_b42 (List.mem_singleton.mp q))
        have O43 := O42.keep K43q (allS g_b42 all0)
        refine own_go (B := T43.setTop (mkF m 137 #[.val (.int p1), .val (.int p2), .val (.int (p1 &&& (3 : Int32))), .val (.int (p2 &&& (1048575 : Int32))), .val (.ref b34), .val (.ref b38), .unset, .unset, .unset] [(.ref b42)])) (fun t k => st43.trans k) ?_
        refine own_go (B := T43.setTop (mkF m 141 #[.val (.int p1), .val (.int p2), .val (.int (p1 &&& (3 : Int32))), .val (.int (p2 &&& (1048575 : Int32))), .val (.ref b34), .val (.ref b38), .val (.ref b42), .unset, .unset] [(.ref b42)])) (fun t k => ?_) ?_
        · show Steps p.tables e below (T43.setTop (mkF m 137 #[.val (.int p1), .val (.int p2), .val (.int (p1 &&& (3 : Int32))), .val (.int (p2 &&& (1048575 : Int32))), .val (.ref b34), .val (.ref b38), .unset, .unset, .unset] [(.ref b42)])) _
          refine XS.astore X43.here hx rfl (hb hby at_137) rfl rfl (l' := #[.val (.int p1), .val (.int p2), .val (.int (p1 &&& (3 : Int32))), .val (.int (p2 &&& (1048575 : Int32))), .val (.ref b34), .val (.ref b38), .val (.ref b42), .unset, .unset]) rfl ?_
          show Steps p.tables e below (T43.setTop (mkF m 139 #[.val (.int p1), .val (.int p2), .val (.int (p1 &&& (3 : Int32))), .val (.int (p2 &&& (1048575 : Int32))), .val (.ref b34), .val (.ref b38), .val (.ref b42), .unset, .unset] [])) _
          refine XS.aload X43.here hx rfl (hb hby at_139) rfl rfl ?_
          exact k
        obtain ⟨cq44, kq44, q44a, q44b, q44c⟩ := isOf hZ rfl E43q
        obtain ⟨_, _, ⟨T44, L44, k44, n44⟩, -, X44, ⟨Lc44, hQ44, l44, y44, z44⟩, st44⟩ := X43.virtualBack hx (y := (⟨"com/example/muster/muster/TermVector", "isEmpty", "()Z"⟩ : MethodName)) (z := (⟨"com/example/muster/muster/TermVector", "isEmpty", "()Z"⟩ : MethodName)) hown (mvT hZ (hw _ (List.mem_of_getElem? (i := 16) rfl))) (mvT hZ (hw _ (List.mem_of_getElem? (i := 17) rfl))) (notFace_of_selects (args := #[]) (mvT hZ (hw _ (List.mem_of_getElem? (i := 19) rfl)))) (mvT hZ (hw _ (List.mem_of_getElem? (i := 19) rfl))) (mvT hZ (hw _ (List.mem_of_getElem? (i := 18) rfl))) (by decide) (backOf (W := 0) (rm3 l Z a0 hw [] b42 b34 k34 (3 : Int32) [(.int (p2 &&& (1048575 : Int32))), (.int ((p2 &&& (1048575 : Int32)) + (1 : Int32))), (.int ((p2 &&& (1048575 : Int32)) + (2 : Int32)))] (.int (0 : Int32)) (0 : Int32) T43.heap n0 (Nat.le_trans (Nat.le_trans (Nat.le_trans (Nat.le_trans (Nat.le_trans (Nat.le_trans (Nat.le_trans (Nat.le_trans (Nat.le_trans (Nat.le_trans Z0 E34.1) (Keep.of_wr W35).1) (Keep.of_wr W36).1) (Keep.of_wr W37).1) E38.1) (Keep.of_wr W39).1) (Keep.of_wr W40).1) (Keep.of_wr W41).1) E42.1) K43q.1) F43t c43_V_b34 (by decide)) hZ (hw _ (List.mem_of_getElem? (i := 20) rfl)) (hw _ (List.mem_of_getElem? (i := 5) rfl)) (by decide) (by decide)) q44a q44c (g := (mkF m 141 #[.val (.int p1), .val (.int p2), .val (.int (p1 &&& (3 : Int32))), .val (.int (p2 &&& (1048575 : Int32))), .val (.ref b34), .val (.ref b38), .val (.ref b42), .unset, .unset] [(.ref b42)])) rfl (by rw [hml]; rfl) (Steps.refl _) (argsL := []) (rest := []) (lenOf own_pd1 rfl) rfl (by show 2 * 0 + _ ≤ _; exact Nat.le_of_eq rfl) (hb hby at_141) (fun _ _ => ⟨rfl, rfl, (by decide : 3 + 0 ≤ _), (by decide : 8 + 0 ≤ _)⟩)
        dsimp only [Pt.U, Pt.locs, Pt.cells, Pt.slots] at X44 l44 y44 z44 st44 hQ44
        subst l44 y44 z44
        obtain ⟨rfl, N44q, eq44⟩ := hQ44
        have N44 := Fr.app N43 N44q
        refine own_go (B := T44.setTop (mkF m 144 #[.val (.int p1), .val (.int p2), .val (.int (p1 &&& (3 : Int32))), .val (.int (p2 &&& (1048575 : Int32))), .val (.ref b34), .val (.ref b38), .val (.ref b42), .unset, .unset] [(.int (0 : Int32))])) (fun t k => st44.trans k) ?_
        refine own_go (B := T44.setTop (mkF m 148 #[.val (.int p1), .val (.int p2), .val (.int (p1 &&& (3 : Int32))), .val (.int (p2 &&& (1048575 : Int32))), .val (.ref b34), .val (.ref b38), .val (.ref b42), .val (.int (0 : Int32)), .unset] [(.ref b42)])) (fun t k => ?_) ?_
        · show Steps p.tables e below (T44.setTop (mkF m 144 #[.val (.int p1), .val (.int p2), .val (.int (p1 &&& (3 : Int32))), .val (.int (p2 &&& (1048575 : Int32))), .val (.ref b34), .val (.ref b38), .val (.ref b42), .unset, .unset] [(.int (0 : Int32))])) _
          refine XS.istore X44.here hx rfl (hb hby at_144) rfl (l' := #[.val (.int p1), .val (.int p2), .val (.int (p1 &&& (3 : Int32))), .val (.int (p2 &&& (1048575 : Int32))), .val (.ref b34), .val (.ref b38), .val (.ref b42), .val (.int (0 : Int32)), .unset]) rfl ?_
          show Steps p.tables e below (T44.setTop (mkF m 146 #[.val (.int p1), .val (.int p2), .val (.int (p1 &&& (3 : Int32))), .val (.int (p2 &&& (1048575 : Int32))), .val (.ref b34), .val (.ref b38), .val (.ref b42), .val (.int (0 : Int32)), .unset] [])) _
          refine XS.aload X44.here hx rfl (hb hby at_146) rfl rfl ?_
          exact k
        obtain ⟨cq45, kq45, q45a, q45b, q45c⟩ := isOf hZ eq44 E43q
        obtain ⟨_, _, ⟨T45, L45, k45, n45⟩, -, X45, ⟨Lc45, hQ45, l45, y45, z45⟩, st45⟩ := X44.virtualBack hx (y := (⟨"com/example/muster/muster/TermVector", "size", "()I"⟩ : MethodName)) (z := (⟨"com/example/muster/muster/TermVector", "size", "()I"⟩ : MethodName)) hown (mvT hZ (hw _ (List.mem_of_getElem? (i := 21) rfl))) (mvT hZ (hw _ (List.mem_of_getElem? (i := 22) rfl))) (notFace_of_selects (args := #[]) (mvT hZ (hw _ (List.mem_of_getElem? (i := 24) rfl)))) (mvT hZ (hw _ (List.mem_of_getElem? (i := 24) rfl))) (mvT hZ (hw _ (List.mem_of_getElem? (i := 23) rfl))) (by decide) (backOf (W := 0) (rm4 l Z a0 hw [] b42 b34 k34 (3 : Int32) [(.int (p2 &&& (1048575 : Int32))), (.int ((p2 &&& (1048575 : Int32)) + (1 : Int32))), (.int ((p2 &&& (1048575 : Int32)) + (2 : Int32)))] (.int (0 : Int32)) T43.heap n0 (Nat.le_trans (Nat.le_trans (Nat.le_trans (Nat.le_trans (Nat.le_trans (Nat.le_trans (Nat.le_trans (Nat.le_trans (Nat.le_trans (Nat.le_trans Z0 E34.1) (Keep.of_wr W35).1) (Keep.of_wr W36).1) (Keep.of_wr W37).1) E38.1) (Keep.of_wr W39).1) (Keep.of_wr W40).1) (Keep.of_wr W41).1) E42.1) K43q.1) F43t c43_V_b34) hZ (hw _ (List.mem_of_getElem? (i := 25) rfl)) (hw _ (List.mem_of_getElem? (i := 5) rfl)) (by decide) (by decide)) q45a q45c (g := (mkF m 148 #[.val (.int p1), .val (.int p2), .val (.int (p1 &&& (3 : Int32))), .val (.int (p2 &&& (1048575 : Int32))), .val (.ref b34), .val (.ref b38), .val (.ref b42), .val (.int (0 : Int32)), .unset] [(.ref b42)])) rfl (by rw [hml]; rfl) (Steps.refl _) (argsL := []) (rest := []) (lenOf own_pd2 rfl) rfl (by show 2 * 0 + _ ≤ _; exact Nat.le_of_eq rfl) (hb hby at_148) (fun _ _ => ⟨rfl, eq44, (by decide : 3 + 0 ≤ _), (by decide : 8 + 0 ≤ _)⟩)
        dsimp only [Pt.U, Pt.locs, Pt.cells, Pt.slots] at X45 l45 y45 z45 st45 hQ45
        subst l45 y45 z45
        obtain ⟨rfl, N45q, eq45⟩ := hQ45
        have N45 := Fr.app N44 N45q
        refine own_go (B := T45.setTop (mkF m 151 #[.val (.int p1), .val (.int p2), .val (.int (p1 &&& (3 : Int32))), .val (.int (p2 &&& (1048575 : Int32))), .val (.ref b34), .val (.ref b38), .val (.ref b42), .val (.int (0 : Int32)), .unset] [(.int (3 : Int32))])) (fun t k => st45.trans k) ?_
        refine own_go (B := T45.setTop (mkF m 188 #[.val (.int p1), .val (.int p2), .val (.int (p1 &&& (3 : Int32))), .val (.int (p2 &&& (1048575 : Int32))), .val (.ref b34), .val (.ref b38), .val (.ref b42), .val (.int (0 : Int32)), .val (.int (3 : Int32))] [])) (fun t k => ?_) ?_
        · show Steps p.tables e below (T45.setTop (mkF m 151 #[.val (.int p1), .val (.int p2), .val (.int (p1 &&& (3 : Int32))), .val (.int (p2 &&& (1048575 : Int32))), .val (.ref b34), .val (.ref b38), .val (.ref b42), .val (.int (0 : Int32)), .unset] [(.int (3 : Int32))])) _
          refine XS.istore X45.here hx rfl (hb hby at_151) rfl (l' := #[.val (.int p1), .val (.int p2), .val (.int (p1 &&& (3 : Int32))), .val (.int (p2 &&& (1048575 : Int32))), .val (.ref b34), .val (.ref b38), .val (.ref b42), .val (.int (0 : Int32)), .val (.int (3 : Int32))]) rfl ?_
          show Steps p.tables e below (T45.setTop (mkF m 153 #[.val (.int p1), .val (.int p2), .val (.int (p1 &&& (3 : Int32))), .val (.int (p2 &&& (1048575 : Int32))), .val (.ref b34), .val (.ref b38), .val (.ref b42), .val (.int (0 : Int32)), .val (.int (3 : Int32))] [])) _
          refine XS.iload X45.here hx rfl (hb hby at_153) rfl ?_
          show Steps p.tables e below (T45.setTop (mkF m 155 #[.val (.int p1), .val (.int p2), .val (.int (p1 &&& (3 : Int32))), .val (.int (p2 &&& (1048575 : Int32))), .val (.ref b34), .val (.ref b38), .val (.ref b42), .val (.int (0 : Int32)), .val (.int (3 : Int32))] [(.int (0 : Int32))])) _
          refine XS.iloadN X45.here hx rfl (hb hby at_155) rfl ?_
          show Steps p.tables e below (T45.setTop (mkF m 156 #[.val (.int p1), .val (.int p2), .val (.int (p1 &&& (3 : Int32))), .val (.int (p2 &&& (1048575 : Int32))), .val (.ref b34), .val (.ref b38), .val (.ref b42), .val (.int (0 : Int32)), .val (.int (3 : Int32))] [(.int (p1 &&& (3 : Int32))), (.int (0 : Int32))])) _
          refine XS.ifYes X45.here hx rfl (pc0 := 156) (pc' := 163) rfl (hb hby at_156) rfl ((if0 _ _).trans (feq hc10_1).2) (by decide) (by decide) ?_
          show Steps p.tables e below (T45.setTop (mkF m 163 #[.val (.int p1), .val (.int p2), .val (.int (p1 &&& (3 : Int32))), .val (.int (p2 &&& (1048575 : Int32))), .val (.ref b34), .val (.ref b38), .val (.ref b42), .val (.int (0 : Int32)), .val (.int (3 : Int32))] [(.int (0 : Int32))])) _
          refine XS.iconst X45.here hx rfl (hb hby at_163) ?_
          show Steps p.tables e below (T45.setTop (mkF m 164 #[.val (.int p1), .val (.int p2), .val (.int (p1 &&& (3 : Int32))), .val (.int (p2 &&& (1048575 : Int32))), .val (.ref b34), .val (.ref b38), .val (.ref b42), .val (.int (0 : Int32)), .val (.int (3 : Int32))] [(.int (0 : Int32)), (.int (0 : Int32))])) _
          refine XS.icmpNo X45.here hx rfl (hb hby at_164) rfl (teq (by decide)).2 ?_
          show Steps p.tables e below (T45.setTop (mkF m 167 #[.val (.int p1), .val (.int p2), .val (.int (p1 &&& (3 : Int32))), .val (.int (p2 &&& (1048575 : Int32))), .val (.ref b34), .val (.ref b38), .val (.ref b42), .val (.int (0 : Int32)), .val (.int (3 : Int32))] [])) _
          refine XS.iload X45.here hx rfl (hb hby at_167) rfl ?_
          show Steps p.tables e below (T45.setTop (mkF m 169 #[.val (.int p1), .val (.int p2), .val (.int (p1 &&& (3 : Int32))), .val (.int (p2 &&& (1048575 : Int32))), .val (.ref b34), .val (.ref b38), .val (.ref b42), .val (.int (0 : Int32)), .val (.int (3 : Int32))] [(.int (3 : Int32))])) _
          refine XS.iloadN X45.here hx rfl (hb hby at_169) rfl ?_
          show Steps p.tables e below (T45.setTop (mkF m 170 #[.val (.int p1), .val (.int p2), .val (.int (p1 &&& (3 : Int32))), .val (.int (p2 &&& (1048575 : Int32))), .val (.ref b34), .val (.ref b38), .val (.ref b42), .val (.int (0 : Int32)), .val (.int (3 : Int32))] [(.int (p1 &&& (3 : Int32))), (.int (3 : Int32))])) _
          refine XS.icmpNo X45.here hx rfl (hb hby at_170) rfl (teq (own_three p1 hc10_1 hc28_10 hc54_21).symm).2 ?_
          show Steps p.tables e below (T45.setTop (mkF m 173 #[.val (.int p1), .val (.int p2), .val (.int (p1 &&& (3 : Int32))), .val (.int (p2 &&& (1048575 : Int32))), .val (.ref b34), .val (.ref b38), .val (.ref b42), .val (.int (0 : Int32)), .val (.int (3 : Int32))] [])) _
          refine XS.iload X45.here hx rfl (hb hby at_173) rfl ?_
          show Steps p.tables e below (T45.setTop (mkF m 175 #[.val (.int p1), .val (.int p2), .val (.int (p1 &&& (3 : Int32))), .val (.int (p2 &&& (1048575 : Int32))), .val (.ref b34), .val (.ref b38), .val (.ref b42), .val (.int (0 : Int32)), .val (.int (3 : Int32))] [(.int (0 : Int32))])) _
          refine XS.iload X45.here hx rfl (hb hby at_175) rfl ?_
          show Steps p.tables e below (T45.setTop (mkF m 177 #[.val (.int p1), .val (.int p2), .val (.int (p1 &&& (3 : Int32))), .val (.int (p2 &&& (1048575 : Int32))), .val (.ref b34), .val (.ref b38), .val (.ref b42), .val (.int (0 : Int32)), .val (.int (3 : Int32))] [(.int (3 : Int32)), (.int (0 : Int32))])) _
          refine XS.ifYes X45.here hx rfl (pc0 := 177) (pc' := 184) rfl (hb hby at_177) rfl ((if0 _ _).trans (feq (by decide)).2) (by decide) (by decide) ?_
          show Steps p.tables e below (T45.setTop (mkF m 184 #[.val (.int p1), .val (.int p2), .val (.int (p1 &&& (3 : Int32))), .val (.int (p2 &&& (1048575 : Int32))), .val (.ref b34), .val (.ref b38), .val (.ref b42), .val (.int (0 : Int32)), .val (.int (3 : Int32))] [(.int (0 : Int32))])) _
          refine XS.iconst X45.here hx rfl (hb hby at_184) ?_
          show Steps p.tables e below (T45.setTop (mkF m 185 #[.val (.int p1), .val (.int p2), .val (.int (p1 &&& (3 : Int32))), .val (.int (p2 &&& (1048575 : Int32))), .val (.ref b34), .val (.ref b38), .val (.ref b42), .val (.int (0 : Int32)), .val (.int (3 : Int32))] [(.int (0 : Int32)), (.int (0 : Int32))])) _
          refine XS.icmpNo X45.here hx rfl (hb hby at_185) rfl (teq (by decide)).2 ?_
          exact k
        obtain ⟨T46, X46, e46, st46⟩ := getS2 X45 hx hZ hown (host := "") (Or.inl (hw _ (List.mem_of_getElem? (i := 26) rfl))) Via.refl eq45 (S_E.ext O43.2) (g := (mkF m 188 #[.val (.int p1), .val (.int p2), .val (.int (p1 &&& (3 : Int32))), .val (.int (p2 &&& (1048575 : Int32))), .val (.ref b34), .val (.ref b38), .val (.ref b42), .val (.int (0 : Int32)), .val (.int (3 : Int32))] [])) rfl (hb hby at_188)
        refine own_go (B := T46.setTop (mkF m 191 #[.val (.int p1), .val (.int p2), .val (.int (p1 &&& (3 : Int32))), .val (.int (p2 &&& (1048575 : Int32))), .val (.ref b34), .val (.ref b38), .val (.ref b42), .val (.int (0 : Int32)), .val (.int (3 : Int32))] [(.ref w1)])) (fun t k => st46 _ k) ?_
        obtain ⟨cq47, kq47, q47a, q47b, q47c⟩ := isOf hZ e46 (E_w1.ext O43.2)
        obtain ⟨_, _, ⟨T47, L47, k47, n47⟩, -, X47, ⟨Lc47, hQ47, l47, y47, z47⟩, st47⟩ := X46.virtualBack hx (y := (⟨"com/example/muster/muster/TermVector", "isEmpty", "()Z"⟩ : MethodName)) (z := (⟨"com/example/muster/muster/TermVector", "isEmpty", "()Z"⟩ : MethodName)) hown (mvT hZ (hw _ (List.mem_of_getElem? (i := 16) rfl))) (mvT hZ (hw _ (List.mem_of_getElem? (i := 17) rfl))) (notFace_of_selects (args := #[]) (mvT hZ (hw _ (List.mem_of_getElem? (i := 19) rfl)))) (mvT hZ (hw _ (List.mem_of_getElem? (i := 19) rfl))) (mvT hZ (hw _ (List.mem_of_getElem? (i := 18) rfl))) (by decide) (backOf (W := 0) (rm3 l Z a0 hw [] w1 t1 kt (0 : Int32) [] (.int (0 : Int32)) (1 : Int32) T43.heap n0 (Nat.le_trans (Nat.le_trans (Nat.le_trans (Nat.le_trans (Nat.le_trans (Nat.le_trans (Nat.le_trans (Nat.le_trans (Nat.le_trans (Nat.le_trans Z0 E34.1) (Keep.of_wr W35).1) (Keep.of_wr W36).1) (Keep.of_wr W37).1) E38.1) (Keep.of_wr W39).1) (Keep.of_wr W40).1) (Keep.of_wr W41).1) E42.1) K43q.1) (F_w1.ext O43.2) (V_t1.ext O43.2) (by decide)) hZ (hw _ (List.mem_of_getElem? (i := 20) rfl)) (hw _ (List.mem_of_getElem? (i := 5) rfl)) (by decide) (by decide)) q47a q47c (g := (mkF m 191 #[.val (.int p1), .val (.int p2), .val (.int (p1 &&& (3 : Int32))), .val (.int (p2 &&& (1048575 : Int32))), .val (.ref b34), .val (.ref b38), .val (.ref b42), .val (.int (0 : Int32)), .val (.int (3 : Int32))] [(.ref w1)])) rfl (by rw [hml]; rfl) (Steps.refl _) (argsL := []) (rest := []) (lenOf own_pd1 rfl) rfl (by show 2 * 0 + _ ≤ _; exact Nat.le_of_eq rfl) (hb hby at_191) (fun _ _ => ⟨rfl, e46, (by decide : 3 + 0 ≤ _), (by decide : 8 + 0 ≤ _)⟩)
        dsimp only [Pt.U, Pt.locs, Pt.cells, Pt.slots] at X47 l47 y47 z47 st47 hQ47
        subst l47 y47 z47
        obtain ⟨rfl, N47q, eq47⟩ := hQ47
        have N47 := Fr.app N45 N47q
        refine own_go (B := T47.setTop (mkF m 194 #[.val (.int p1), .val (.int p2), .val (.int (p1 &&& (3 : Int32))), .val (.int (p2 &&& (1048575 : Int32))), .val (.ref b34), .val (.ref b38), .val (.ref b42), .val (.int (0 : Int32)), .val (.int (3 : Int32))] [(.int (1 : Int32))])) (fun t k => st47.trans k) ?_
        obtain ⟨fs, hr, hrun, hended, hW, hsame⟩ := X47.leave (v := some (.int (1 : Int32))) (fun h => by rw [Bd.returns] at h; cases h)
        refine ⟨_, _, ?_, hrun, hended, _, _, rfl, ?_, ⟨_, rfl⟩, hW, hsame.mono (by decide) (by decide)⟩
        · show Steps p.tables e below (T47.setTop (mkF m 194 #[.val (.int p1), .val (.int p2), .val (.int (p1 &&& (3 : Int32))), .val (.int (p2 &&& (1048575 : Int32))), .val (.ref b34), .val (.ref b38), .val (.ref b42), .val (.int (0 : Int32)), .val (.int (3 : Int32))] [(.int (1 : Int32))])) _
          refine XS.ifNo X47.here hx rfl (hb hby at_194) rfl ((if0 _ _).trans (feq (by decide)).1) ?_
          show Steps p.tables e below (T47.setTop (mkF m 197 #[.val (.int p1), .val (.int p2), .val (.int (p1 &&& (3 : Int32))), .val (.int (p2 &&& (1048575 : Int32))), .val (.ref b34), .val (.ref b38), .val (.ref b42), .val (.int (0 : Int32)), .val (.int (3 : Int32))] [])) _
          refine XS.iconst X47.here hx rfl (hb hby at_197) ?_
          show Steps p.tables e below (T47.setTop (mkF m 198 #[.val (.int p1), .val (.int p2), .val (.int (p1 &&& (3 : Int32))), .val (.int (p2 &&& (1048575 : Int32))), .val (.ref b34), .val (.ref b38), .val (.ref b42), .val (.int (0 : Int32)), .val (.int (3 : Int32))] [(.int (1 : Int32))])) _
          refine XS.goto X47.here hx rfl (pc0 := 198) (pc' := 202) rfl (hb hby at_198) (by decide) (by decide) ?_
          show Steps p.tables e below (T47.setTop (mkF m 202 #[.val (.int p1), .val (.int p2), .val (.int (p1 &&& (3 : Int32))), .val (.int (p2 &&& (1048575 : Int32))), .val (.ref b34), .val (.ref b38), .val (.ref b42), .val (.int (0 : Int32)), .val (.int (3 : Int32))] [(.int (1 : Int32))])) _
          exact retN X47 hx (t := .boolean) Bd.returns (by simp) (hb hby at_202) hr
        · show Q0 Z p1 p2 w1 t1 kt h0 n0 _ T47.heap _
          rw [eq47]
          exact ⟨rfl, N47⟩
set_option maxRecDepth 65536 in
set_option maxHeartbeats 40000000 in
theorem comes_1 {Post : Tables → Env → Array Value → State → Outcome → State → Prop} (hpost : ∀ tb e args s v u, (limb_1_1.after args s (.returned v) u = true ∧ limb_1_2.after args s (.returned v) u = true ∧ True) → FrameEnd s (.returned v) u (Jvm.fieldLocs frame_1_writes args s ++ Jvm.arrayLocs frame_1_arrays args s ++ Jvm.staticLocs frame_1_statics s) 16 128 → Post tb e args s (.returned v) u) :
    ArmFor flags0 classFile x code maxLocals ret World_1 tables_1 room_1 Calls_1 rest_1 Pre_1 Post := by
  intro l hfl _ _ p e ha hc hk s m args below hf hA hF happ hP
  obtain ⟨hcalls, hrest, hpre⟩ := hP
  obtain ⟨-, -, -, hnamed, -, -, -, hat⟩ := (Spec.applies_iff hf).mp happ
  obtain ⟨hg, hn⟩ := and_e (Cond.before_iff.mp (show (Jvm.Cond.and given_1 narrow_1).before args s = true from hpre))
  obtain ⟨gc, ga0⟩ := and_e hg
  obtain ⟨ha0, ga1⟩ := and_e ga0
  obtain ⟨w0, w1, rfl⟩ : ∃ w0 w1 : Value, args = #[w0, w1] := by
    have hs : args.size = 2 := by simpa [Cond.value, given_1] using gc
    obtain ⟨L⟩ := args
    match L, hs with
    | [w0, w1], _ => exact ⟨w0, w1, rfl⟩
  have hw := fun d (hd : d ∈ tables_1) => atoms_spec (ws := Jvm.Cond.code x code maxLocals ret :: tables_1) hat d (List.mem_cons_of_mem _ hd)
  have hfit : Fit s := fun {y c} hc i hi => by
    obtain ⟨ha, rfl⟩ := Array.getElem?_eq_some_iff.mp hc
    have q := List.all_eq_true.mp ((Array.all_eq_true_iff_forall_mem.mp hF) _ (Array.getElem_mem ha)) i (List.mem_range.mpr hi)
    simpa [Array.getElem?_eq_getElem hi] using q
  obtain ⟨i0, ei0⟩ := is_v ha0
  obtain rfl : w0 = (.int i0) := Option.some.inj ei0
  obtain ⟨i1, ei1⟩ := is_v ga1
  obtain rfl : w1 = (.int i1) := Option.some.inj ei1
  obtain ⟨hx0, hy0⟩ := and_e hn
  obtain ⟨hx1, hx2⟩ := and_e hy0
  obtain ⟨w1, ev⟩ := exa_v hx0
  have S_E : Sta s s.heap "com/example/muster/muster/TermVector" "EMPTY" "Lcom/example/muster/muster/TermVector;" (.ref w1) := Sta.start ev (Or.inr ⟨(hw _ (List.mem_of_getElem? (i := 5) rfl)), (hw _ (List.mem_of_getElem? (i := 27) rfl))⟩)
  have E_w1 : Exa s s.heap w1 "com/example/muster/muster/TermVector" := Exa.start ev hx0
  obtain ⟨t1, ev2⟩ := arr_v hx1
  have F_w1 : Fld s s.heap w1 "com/example/muster/muster/TermVector" "terms" "[I" (.ref t1) := Fld.start (by rw [← fld_at ev]; exact ev2)
  obtain ⟨kt, V_t1⟩ := own_empty hfit ev2 hx1 hx2
  obtain ⟨n, o, h1, h2, h3, _, L, rfl, ⟨rfl, N⟩, hq⟩ := rm0 l s _ hw tables_1 i0 i1 w1 t1 kt s.heap s.heap.size (Nat.le_refl _) S_E E_w1 F_w1 V_t1 (Old.start s) p e ha hc hk s m _ below hf ((Spec.applies_iff_loose hf).mp happ).1 ⟨rfl, State.Warmed39.refl s, rfl⟩ trivial
  refine ⟨n, _, h1, h2, h3, hpost _ _ _ _ _ _ ⟨Cond.after_iff.mpr rfl, Cond.after_iff.mpr (eq_i res_at (Term.int_eval (1)) rfl), trivial⟩ ⟨hq.1, hq.2.1, (hq.2.2.sift fun y hy => Or.inr (N y hy)).mono (by decide) (by decide)⟩⟩
theorem main_1_1 : Claimed_1_1 := comes_1 fun _ _ _ _ _ _ h hF => ⟨h.1, hF⟩
theorem main_1_2 : Claimed_1_2 := comes_1 fun _ _ _ _ _ _ h hF => ⟨h.2.1, hF⟩
end Jvm.Pilot.@@N@@
namespace Jvm.Pilot.@@N@@
open Jvm Jvm.ClassFile Sem Op Lib Jvm.Free Jvm.Stand Jvm.Pilot.@@N@@.Jvm.D
/-! MADE BY PROGRAM (witnessworld.py) out of the Statement's table words and the real class files: 9 classes; the members and pool entries that the words name. The judged class is class 1, her method 1. -/
namespace start1
open Jvm.ClassFile
def u (s : String) : CpInfo := .utf8 (stringToUtf16 s)
/-- a pool by its gaps: so many unusable entries, then the entry; so many at the end -/
def gap : Nat → List CpInfo → List CpInfo
  | 0, r => r
  | n + 1, r => .unusable :: gap n r
def poolList (es : List (Nat × CpInfo)) (last : Nat) : List CpInfo := es.foldr (fun e r => gap e.1 (e.2 :: r)) (gap last [])
def pool (es : List (Nat × CpInfo)) (last : Nat) : Array CpInfo := ⟨poolList es last⟩
def fileOf (pool : Array CpInfo) (this : Nat) (attrs : Array Attribute := #[]) (ms : Array MethodInfo := #[]) (fl : Nat := 33) (sup : Nat := 0) (ifs : Array Nat := #[]) (fds : Array FieldInfo := #[]) : ClassFile where
  minorVersion := 0
  majorVersion := 65
  constantPool := pool
  accessFlags := fl
  thisClass := this
  superClass := sup
  interfaces := ifs
  fields := fds
  methods := ms
  attributes := attrs
def plain (name : String) (sup : Option ClassId) : Class where
  name := name
  kind := .ordinary
  loader := none
  accessFlags := 33
  super := sup
  interfaces := #[]
  cf := none
  fields := #[]
  methods := #[]
  instanceTypes := #[]
  staticTypes := #[]
  resolved := #[]
  callSites := []
  init := .initialized
  statics := none
  mirror := none

def pool0 : Array CpInfo := pool [(5, u "<init>"), (0, u "()V"), (1, .class_ 10), (1, u "java/lang/Object")] 113

def k0c0 : Code := { maxStack := 0, maxLocals := 1, code := object_method_1_code, exceptionTable := #[], attributes := #[] }
def k0m0 : Method := { name := "<init>", desc := "()V", sig := { parameters := [], returnType := none }, accessFlags := 1, code := some k0c0 }
/-- java/lang/Object -/
def k0 : Class := { plain "java/lang/Object" none with
  accessFlags := 33
  interfaces := #[]
  cf := some (fileOf pool0 8 #[] #[{ accessFlags := 1, nameIndex := 5, descriptorIndex := 6, attributes := #[] }] 33 0 #[] #[])
  fields := #[]
  methods := #[k0m0]
  instanceTypes := #[]
  staticTypes := #[]
  resolved := Array.replicate 124 none
  statics := none }

def pool1 : Array CpInfo := pool [(2, .class_ 4), (1, u "java/lang/Object"), (0, u "<init>"), (0, u "()V"), (0, .integer 1048575), (0, .class_ 9), (0, u "com/example/muster/muster/TermVector"), (0, .methodref 8 11), (0, .nameAndType 5 12), (0, u "([I[D)V"), (0, .methodref 8 14), (0, .nameAndType 15 16), (0, u "isEmpty"), (0, u "()Z"), (0, .methodref 8 18), (0, .nameAndType 19 20), (0, u "size"), (0, u "()I"), (0, .fieldref 8 22), (0, .nameAndType 23 24), (0, u "EMPTY"), (0, u "Lcom/example/muster/muster/TermVector;"), (0, .class_ 26), (0, u "com/example/muster/muster/TermVectorIsEmptyPinLaw"), (2, u "law"), (0, u "(II)Z")] 7

def k1m0 : Method := { name := "<init>", desc := "()V", sig := { parameters := [], returnType := none }, accessFlags := 2, code := none }
def k1c1 : Code := { maxStack := 5, maxLocals := 9, code := code, exceptionTable := #[], attributes := #[] }
def k1m1 : Method := { name := "law", desc := "(II)Z", sig := { parameters := [.int, .int], returnType := some .boolean }, accessFlags := 9, code := some k1c1 }
/-- com/example/muster/muster/TermVectorIsEmptyPinLaw -/
def k1 : Class := { plain "com/example/muster/muster/TermVectorIsEmptyPinLaw" (some 0) with
  accessFlags := 49
  interfaces := #[]
  cf := some (fileOf pool1 25 #[] #[{ accessFlags := 2, nameIndex := 5, descriptorIndex := 6, attributes := #[] }, { accessFlags := 9, nameIndex := 29, descriptorIndex := 30, attributes := #[] }] 49 2 #[] #[])
  fields := #[]
  methods := #[k1m0, k1m1]
  instanceTypes := #[]
  staticTypes := #[]
  resolved := Array.replicate 38 none
  statics := none }

def pool2 : Array CpInfo := pool [(1, .methodref 2 3), (0, .class_ 4), (0, .nameAndType 5 6), (0, u "java/lang/Object"), (0, u "<init>"), (0, u "()V"), (0, .fieldref 8 9), (0, .class_ 10), (0, .nameAndType 11 12), (0, u "com/example/muster/muster/TermVector"), (0, u "terms"), (0, u "[I"), (0, .fieldref 8 14), (0, .nameAndType 15 16), (0, u "weights"), (0, u "[D"), (8, u "()Z"), (22, u "size"), (0, u "()I"), (15, u "isEmpty"), (2, u "EMPTY"), (0, u "Lcom/example/muster/muster/TermVector;"), (40, u "([I[D)V")] 63

def k2c0 : Code := { maxStack := 2, maxLocals := 3, code := prog_20_method_1_code, exceptionTable := #[], attributes := #[] }
def k2m0 : Method := { name := "<init>", desc := "([I[D)V", sig := { parameters := [(.array .int), (.array .double)], returnType := none }, accessFlags := 0, code := some k2c0 }
def k2c1 : Code := { maxStack := 1, maxLocals := 1, code := prog_20_method_3_code, exceptionTable := #[], attributes := #[] }
def k2m1 : Method := { name := "size", desc := "()I", sig := { parameters := [], returnType := some .int }, accessFlags := 0, code := some k2c1 }
def k2c2 : Code := { maxStack := 1, maxLocals := 1, code := prog_20_method_4_code, exceptionTable := #[], attributes := #[] }
def k2m2 : Method := { name := "isEmpty", desc := "()Z", sig := { parameters := [], returnType := some .boolean }, accessFlags := 0, code := some k2c2 }
/-- com/example/muster/muster/TermVector -/
def k2 : Class := { plain "com/example/muster/muster/TermVector" (some 0) with
  accessFlags := 48
  interfaces := #[]
  cf := some (fileOf pool2 8 #[] #[{ accessFlags := 0, nameIndex := 5, descriptorIndex := 110, attributes := #[] }, { accessFlags := 0, nameIndex := 48, descriptorIndex := 49, attributes := #[] }, { accessFlags := 0, nameIndex := 65, descriptorIndex := 25, attributes := #[] }] 48 2 #[] #[{ accessFlags := 24, nameIndex := 68, descriptorIndex := 69, attributes := #[] }, { accessFlags := 18, nameIndex := 11, descriptorIndex := 12, attributes := #[] }, { accessFlags := 18, nameIndex := 15, descriptorIndex := 16, attributes := #[] }])
  fields := #[{ name := "EMPTY", type := (.object "com/example/muster/muster/TermVector"), accessFlags := 24, slot := 0, constantValue := 0 }, { name := "terms", type := (.array .int), accessFlags := 18, slot := 0, constantValue := 0 }, { name := "weights", type := (.array .double), accessFlags := 18, slot := 1, constantValue := 0 }]
  methods := #[k2m0, k2m1, k2m2]
  instanceTypes := #[(.array .int), (.array .double)]
  staticTypes := #[(.object "com/example/muster/muster/TermVector")]
  resolved := Array.replicate 174 none
  statics := some 0 }

def pool3 : Array CpInfo := pool [(1, u "java/lang/Cloneable"), (0, .class_ 1), (0, u "java/lang/Object"), (0, .class_ 3)] 3

/-- java/lang/Cloneable -/
def k3 : Class := { plain "java/lang/Cloneable" (some 0) with
  accessFlags := 1537
  interfaces := #[]
  cf := some (fileOf pool3 2 #[] #[] 1537 4 #[] #[])
  fields := #[]
  methods := #[]
  instanceTypes := #[]
  staticTypes := #[]
  resolved := Array.replicate 8 none
  statics := none }

def pool4 : Array CpInfo := pool [(1, u "java/io/Serializable"), (0, .class_ 1), (0, u "java/lang/Object"), (0, .class_ 3)] 3

/-- java/io/Serializable -/
def k4 : Class := { plain "java/io/Serializable" (some 0) with
  accessFlags := 1537
  interfaces := #[]
  cf := some (fileOf pool4 2 #[] #[] 1537 4 #[] #[])
  fields := #[]
  methods := #[]
  instanceTypes := #[]
  staticTypes := #[]
  resolved := Array.replicate 8 none
  statics := none }

/-- the primitive byte -/
def k5 : Class := { plain "byte" none with kind := .primitive 'B', accessFlags := 0x411 }
/-- [B -/
def k6 : Class := { plain "[B" (some 0) with kind := .array 5 .byte, interfaces := #[3, 4], accessFlags := 1041 }

/-- the primitive int -/
def k7 : Class := { plain "int" none with kind := .primitive 'I', accessFlags := 0x411 }
/-- [I -/
def k8 : Class := { plain "[I" (some 0) with kind := .array 7 .int, interfaces := #[3, 4], accessFlags := 1041 }

/-- the primitive double -/
def k9 : Class := { plain "double" none with kind := .primitive 'D', accessFlags := 0x411 }
/-- [D -/
def k10 : Class := { plain "[D" (some 0) with kind := .array 9 .double, interfaces := #[3, 4], accessFlags := 1041 }

def heap : Heap := #[{ cls := 2, slots := #[.ref 2], vm := .statics 2 },
  { cls := 8, slots := #[], vm := .none },
  { cls := 2, slots := #[.ref 1, .null], vm := .none }]
def classes : Array Class := #[k0, k1, k2, k3, k4, k5, k6, k7, k8, k9, k10]
def interned : List (Array UInt16 × Addr) := []
def slotsUsed : Nat := 3
def theMethod : MethodId := ⟨1, 1⟩
def args0 : Array Value := #[.int 1, .int 2]
def aboutOver (below : List Frame) : State where
  vm := { classes := classes, interned := interned.toArray }
  heap := heap
  slotsUsed := slotsUsed
  threads := #[{ frames := .invoking theMethod args0 :: below }]
def below0 : List Frame := [.native { method := ⟨0, 0⟩, args := #[] }]
def about1 : State := aboutOver below0
def p0 : Program := .bare "" "" ""
def e0 : Env := launch0.env 0 0 0
theorem w_frames : about1.frames = Frame.invoking theMethod args0 :: below0 := rfl
set_option maxRecDepth 65536 in
theorem w_args : argsFit about1.vm theMethod args0 = true := by decide +kernel
set_option maxRecDepth 65536 in
theorem w_heap : heapFits about1 = true := by decide +kernel
set_option maxRecDepth 65536 in
theorem w_runnable : about1.curStatus? = some .runnable := by decide +kernel
set_option maxRecDepth 65536 in
theorem w_alone : about1.alone = true := by decide +kernel
set_option maxRecDepth 65536 in
theorem w_named : about1.methodNamed? x = some theMethod := by decide +kernel
set_option maxRecDepth 65536 in
theorem w_hears : about1.hears theMethod below0 = true := by decide +kernel
set_option maxRecDepth 65536 in
theorem w_ripe : about1.ripe theMethod args0 below0 = true := by decide +kernel
theorem w_running : about1.status = .running := rfl
set_option maxRecDepth 65536 in
theorem w_room : about1.hasRoom e0.platform room_1 = true :=
  launch0.hasRoom_least _ room_1 (by decide +kernel) (by decide +kernel) (by decide +kernel) (by decide +kernel) (by decide +kernel) (by decide +kernel)
theorem allAtoms_all (ts : List Jvm.Cond) (a : Array Jvm.Value) (st : Jvm.State) : (allAtoms ts).before a st = ts.all (fun c => c.before a st) := by
  induction ts with
  | nil => rfl
  | cons c t ih =>
    show (Jvm.Cond.and c (allAtoms t)).before a st = _
    rw [Jvm.Cond.before_and, ih, List.all_cons]
def words1 : List Jvm.Cond := Jvm.Cond.code x code maxLocals ret :: tables_1
/-- a 'code' word, met by the world's own term for the bytes: nothing is compared byte by byte -/
theorem code_word {y : MethodName} {bytes : ByteArray} {mx : Nat} {rt : Option FieldType} {a : Array Value} {s : State} {m : MethodId} {meth : Method} {c : Code} (h1 : s.methodNamed? y = some m) (h2 : s.vm.method? m = some meth) (h3 : meth.code = some c) (h4 : c.code = bytes)
    (h5 : (c.maxLocals == mx && c.exceptionTable.isEmpty && decide (c.maxStack ≤ mostOperands) && decide (meth.sig.returnType = rt) && !meth.locks && decide (parseMethodDescriptor y.desc = some meth.sig)) = true) : (Jvm.Cond.code y bytes mx rt).before a s = true := by
  simp only [Bool.and_eq_true, beq_iff_eq, Bool.not_eq_true', decide_eq_true_eq] at h5
  obtain ⟨⟨⟨⟨⟨g1, g2⟩, g3⟩, g4⟩, g5⟩, g6⟩ := h5
  simp [Cond.before, Cond.holds, Cond.value, h1, h2, h3, h4, g1, g2, g3, g4, g5, g6]
def isCode : Jvm.Cond → Bool
  | .code _ _ _ _ => true
  | _ => false
theorem all_split {L : List Jvm.Cond} {P : Jvm.Cond → Bool} (h1 : L.all (fun c => isCode c || P c) = true) (h2 : ∀ c ∈ L.filter isCode, P c = true) : L.all P = true := by
  refine List.all_eq_true.mpr fun c hc => ?_
  have h := List.all_eq_true.mp h1 c hc
  rcases Bool.eq_false_or_eq_true (isCode c) with hi | hi
  · exact h2 c (List.mem_filter.mpr ⟨hc, hi⟩)
  · simpa [hi] using h
set_option maxRecDepth 65536 in
theorem w_c0 : (Jvm.Cond.code x code maxLocals ret).before args0 about1 = true := code_word (m := ⟨1, 1⟩) (meth := k1m1) (c := k1c1) (by decide +kernel) rfl rfl rfl (by decide +kernel)
set_option maxRecDepth 65536 in
theorem w_c1 : (Jvm.Cond.code ({ cls := "com/example/muster/muster/TermVector", name := "<init>", desc := "([I[D)V" } : Jvm.MethodName) prog_20_method_1_code (3 : Nat) (Option.none : Option Jvm.ClassFile.FieldType)).before args0 about1 = true := code_word (m := ⟨2, 0⟩) (meth := k2m0) (c := k2c0) (by decide +kernel) rfl rfl rfl (by decide +kernel)
set_option maxRecDepth 65536 in
theorem w_c2 : (Jvm.Cond.code ({ cls := "java/lang/Object", name := "<init>", desc := "()V" } : Jvm.MethodName) object_method_1_code (1 : Nat) (Option.none : Option Jvm.ClassFile.FieldType)).before args0 about1 = true := code_word (m := ⟨0, 0⟩) (meth := k0m0) (c := k0c0) (by decide +kernel) rfl rfl rfl (by decide +kernel)
set_option maxRecDepth 65536 in
theorem w_c3 : (Jvm.Cond.code ({ cls := "com/example/muster/muster/TermVector", name := "isEmpty", desc := "()Z" } : Jvm.MethodName) prog_20_method_4_code (1 : Nat) (Option.some Jvm.ClassFile.FieldType.boolean)).before args0 about1 = true := code_word (m := ⟨2, 2⟩) (meth := k2m2) (c := k2c2) (by decide +kernel) rfl rfl rfl (by decide +kernel)
set_option maxRecDepth 65536 in
theorem w_c4 : (Jvm.Cond.code ({ cls := "com/example/muster/muster/TermVector", name := "size", desc := "()I" } : Jvm.MethodName) prog_20_method_3_code (1 : Nat) (Option.some Jvm.ClassFile.FieldType.int)).before args0 about1 = true := code_word (m := ⟨2, 1⟩) (meth := k2m1) (c := k2c1) (by decide +kernel) rfl rfl rfl (by decide +kernel)
def codes1 : List Jvm.Cond := [Jvm.Cond.code x code maxLocals ret, Jvm.Cond.code ({ cls := "com/example/muster/muster/TermVector", name := "<init>", desc := "([I[D)V" } : Jvm.MethodName) prog_20_method_1_code (3 : Nat) (Option.none : Option Jvm.ClassFile.FieldType), Jvm.Cond.code ({ cls := "java/lang/Object", name := "<init>", desc := "()V" } : Jvm.MethodName) object_method_1_code (1 : Nat) (Option.none : Option Jvm.ClassFile.FieldType), Jvm.Cond.code ({ cls := "com/example/muster/muster/TermVector", name := "isEmpty", desc := "()Z" } : Jvm.MethodName) prog_20_method_4_code (1 : Nat) (Option.some Jvm.ClassFile.FieldType.boolean), Jvm.Cond.code ({ cls := "com/example/muster/muster/TermVector", name := "size", desc := "()I" } : Jvm.MethodName) prog_20_method_3_code (1 : Nat) (Option.some Jvm.ClassFile.FieldType.int)]
set_option maxRecDepth 65536 in
theorem codes_eq : words1.filter isCode = codes1 := rfl
theorem w_codes : ∀ c ∈ words1.filter isCode, c.before args0 about1 = true := by
  rw [codes_eq]
  intro c hc
  simp only [codes1, List.mem_cons, List.not_mem_nil, or_false] at hc
  rcases hc with rfl | rfl | rfl | rfl | rfl
  · exact w_c0
  · exact w_c1
  · exact w_c2
  · exact w_c3
  · exact w_c4
set_option maxRecDepth 65536 in
theorem w_t1 : (words1.take 24).all (fun c => isCode c || c.before args0 about1) = true := by decide +kernel
set_option maxRecDepth 65536 in
theorem w_t2 : (words1.drop 24).all (fun c => isCode c || c.before args0 about1) = true := by decide +kernel
theorem w_tables : (allAtoms (Jvm.Cond.code x code maxLocals ret :: tables_1)).before args0 about1 = true := by
  rw [allAtoms_all]
  show words1.all (fun c => c.before args0 about1) = true
  refine all_split ?_ w_codes
  rw [← List.take_append_drop 24 words1, List.all_append, w_t1, w_t2]
  rfl
set_option maxRecDepth 65536 in
theorem w_case : (Jvm.Cond.and given_1 narrow_1).before args0 about1 = true := by decide +kernel
theorem w_applies : (headSpec (Jvm.Cond.code x code maxLocals ret :: tables_1) room_1).applies x e0.platform about1 = true :=
  (Spec.applies_iff w_frames).mpr ⟨w_running, w_runnable, w_alone, w_named, w_hears, w_ripe, w_room, w_tables⟩
theorem atStart : AtStart classFile x code maxLocals ret World_1 tables_1 room_1 Calls_1 rest_1 Pre_1 launch0 p0 e0 about1 theMethod args0 below0 :=
  ⟨lists_1, trivial, launch0.admits_env _ _ _, launch0.least_env, fairChoices_fair.cas, fairChoices_fair.clock, w_frames, w_args, w_heap, w_applies, trivial, trivial, w_case⟩
end start1
theorem witness_1 : WitnessClaimed_1 := ⟨start1.p0, start1.e0, start1.about1, start1.theMethod, start1.args0, start1.below0, start1.atStart⟩
end Jvm.Pilot.@@N@@
