import JvmDerived
import JvmDerived.Pilot.@@N@@Statement
import JvmDerived.Pilot.@@N@@Code
set_option linter.unusedVariables false
set_option linter.unusedSimpArgs false
namespace Jvm.RoadKit
open Sem ClassFile Op Lib Jvm.Stand Jvm.Free Jvm.LawKit
section New
variable {p : Program} {l : Launch} {e : Env} {R : Room} {s : State} {m : MethodId} {args : Array Value} {below : List Frame} {meth : Method} {c : Code} {T : State} {locs : List Loc} {cells slots : Nat}
theorem retI (X : Stand p l e R s m args below meth c T locs cells slots) (hx : p.tables.exec = Jvm.exec) {pc : Nat} {Ls : Array Slot} {z : Int32} {rest : List Value} (hret : meth.sig.returnType = some .int) (hd : decode c.code pc = .ok (.ireturn, 1)) {fs : List Frame}
    (hl : ∀ (f : JFrame) (acts : List Action), f.method = m → f.locked = none → f.entered = [] → (doReturn e (T.setTop f) acts (some (.int z))).1 = T.setFrames fs) : Steps p.tables e below (T.setTop (mkF m pc Ls (.int z :: rest))) (T.setFrames fs) := by
  have hm' : T.vm.method? m = some meth := X.method'
  have hn : narrow .int (.int z) = .int z := rfl
  show Steps p.tables e below (T.setTop { method := m, pc := pc, locals := Ls, stack := _ :: rest, locked := none }) _
  jvm_step X.here [X.here.top, hx, hd, hm', hret, hn]
  first | (intro acts; rw [hl _ acts rfl rfl rfl]) | rw [hl _ _ rfl rfl rfl]
  exact Steps.refl _
end New
end Jvm.RoadKit
namespace Jvm.Pilot.@@N@@
open Jvm Jvm.ClassFile Sem Op Lib Jvm.Free Jvm.Stand Jvm.LawKit Jvm.RoadKit Bundle Jvm.Pilot.@@N@@.Jvm.D
theorem own_go {tb : Tables} {e : Env} {below : List Frame} {A B : State} {R : State → Outcome → Prop} (h : ∀ t, Steps tb e below B t → Steps tb e below A t) (k : ∃ s₂ o, Steps tb e below B s₂ ∧ R s₂ o) : ∃ s₂ o, Steps tb e below A s₂ ∧ R s₂ o := by
  obtain ⟨s₂, o, h1, h2⟩ := k
  exact ⟨s₂, o, h _ h1, h2⟩
theorem own_pd0 : parseMethodDescriptor "(I)V" = some ⟨[.int], none⟩ := by decide +kernel
theorem own_pd1 : parseMethodDescriptor "()J" = some ⟨[], some .long⟩ := by decide +kernel
theorem own_pd2 : parseMethodDescriptor "(II)V" = some ⟨[.int, .int], none⟩ := by decide +kernel
theorem own_pd3 : parseMethodDescriptor "(II)J" = some ⟨[.int, .int], some .long⟩ := by decide +kernel
def own_step (u1 : Int32) (u2 : Int32) : Int64 := (if u1 = u2 then (0 : Int64) else (1 : Int64))
theorem pn_5 : plainName "com/example/inkremental/inkremental/engine/PartitionsSendPinLaw" = true := by first | (simp [plainName, overriddenIn]; done) | decide +kernel
theorem d5_0 : decode method_2_code 0 = .ok (.iload_n 0, 1) := by decide +kernel
theorem d5_1 : decode method_2_code 1 = .ok (.iload_n 1, 1) := by decide +kernel
theorem d5_2 : decode method_2_code 2 = .ok (.if_icmp .ne 5, 3) := by decide +kernel
theorem d5_5 : decode method_2_code 5 = .ok (.lconst 0, 1) := by decide +kernel
theorem d5_6 : decode method_2_code 6 = .ok (.lreturn, 1) := by decide +kernel
theorem d5_7 : decode method_2_code 7 = .ok (.lconst 1, 1) := by decide +kernel
theorem d5_8 : decode method_2_code 8 = .ok (.lreturn, 1) := by decide +kernel
theorem ef_5 (m : MethodId) (x0 : Int32) (x1 : Int32) : entryFrame m #[(.int x0), (.int x1)] 2 = mkF m 0 #[.val (.int x0), .val (.int x1)] [] := by first | (simp [entryFrame, mkF, argsToLocals, Value.category]; done) | rfl
def Q5 (Z : State) (u1 : Int32) (u2 : Int32) (h0 : Heap) (n0 : Nat) (v : Option Value) (h : Heap) (L : List Loc) : Prop := v = some (.long (own_step u1 u2)) ∧ Fr n0 L ∧ h = h0
set_option maxRecDepth 65536 in
set_option maxHeartbeats 40000000 in
theorem rm5 (l : Launch) (Z : State) (a0 : Array Value) (hw : ∀ d ∈ tables_1, d.before a0 Z = true) (ws : List Jvm.Cond) (u1 : Int32) (u2 : Int32) (h0 : Heap) (n0 : Nat) (Z0 : n0 ≤ h0.size) :
    MetFree l (⟨"com/example/inkremental/inkremental/engine/PartitionsSendPinLaw", "step", "(II)J"⟩ : MethodName) (head1 (Jvm.Cond.code (⟨"com/example/inkremental/inkremental/engine/PartitionsSendPinLaw", "step", "(II)J"⟩ : MethodName) method_2_code 2 (some .long) :: ws) ({ frames := 0, cells := 0, slots := 0, locals := 0 } : Room)) (fun a U => a = #[(.int u1), (.int u2)] ∧ Z.Warmed39 U.vm ∧ U.heap = h0) (fun _ _ _ _ _ => True) (fun _ U o U' => ∃ v L, o = .returned v ∧ Q5 Z u1 u2 h0 n0 v U'.heap L ∧ FrameEnd U o U' L ({ frames := 0, cells := 0, slots := 0, locals := 0 } : Room).cells ({ frames := 0, cells := 0, slots := 0, locals := 0 } : Room).slots) := by
  refine MetFree.of_bodySF (plainFor_of_name pn_5) hisR ?_
  intro p e s m args below meth c s₁ Bd hml0 hP hK
  obtain ⟨rfl, hZ, hh⟩ := hP
  have hx := Bd.exec
  have hby := Bd.bytes
  have hml : c.maxLocals = 2 := hml0
  have hown : s.vm.findClass "com/example/inkremental/inkremental/engine/PartitionsSendPinLaw" = some m.cls := findClass_of_methodNamed Bd.named
  have hnm := (name_of_methodNamed Bd.named Bd.method).1
  have X0 : Stand p l e ({ frames := 0, cells := 0, slots := 0, locals := 0 } : Room) s m #[(.int u1), (.int u2)] below meth c s₁ [] 0 0 := Stand.of_body Bd
  have e0 : s₁.heap = h0 := by rw [← hh, Bd.state]; rfl
  have N0 := Fr.nil n0
  refine own_go (B := s₁.setTop (mkF m 0 #[.val (.int u1), .val (.int u2)] [])) (fun t k => castTop (ef_5 m u1 u2) k) ?_
  refine own_go (B := s₁.setTop (mkF m 2 #[.val (.int u1), .val (.int u2)] [(.int u2), (.int u1)])) (fun t k => ?_) ?_
  · show Steps p.tables e below (s₁.setTop (mkF m 0 #[.val (.int u1), .val (.int u2)] [])) _
    refine XS.iloadN X0.here hx rfl (hb hby d5_0) rfl ?_
    show Steps p.tables e below (s₁.setTop (mkF m 1 #[.val (.int u1), .val (.int u2)] [(.int u1)])) _
    refine XS.iloadN X0.here hx rfl (hb hby d5_1) rfl ?_
    exact k
  by_cases hc2_1 : u1 = u2
  · obtain ⟨fs, hr, hrun, hended, hW, hsame⟩ := X0.leave (v := some (.long (0 : Int64))) (fun h => by rw [Bd.returns] at h; cases h)
    refine ⟨_, _, ?_, hrun, hended, _, _, rfl, ?_, ⟨_, rfl⟩, hW, hsame.mono (by decide) (by decide)⟩
    · show Steps p.tables e below (s₁.setTop (mkF m 2 #[.val (.int u1), .val (.int u2)] [(.int u2), (.int u1)])) _
      refine XS.icmpNo X0.here hx rfl (hb hby d5_2) rfl (teq hc2_1).2 ?_
      show Steps p.tables e below (s₁.setTop (mkF m 5 #[.val (.int u1), .val (.int u2)] [])) _
      refine XS.lconst X0.here hx rfl (hb hby d5_5) ?_
      show Steps p.tables e below (s₁.setTop (mkF m 6 #[.val (.int u1), .val (.int u2)] [(.long (0 : Int64))])) _
      jvm_step X0.here [X0.here.top, hx, (hb hby d5_6), X0.method', Bd.returns, narrow]
      first | (intro acts; rw [hr _ acts rfl rfl rfl]) | rw [hr _ _ rfl rfl rfl]
      exact Steps.refl _
    · show Q5 Z u1 u2 h0 n0 _ s₁.heap _
      rw [e0]
      exact ⟨by rw [own_step, if_pos hc2_1], N0, rfl⟩
  · obtain ⟨fs, hr, hrun, hended, hW, hsame⟩ := X0.leave (v := some (.long (1 : Int64))) (fun h => by rw [Bd.returns] at h; cases h)
    refine ⟨_, _, ?_, hrun, hended, _, _, rfl, ?_, ⟨_, rfl⟩, hW, hsame.mono (by decide) (by decide)⟩
    · show Steps p.tables e below (s₁.setTop (mkF m 2 #[.val (.int u1), .val (.int u2)] [(.int u2), (.int u1)])) _
      refine XS.icmpYes X0.here hx rfl (pc0 := 2) (pc' := 7) rfl (hb hby d5_2) rfl (feq hc2_1).2 (by decide) (by decide) ?_
      show Steps p.tables e below (s₁.setTop (mkF m 7 #[.val (.int u1), .val (.int u2)] [])) _
      refine XS.lconst X0.here hx rfl (hb hby d5_7) ?_
      show Steps p.tables e below (s₁.setTop (mkF m 8 #[.val (.int u1), .val (.int u2)] [(.long (1 : Int64))])) _
      jvm_step X0.here [X0.here.top, hx, (hb hby d5_8), X0.method', Bd.returns, narrow]
      first | (intro acts; rw [hr _ acts rfl rfl rfl]) | rw [hr _ _ rfl rfl rfl]
      exact Steps.refl _
    · show Q5 Z u1 u2 h0 n0 _ s₁.heap _
      rw [e0]
      exact ⟨by rw [own_step, if_neg hc2_1], N0, rfl⟩
theorem pn_1 : plainName "com/example/inkremental/inkremental/engine/Partitions" = true := by first | (simp [plainName, overriddenIn]; done) | decide +kernel
theorem d1_0 : decode prog_38_method_1_code 0 = .ok (.aload_n 0, 1) := by decide +kernel
theorem d1_1 : decode prog_38_method_1_code 1 = .ok (.invokespecial 1, 3) := by decide +kernel
theorem d1_4 : decode prog_38_method_1_code 4 = .ok (.iload_n 1, 1) := by decide +kernel
theorem d1_5 : decode prog_38_method_1_code 5 = .ok (.iconst 1, 1) := by decide +kernel
theorem d1_6 : decode prog_38_method_1_code 6 = .ok (.if_icmp .ge 17, 3) := by decide +kernel
theorem d1_23 : decode prog_38_method_1_code 23 = .ok (.aload_n 0, 1) := by decide +kernel
theorem d1_24 : decode prog_38_method_1_code 24 = .ok (.iload_n 1, 1) := by decide +kernel
theorem d1_25 : decode prog_38_method_1_code 25 = .ok (.putfield 16, 3) := by decide +kernel
theorem d1_28 : decode prog_38_method_1_code 28 = .ok (.return_, 1) := by decide +kernel
theorem ef_1 (m : MethodId) (x0 : Addr) (x1 : Int32) : entryFrame m #[(.ref x0), (.int x1)] 2 = mkF m 0 #[.val (.ref x0), .val (.int x1)] [] := by first | (simp [entryFrame, mkF, argsToLocals, Value.category]; done) | rfl
def Q1 (Z : State) (a1 : Addr) (p2 : Int32) (h0 : Heap) (n0 : Nat) (v : Option Value) (h : Heap) (L : List Loc) : Prop := v = none ∧ Fr n0 L ∧ Keep h0 h [a1] ∧ Exa Z h a1 "com/example/inkremental/inkremental/engine/Partitions" ∧ Fld Z h a1 "com/example/inkremental/inkremental/engine/Partitions" "shipped" "J" (.long (0 : Int64))
set_option maxRecDepth 65536 in
set_option maxHeartbeats 40000000 in
theorem rm1 (l : Launch) (Z : State) (a0 : Array Value) (hw : ∀ d ∈ tables_1, d.before a0 Z = true) (ws : List Jvm.Cond) (a1 : Addr) (p2 : Int32) (h0 : Heap) (n0 : Nat) (Z0 : n0 ≤ h0.size) (hpos : ¬ p2 < (1 : Int32)) (E_a1 : Exa Z h0 a1 "com/example/inkremental/inkremental/engine/Partitions") (g_a1 : n0 ≤ a1) (F_count : Fld Z h0 a1 "com/example/inkremental/inkremental/engine/Partitions" "count" "I" (.int (0 : Int32))) (F_shipped : Fld Z h0 a1 "com/example/inkremental/inkremental/engine/Partitions" "shipped" "J" (.long (0 : Int64))) :
    MetFree l (⟨"com/example/inkremental/inkremental/engine/Partitions", "<init>", "(I)V"⟩ : MethodName) (head1 (Jvm.Cond.code (⟨"com/example/inkremental/inkremental/engine/Partitions", "<init>", "(I)V"⟩ : MethodName) prog_38_method_1_code 2 none :: ws) ({ frames := 1, cells := 0, slots := 0, locals := 12 } : Room)) (fun a U => a = #[(.ref a1), (.int p2)] ∧ Z.Warmed39 U.vm ∧ U.heap = h0) (fun _ _ _ _ _ => True) (fun _ U o U' => ∃ v L, o = .returned v ∧ Q1 Z a1 p2 h0 n0 v U'.heap L ∧ FrameEnd U o U' L ({ frames := 1, cells := 0, slots := 0, locals := 12 } : Room).cells ({ frames := 1, cells := 0, slots := 0, locals := 12 } : Room).slots) := by
  refine MetFree.of_bodySF (plainFor_of_name pn_1) hisR ?_
  intro p e s m args below meth c s₁ Bd hml0 hP hK
  obtain ⟨rfl, hZ, hh⟩ := hP
  have hx := Bd.exec
  have hby := Bd.bytes
  have hml : c.maxLocals = 2 := hml0
  have hown : s.vm.findClass "com/example/inkremental/inkremental/engine/Partitions" = some m.cls := findClass_of_methodNamed Bd.named
  have hnm := (name_of_methodNamed Bd.named Bd.method).1
  have X0 : Stand p l e ({ frames := 1, cells := 0, slots := 0, locals := 12 } : Room) s m #[(.ref a1), (.int p2)] below meth c s₁ [] 0 0 := Stand.of_body Bd
  have e0 : s₁.heap = h0 := by rw [← hh, Bd.state]; rfl
  have N0 := Fr.nil n0
  refine own_go (B := s₁.setTop (mkF m 0 #[.val (.ref a1), .val (.int p2)] [])) (fun t k => castTop (ef_1 m a1 p2) k) ?_
  refine own_go (B := s₁.setTop (mkF m 1 #[.val (.ref a1), .val (.int p2)] [(.ref a1)])) (fun t k => ?_) ?_
  · show Steps p.tables e below (s₁.setTop (mkF m 0 #[.val (.ref a1), .val (.int p2)] [])) _
    refine XS.aloadN X0.here hx rfl (hb hby d1_0) rfl rfl ?_
    exact k
  obtain ⟨T1, X1, e1, st1⟩ := initO X0 hx hZ hown (hw _ (List.mem_of_getElem? (i := 6) rfl)) (hw _ (List.mem_of_getElem? (i := 7) rfl)) (hw _ (List.mem_of_getElem? (i := 8) rfl)) e0 (g := (mkF m 1 #[.val (.ref a1), .val (.int p2)] [(.ref a1)])) rfl (by rw [hml]; rfl) rfl (hb hby d1_1) (by decide) (W := 0) (by show 2 * 0 + _ ≤ _; exact Nat.le_of_eq rfl) (by decide)
  refine own_go (B := T1.setTop (mkF m 4 #[.val (.ref a1), .val (.int p2)] [])) (fun t k => st1 _ k) ?_
  refine own_go (B := T1.setTop (mkF m 25 #[.val (.ref a1), .val (.int p2)] [(.int p2), (.ref a1)])) (fun t k => ?_) ?_
  · show Steps p.tables e below (T1.setTop (mkF m 4 #[.val (.ref a1), .val (.int p2)] [])) _
    refine XS.iloadN X1.here hx rfl (hb hby d1_4) rfl ?_
    show Steps p.tables e below (T1.setTop (mkF m 5 #[.val (.ref a1), .val (.int p2)] [(.int p2)])) _
    refine XS.iconst X1.here hx rfl (hb hby d1_5) ?_
    show Steps p.tables e below (T1.setTop (mkF m 6 #[.val (.ref a1), .val (.int p2)] [(.int (1 : Int32)), (.int p2)])) _
    refine XS.icmpYes X1.here hx rfl (pc0 := 6) (pc' := 23) rfl (hb hby d1_6) rfl (flt hpos).2.1 (by decide) (by decide) ?_
    show Steps p.tables e below (T1.setTop (mkF m 23 #[.val (.ref a1), .val (.int p2)] [])) _
    refine XS.aloadN X1.here hx rfl (hb hby d1_23) rfl rfl ?_
    show Steps p.tables e below (T1.setTop (mkF m 24 #[.val (.ref a1), .val (.int p2)] [(.ref a1)])) _
    refine XS.iloadN X1.here hx rfl (hb hby d1_24) rfl ?_
    exact k
  obtain ⟨T2, h2, X2, e2, W2, st2⟩ := putF X1 hx hZ hown (host := "") (Or.inl (hw _ (List.mem_of_getElem? (i := 9) rfl))) Via.refl e1 F_count E_a1 (Or.inr ⟨(hw _ (List.mem_of_getElem? (i := 10) rfl)), rfl, hnm⟩) (hw _ (List.mem_of_getElem? (i := 1) rfl)) (ty := .int) (by decide) rfl rfl (g := (mkF m 25 #[.val (.ref a1), .val (.int p2)] [(.int p2), (.ref a1)])) rfl rfl (hb hby d1_25)
  have c2_E_a1 := E_a1.wr W2
  have c2_F_a1_count := F_count.same W2
  have c2_F_a1_shipped := F_shipped.other W2 (Or.inr (slot_ne (Or.inl (hw _ (List.mem_of_getElem? (i := 17) rfl))) (Or.inr (hw _ (List.mem_of_getElem? (i := 10) rfl))) (by decide) (t := .long) (t' := .int) (by decide) (by decide)))
  have K2 := (Keep.refl h0 [a1]).wr W2 (Or.inl (List.mem_of_getElem? (i := 0) rfl))
  have N2 := Fr.snoc X2 N0 g_a1
  refine own_go (B := T2.setTop (mkF m 28 #[.val (.ref a1), .val (.int p2)] [])) (fun t k => st2 _ k) ?_
  obtain ⟨fs, hr, hrun, hended, hW, hsame⟩ := X2.leave (v := none) (fun _ => rfl)
  refine ⟨_, _, ?_, hrun, hended, _, _, rfl, ?_, ⟨_, rfl⟩, hW, hsame.mono (by decide) (by decide)⟩
  · show Steps p.tables e below (T2.setTop (mkF m 28 #[.val (.ref a1), .val (.int p2)] [])) _
    exact X2.returnOut hx Bd.returns (hb hby d1_28) hr
  · show Q1 Z a1 p2 h0 n0 _ T2.heap _
    rw [e2]
    exact ⟨rfl, N2, K2, c2_E_a1, c2_F_a1_shipped⟩
theorem pn_3 : plainName "com/example/inkremental/inkremental/engine/Partitions" = true := by first | (simp [plainName, overriddenIn]; done) | decide +kernel
theorem d3_0 : decode prog_38_method_2_code 0 = .ok (.aload_n 0, 1) := by decide +kernel
theorem d3_1 : decode prog_38_method_2_code 1 = .ok (.getfield 22, 3) := by decide +kernel
theorem d3_4 : decode prog_38_method_2_code 4 = .ok (.lreturn, 1) := by decide +kernel
theorem ef_3 (m : MethodId) (x0 : Addr) : entryFrame m #[(.ref x0)] 1 = mkF m 0 #[.val (.ref x0)] [] := by first | (simp [entryFrame, mkF, argsToLocals, Value.category]; done) | rfl
def Q3 (Z : State) (a1 : Addr) (q1 : Int64) (h0 : Heap) (n0 : Nat) (v : Option Value) (h : Heap) (L : List Loc) : Prop := v = some (.long q1) ∧ Fr n0 L ∧ h = h0
set_option maxRecDepth 65536 in
set_option maxHeartbeats 40000000 in
theorem rm3 (l : Launch) (Z : State) (a0 : Array Value) (hw : ∀ d ∈ tables_1, d.before a0 Z = true) (ws : List Jvm.Cond) (a1 : Addr) (q1 : Int64) (h0 : Heap) (n0 : Nat) (Z0 : n0 ≤ h0.size) (F_s : Fld Z h0 a1 "com/example/inkremental/inkremental/engine/Partitions" "shipped" "J" (.long q1)) :
    MetFree l (⟨"com/example/inkremental/inkremental/engine/Partitions", "shipped", "()J"⟩ : MethodName) (head1 (Jvm.Cond.code (⟨"com/example/inkremental/inkremental/engine/Partitions", "shipped", "()J"⟩ : MethodName) prog_38_method_2_code 1 (some .long) :: ws) ({ frames := 0, cells := 0, slots := 0, locals := 0 } : Room)) (fun a U => a = #[(.ref a1)] ∧ Z.Warmed39 U.vm ∧ U.heap = h0) (fun _ _ _ _ _ => True) (fun _ U o U' => ∃ v L, o = .returned v ∧ Q3 Z a1 q1 h0 n0 v U'.heap L ∧ FrameEnd U o U' L ({ frames := 0, cells := 0, slots := 0, locals := 0 } : Room).cells ({ frames := 0, cells := 0, slots := 0, locals := 0 } : Room).slots) := by
  refine MetFree.of_bodySF (plainFor_of_name pn_3) hisR ?_
  intro p e s m args below meth c s₁ Bd hml0 hP hK
  obtain ⟨rfl, hZ, hh⟩ := hP
  have hx := Bd.exec
  have hby := Bd.bytes
  have hml : c.maxLocals = 1 := hml0
  have hown : s.vm.findClass "com/example/inkremental/inkremental/engine/Partitions" = some m.cls := findClass_of_methodNamed Bd.named
  have hnm := (name_of_methodNamed Bd.named Bd.method).1
  have X0 : Stand p l e ({ frames := 0, cells := 0, slots := 0, locals := 0 } : Room) s m #[(.ref a1)] below meth c s₁ [] 0 0 := Stand.of_body Bd
  have e0 : s₁.heap = h0 := by rw [← hh, Bd.state]; rfl
  have N0 := Fr.nil n0
  refine own_go (B := s₁.setTop (mkF m 0 #[.val (.ref a1)] [])) (fun t k => castTop (ef_3 m a1) k) ?_
  refine own_go (B := s₁.setTop (mkF m 1 #[.val (.ref a1)] [(.ref a1)])) (fun t k => ?_) ?_
  · show Steps p.tables e below (s₁.setTop (mkF m 0 #[.val (.ref a1)] [])) _
    refine XS.aloadN X0.here hx rfl (hb hby d3_0) rfl rfl ?_
    exact k
  obtain ⟨T1, X1, e1, st1⟩ := getF X0 hx hZ hown (host := "") (Or.inl (hw _ (List.mem_of_getElem? (i := 16) rfl))) Via.refl e0 F_s (g := (mkF m 1 #[.val (.ref a1)] [(.ref a1)])) rfl rfl (hb hby d3_1)
  refine own_go (B := T1.setTop (mkF m 4 #[.val (.ref a1)] [(.long q1)])) (fun t k => st1 _ k) ?_
  obtain ⟨fs, hr, hrun, hended, hW, hsame⟩ := X1.leave (v := some (.long q1)) (fun h => by rw [Bd.returns] at h; cases h)
  refine ⟨_, _, ?_, hrun, hended, _, _, rfl, ?_, ⟨_, rfl⟩, hW, hsame.mono (by decide) (by decide)⟩
  · show Steps p.tables e below (T1.setTop (mkF m 4 #[.val (.ref a1)] [(.long q1)])) _
    jvm_step X1.here [X1.here.top, hx, (hb hby d3_4), X1.method', Bd.returns, narrow]
    first | (intro acts; rw [hr _ acts rfl rfl rfl]) | rw [hr _ _ rfl rfl rfl]
    exact Steps.refl _
  · show Q3 Z a1 q1 h0 n0 _ T1.heap _
    rw [e1]
    exact ⟨rfl, N0, rfl⟩
theorem pn_4 : plainName "com/example/inkremental/inkremental/engine/Partitions" = true := by first | (simp [plainName, overriddenIn]; done) | decide +kernel
theorem d4_0 : decode prog_38_method_7_code 0 = .ok (.aload_n 0, 1) := by decide +kernel
theorem d4_1 : decode prog_38_method_7_code 1 = .ok (.dup, 1) := by decide +kernel
theorem d4_2 : decode prog_38_method_7_code 2 = .ok (.getfield 22, 3) := by decide +kernel
theorem d4_5 : decode prog_38_method_7_code 5 = .ok (.iload_n 1, 1) := by decide +kernel
theorem d4_6 : decode prog_38_method_7_code 6 = .ok (.iload_n 2, 1) := by decide +kernel
theorem d4_7 : decode prog_38_method_7_code 7 = .ok (.if_icmp .ne 7, 3) := by decide +kernel
theorem d4_10 : decode prog_38_method_7_code 10 = .ok (.lconst 0, 1) := by decide +kernel
theorem d4_11 : decode prog_38_method_7_code 11 = .ok (.goto 4, 3) := by decide +kernel
theorem d4_14 : decode prog_38_method_7_code 14 = .ok (.lconst 1, 1) := by decide +kernel
theorem d4_15 : decode prog_38_method_7_code 15 = .ok (.ladd, 1) := by decide +kernel
theorem d4_16 : decode prog_38_method_7_code 16 = .ok (.putfield 22, 3) := by decide +kernel
theorem d4_19 : decode prog_38_method_7_code 19 = .ok (.return_, 1) := by decide +kernel
theorem ef_4 (m : MethodId) (x0 : Addr) (x1 : Int32) (x2 : Int32) : entryFrame m #[(.ref x0), (.int x1), (.int x2)] 3 = mkF m 0 #[.val (.ref x0), .val (.int x1), .val (.int x2)] [] := by first | (simp [entryFrame, mkF, argsToLocals, Value.category]; done) | rfl
def Q4 (Z : State) (a1 : Addr) (p2 : Int32) (p3 : Int32) (q1 : Int64) (h0 : Heap) (n0 : Nat) (v : Option Value) (h : Heap) (L : List Loc) : Prop := v = none ∧ Fr n0 L ∧ Keep h0 h [a1] ∧ Exa Z h a1 "com/example/inkremental/inkremental/engine/Partitions" ∧ Fld Z h a1 "com/example/inkremental/inkremental/engine/Partitions" "shipped" "J" (.long (q1 + (own_step p2 p3)))
set_option maxRecDepth 65536 in
set_option maxHeartbeats 40000000 in
theorem rm4 (l : Launch) (Z : State) (a0 : Array Value) (hw : ∀ d ∈ tables_1, d.before a0 Z = true) (ws : List Jvm.Cond) (a1 : Addr) (p2 : Int32) (p3 : Int32) (q1 : Int64) (h0 : Heap) (n0 : Nat) (Z0 : n0 ≤ h0.size) (E_a1 : Exa Z h0 a1 "com/example/inkremental/inkremental/engine/Partitions") (g_a1 : n0 ≤ a1) (F_s : Fld Z h0 a1 "com/example/inkremental/inkremental/engine/Partitions" "shipped" "J" (.long q1)) :
    MetFree l (⟨"com/example/inkremental/inkremental/engine/Partitions", "send", "(II)V"⟩ : MethodName) (head1 (Jvm.Cond.code (⟨"com/example/inkremental/inkremental/engine/Partitions", "send", "(II)V"⟩ : MethodName) prog_38_method_7_code 3 none :: ws) ({ frames := 0, cells := 0, slots := 0, locals := 0 } : Room)) (fun a U => a = #[(.ref a1), (.int p2), (.int p3)] ∧ Z.Warmed39 U.vm ∧ U.heap = h0) (fun _ _ _ _ _ => True) (fun _ U o U' => ∃ v L, o = .returned v ∧ Q4 Z a1 p2 p3 q1 h0 n0 v U'.heap L ∧ FrameEnd U o U' L ({ frames := 0, cells := 0, slots := 0, locals := 0 } : Room).cells ({ frames := 0, cells := 0, slots := 0, locals := 0 } : Room).slots) := by
  refine MetFree.of_bodySF (plainFor_of_name pn_4) hisR ?_
  intro p e s m args below meth c s₁ Bd hml0 hP hK
  obtain ⟨rfl, hZ, hh⟩ := hP
  have hx := Bd.exec
  have hby := Bd.bytes
  have hml : c.maxLocals = 3 := hml0
  have hown : s.vm.findClass "com/example/inkremental/inkremental/engine/Partitions" = some m.cls := findClass_of_methodNamed Bd.named
  have hnm := (name_of_methodNamed Bd.named Bd.method).1
  have X0 : Stand p l e ({ frames := 0, cells := 0, slots := 0, locals := 0 } : Room) s m #[(.ref a1), (.int p2), (.int p3)] below meth c s₁ [] 0 0 := Stand.of_body Bd
  have e0 : s₁.heap = h0 := by rw [← hh, Bd.state]; rfl
  have N0 := Fr.nil n0
  refine own_go (B := s₁.setTop (mkF m 0 #[.val (.ref a1), .val (.int p2), .val (.int p3)] [])) (fun t k => castTop (ef_4 m a1 p2 p3) k) ?_
  refine own_go (B := s₁.setTop (mkF m 2 #[.val (.ref a1), .val (.int p2), .val (.int p3)] [(.ref a1), (.ref a1)])) (fun t k => ?_) ?_
  · show Steps p.tables e below (s₁.setTop (mkF m 0 #[.val (.ref a1), .val (.int p2), .val (.int p3)] [])) _
    refine XS.aloadN X0.here hx rfl (hb hby d4_0) rfl rfl ?_
    show Steps p.tables e below (s₁.setTop (mkF m 1 #[.val (.ref a1), .val (.int p2), .val (.int p3)] [(.ref a1)])) _
    refine XS.dup X0.here hx rfl (hb hby d4_1) rfl rfl ?_
    exact k
  obtain ⟨T1, X1, e1, st1⟩ := getF X0 hx hZ hown (host := "") (Or.inl (hw _ (List.mem_of_getElem? (i := 16) rfl))) Via.refl e0 F_s (g := (mkF m 2 #[.val (.ref a1), .val (.int p2), .val (.int p3)] [(.ref a1), (.ref a1)])) rfl rfl (hb hby d4_2)
  refine own_go (B := T1.setTop (mkF m 5 #[.val (.ref a1), .val (.int p2), .val (.int p3)] [(.long q1), (.ref a1)])) (fun t k => st1 _ k) ?_
  refine own_go (B := T1.setTop (mkF m 7 #[.val (.ref a1), .val (.int p2), .val (.int p3)] [(.int p3), (.int p2), (.long q1), (.ref a1)])) (fun t k => ?_) ?_
  · show Steps p.tables e below (T1.setTop (mkF m 5 #[.val (.ref a1), .val (.int p2), .val (.int p3)] [(.long q1), (.ref a1)])) _
    refine XS.iloadN X1.here hx rfl (hb hby d4_5) rfl ?_
    show Steps p.tables e below (T1.setTop (mkF m 6 #[.val (.ref a1), .val (.int p2), .val (.int p3)] [(.int p2), (.long q1), (.ref a1)])) _
    refine XS.iloadN X1.here hx rfl (hb hby d4_6) rfl ?_
    exact k
  obtain ⟨z2, hz2⟩ : ∃ q : Int64, q = (if p2 = p3 then (0 : Int64) else (1 : Int64)) := ⟨_, rfl⟩
  refine own_go (B := T1.setTop (mkF m 15 #[.val (.ref a1), .val (.int p2), .val (.int p3)] [(.long z2), (.long q1), (.ref a1)])) (fun t k => ?_) ?_
  · by_cases hc7_3 : p2 = p3
    · rw [show z2 = (0 : Int64) from hz2.trans (by rw [if_pos hc7_3])] at k
      show Steps p.tables e below (T1.setTop (mkF m 7 #[.val (.ref a1), .val (.int p2), .val (.int p3)] [(.int p3), (.int p2), (.long q1), (.ref a1)])) _
      refine XS.icmpNo X1.here hx rfl (hb hby d4_7) rfl (teq hc7_3).2 ?_
      show Steps p.tables e below (T1.setTop (mkF m 10 #[.val (.ref a1), .val (.int p2), .val (.int p3)] [(.long q1), (.ref a1)])) _
      refine XS.lconst X1.here hx rfl (hb hby d4_10) ?_
      show Steps p.tables e below (T1.setTop (mkF m 11 #[.val (.ref a1), .val (.int p2), .val (.int p3)] [(.long (0 : Int64)), (.long q1), (.ref a1)])) _
      refine XS.goto X1.here hx rfl (pc0 := 11) (pc' := 15) rfl (hb hby d4_11) (by decide) (by decide) ?_
      exact k
    · rw [show z2 = (1 : Int64) from hz2.trans (by rw [if_neg hc7_3])] at k
      show Steps p.tables e below (T1.setTop (mkF m 7 #[.val (.ref a1), .val (.int p2), .val (.int p3)] [(.int p3), (.int p2), (.long q1), (.ref a1)])) _
      refine XS.icmpYes X1.here hx rfl (pc0 := 7) (pc' := 14) rfl (hb hby d4_7) rfl (feq hc7_3).2 (by decide) (by decide) ?_
      show Steps p.tables e below (T1.setTop (mkF m 14 #[.val (.ref a1), .val (.int p2), .val (.int p3)] [(.long q1), (.ref a1)])) _
      refine XS.lconst X1.here hx rfl (hb hby d4_14) ?_
      exact k
  refine own_go (B := T1.setTop (mkF m 16 #[.val (.ref a1), .val (.int p2), .val (.int p3)] [(.long (q1 + z2)), (.ref a1)])) (fun t k => ?_) ?_
  · show Steps p.tables e below (T1.setTop (mkF m 15 #[.val (.ref a1), .val (.int p2), .val (.int p3)] [(.long z2), (.long q1), (.ref a1)])) _
    refine XS.ladd X1.here hx rfl (hb hby d4_15) rfl ?_
    exact k
  obtain ⟨T4, h4, X4, e4, W4, st4⟩ := putF X1 hx hZ hown (host := "") (Or.inl (hw _ (List.mem_of_getElem? (i := 16) rfl))) Via.refl e1 F_s E_a1 (Or.inl (hw _ (List.mem_of_getElem? (i := 17) rfl))) (hw _ (List.mem_of_getElem? (i := 1) rfl)) (ty := .long) (by decide) rfl rfl (g := (mkF m 16 #[.val (.ref a1), .val (.int p2), .val (.int p3)] [(.long (q1 + z2)), (.ref a1)])) rfl rfl (hb hby d4_16)
  have c4_E_a1 := E_a1.wr W4
  have c4_F_a1_shipped := F_s.same W4
  have K4 := (Keep.refl h0 [a1]).wr W4 (Or.inl (List.mem_of_getElem? (i := 0) rfl))
  have N4 := Fr.snoc X4 N0 g_a1
  refine own_go (B := T4.setTop (mkF m 19 #[.val (.ref a1), .val (.int p2), .val (.int p3)] [])) (fun t k => st4 _ k) ?_
  obtain ⟨fs, hr, hrun, hended, hW, hsame⟩ := X4.leave (v := none) (fun _ => rfl)
  refine ⟨_, _, ?_, hrun, hended, _, _, rfl, ?_, ⟨_, rfl⟩, hW, hsame.mono (by decide) (by decide)⟩
  · show Steps p.tables e below (T4.setTop (mkF m 19 #[.val (.ref a1), .val (.int p2), .val (.int p3)] [])) _
    exact X4.returnOut hx Bd.returns (hb hby d4_19) hr
  · show Q4 Z a1 p2 p3 q1 h0 n0 _ T4.heap _
    rw [e4]
    exact ⟨rfl, N4, K4, c4_E_a1, (by rw [own_step, ← hz2]; exact c4_F_a1_shipped)⟩
theorem own_pos (x : Int32) : ¬ ((x &&& (255 : Int32)) + (1 : Int32)) < (1 : Int32) := by
  have h1 := c_mask x 255 8 (by decide) (by decide)
  have h2 := c_iadd (x &&& 255) 1
  have h3 := rng32 ((x &&& 255) + 1)
  have k : (1 : Int32).toInt = 1 := by decide
  rw [Int32.lt_iff_toInt_lt]
  omega
theorem own_self (q : Int64) (p : Int32) : (q + (own_step p p)) = q := by
  rw [own_step, if_pos rfl]
  exact Int64.add_zero q
theorem pn_0 : plainName "com/example/inkremental/inkremental/engine/PartitionsSendPinLaw" = true := by first | (simp [plainName, overriddenIn]; done) | decide +kernel
theorem ef_0 (m : MethodId) (x0 : Int32) (x1 : Int32) (x2 : Int32) (x3 : Int32) : entryFrame m #[(.int x0), (.int x1), (.int x2), (.int x3)] maxLocals = mkF m 0 #[.val (.int x0), .val (.int x1), .val (.int x2), .val (.int x3), .unset, .unset, .unset, .unset, .unset, .unset, .unset, .unset, .unset, .unset, .unset, .unset, .unset, .unset] [] := by first | (simp [entryFrame, mkF, argsToLocals, Value.category, maxLocals]; done) | rfl
def Q0 (Z : State) (p1 : Int32) (p2 : Int32) (p3 : Int32) (p4 : Int32) (h0 : Heap) (n0 : Nat) (v : Option Value) (h : Heap) (L : List Loc) : Prop := v = some (.int 1) ∧ Fr n0 L
set_option maxRecDepth 65536 in
set_option maxHeartbeats 40000000 in
theorem rm0 (l : Launch) (Z : State) (a0 : Array Value) (hw : ∀ d ∈ tables_1, d.before a0 Z = true) (ws : List Jvm.Cond) (p1 : Int32) (p2 : Int32) (p3 : Int32) (p4 : Int32) (h0 : Heap) (n0 : Nat) (Z0 : n0 ≤ h0.size) :
    MetFree l x (head1 (Jvm.Cond.code x code maxLocals ret :: ws) room_1) (fun a U => a = #[(.int p1), (.int p2), (.int p3), (.int p4)] ∧ Z.Warmed39 U.vm ∧ U.heap = h0) (fun _ _ _ _ _ => True) (fun _ U o U' => ∃ v L, o = .returned v ∧ Q0 Z p1 p2 p3 p4 h0 n0 v U'.heap L ∧ FrameEnd U o U' L room_1.cells room_1.slots) := by
  refine MetFree.of_bodySF (plainFor_of_name pn_0) hisR ?_
  intro p e s m args below meth c s₁ Bd hml0 hP hK
  obtain ⟨rfl, hZ, hh⟩ := hP
  have hx := Bd.exec
  have hby := Bd.bytes
  have hml : c.maxLocals = 18 := hml0
  have hown : s.vm.findClass "com/example/inkremental/inkremental/engine/PartitionsSendPinLaw" = some m.cls := findClass_of_methodNamed Bd.named
  have hnm := (name_of_methodNamed Bd.named Bd.method).1
  have X0 : Stand p l e room_1 s m #[(.int p1), (.int p2), (.int p3), (.int p4)] below meth c s₁ [] 0 0 := Stand.of_body Bd
  have e0 : s₁.heap = h0 := by rw [← hh, Bd.state]; rfl
  have N0 := Fr.nil n0
  refine own_go (B := s₁.setTop (mkF m 0 #[.val (.int p1), .val (.int p2), .val (.int p3), .val (.int p4), .unset, .unset, .unset, .unset, .unset, .unset, .unset, .unset, .unset, .unset, .unset, .unset, .unset, .unset] [])) (fun t k => castTop (ef_0 m p1 p2 p3 p4) k) ?_
  obtain ⟨T1, h1, X1, e1, E1, A1, D1, -, st1⟩ := newO X0 hx hZ hown (hw _ (List.mem_of_getElem? (i := 0) rfl)) (hw _ (List.mem_of_getElem? (i := 1) rfl)) (hw _ (List.mem_of_getElem? (i := 2) rfl)) e0 (g := (mkF m 0 #[.val (.int p1), .val (.int p2), .val (.int p3), .val (.int p4), .unset, .unset, .unset, .unset, .unset, .unset, .unset, .unset, .unset, .unset, .unset, .unset, .unset, .unset] [])) rfl (hb hby at_0) (by decide) (by decide)
  obtain ⟨b1, g1⟩ : ∃ z, z = h0.size := ⟨_, rfl⟩
  rw [← g1] at A1 D1 st1
  have g_b1 : n0 ≤ b1 := Nat.le_trans Z0 (Nat.le_of_eq g1.symm)
  have F1_count : Fld Z h1 b1 "com/example/inkremental/inkremental/engine/Partitions" "count" "I" (.int (0 : Int32)) := D1 (Or.inr (hw _ (List.mem_of_getElem? (i := 10) rfl))) (ty := .int) (by decide)
  have F1_shipped : Fld Z h1 b1 "com/example/inkremental/inkremental/engine/Partitions" "shipped" "J" (.long (0 : Int64)) := D1 (Or.inl (hw _ (List.mem_of_getElem? (i := 17) rfl))) (ty := .long) (by decide)
  refine own_go (B := T1.setTop (mkF m 3 #[.val (.int p1), .val (.int p2), .val (.int p3), .val (.int p4), .unset, .unset, .unset, .unset, .unset, .unset, .unset, .unset, .unset, .unset, .unset, .unset, .unset, .unset] [(.ref b1)])) (fun t k => st1 _ k) ?_
  refine own_go (B := T1.setTop (mkF m 11 #[.val (.int p1), .val (.int p2), .val (.int p3), .val (.int p4), .unset, .unset, .unset, .unset, .unset, .unset, .unset, .unset, .unset, .unset, .unset, .unset, .unset, .unset] [(.int ((p1 &&& (255 : Int32)) + (1 : Int32))), (.ref b1), (.ref b1)])) (fun t k => ?_) ?_
  · show Steps p.tables e below (T1.setTop (mkF m 3 #[.val (.int p1), .val (.int p2), .val (.int p3), .val (.int p4), .unset, .unset, .unset, .unset, .unset, .unset, .unset, .unset, .unset, .unset, .unset, .unset, .unset, .unset] [(.ref b1)])) _
    refine XS.dup X1.here hx rfl (hb hby at_3) rfl rfl ?_
    show Steps p.tables e below (T1.setTop (mkF m 4 #[.val (.int p1), .val (.int p2), .val (.int p3), .val (.int p4), .unset, .unset, .unset, .unset, .unset, .unset, .unset, .unset, .unset, .unset, .unset, .unset, .unset, .unset] [(.ref b1), (.ref b1)])) _
    refine XS.iloadN X1.here hx rfl (hb hby at_4) rfl ?_
    show Steps p.tables e below (T1.setTop (mkF m 5 #[.val (.int p1), .val (.int p2), .val (.int p3), .val (.int p4), .unset, .unset, .unset, .unset, .unset, .unset, .unset, .unset, .unset, .unset, .unset, .unset, .unset, .unset] [(.int p1), (.ref b1), (.ref b1)])) _
    refine XS.sipush X1.here hx rfl (hb hby at_5) ?_
    show Steps p.tables e below (T1.setTop (mkF m 8 #[.val (.int p1), .val (.int p2), .val (.int p3), .val (.int p4), .unset, .unset, .unset, .unset, .unset, .unset, .unset, .unset, .unset, .unset, .unset, .unset, .unset, .unset] [(.int (255 : Int32)), (.int p1), (.ref b1), (.ref b1)])) _
    refine XS.iand X1.here hx rfl (hb hby at_8) rfl ?_
    show Steps p.tables e below (T1.setTop (mkF m 9 #[.val (.int p1), .val (.int p2), .val (.int p3), .val (.int p4), .unset, .unset, .unset, .unset, .unset, .unset, .unset, .unset, .unset, .unset, .unset, .unset, .unset, .unset] [(.int (p1 &&& (255 : Int32))), (.ref b1), (.ref b1)])) _
    refine XS.iconst X1.here hx rfl (hb hby at_9) ?_
    show Steps p.tables e below (T1.setTop (mkF m 10 #[.val (.int p1), .val (.int p2), .val (.int p3), .val (.int p4), .unset, .unset, .unset, .unset, .unset, .unset, .unset, .unset, .unset, .unset, .unset, .unset, .unset, .unset] [(.int (1 : Int32)), (.int (p1 &&& (255 : Int32))), (.ref b1), (.ref b1)])) _
    refine XS.iadd X1.here hx rfl (hb hby at_10) rfl ?_
    exact k
  obtain ⟨_, _, ⟨T2, L2, k2, n2⟩, -, X2, ⟨Lc2, hQ2, l2, y2, z2⟩, st2⟩ := X1.specialBack hx (y := (⟨"com/example/inkremental/inkremental/engine/Partitions", "<init>", "(I)V"⟩ : MethodName)) rfl hown (mvT hZ (hw _ (List.mem_of_getElem? (i := 3) rfl))) (mvT hZ (hw _ (List.mem_of_getElem? (i := 4) rfl))) (mvT hZ (hw _ (List.mem_of_getElem? (i := 5) rfl))) (by decide) (backOf (W := 1) (rm1 l Z a0 hw [] b1 ((p1 &&& (255 : Int32)) + (1 : Int32)) h1 n0 (Nat.le_trans Z0 E1.1) (own_pos p1) A1 g_b1 F1_count F1_shipped) hZ (hw _ (List.mem_of_getElem? (i := 5) rfl)) (hw _ (List.mem_of_getElem? (i := 2) rfl)) (by decide) (by decide)) (g := (mkF m 11 #[.val (.int p1), .val (.int p2), .val (.int p3), .val (.int p4), .unset, .unset, .unset, .unset, .unset, .unset, .unset, .unset, .unset, .unset, .unset, .unset, .unset, .unset] [(.int ((p1 &&& (255 : Int32)) + (1 : Int32))), (.ref b1), (.ref b1)])) rfl (by rw [hml]; rfl) (Steps.refl _) (a := b1) (argsL := [(.int ((p1 &&& (255 : Int32)) + (1 : Int32)))]) (rest := [(.ref b1)]) (lenOf own_pd0 rfl) rfl (by show 2 * 0 + _ ≤ _; exact Nat.le_of_eq rfl) (hb hby at_11) (fun _ _ => ⟨rfl, e1, (by decide : 1 + 0 ≤ _), (by decide : 2 + 0 ≤ _)⟩)
  dsimp only [Pt.U, Pt.locs, Pt.cells, Pt.slots] at X2 l2 y2 z2 st2 hQ2
  subst l2 y2 z2
  obtain ⟨rfl, N2q, K2q, E2q, F2_s⟩ := hQ2
  have N2 := Fr.app N0 N2q
  refine own_go (B := T2.setTop (mkF m 14 #[.val (.int p1), .val (.int p2), .val (.int p3), .val (.int p4), .unset, .unset, .unset, .unset, .unset, .unset, .unset, .unset, .unset, .unset, .unset, .unset, .unset, .unset] [(.ref b1)])) (fun t k => st2.trans k) ?_
  refine own_go (B := T2.setTop (mkF m 18 #[.val (.int p1), .val (.int p2), .val (.int p3), .val (.int p4), .val (.ref b1), .unset, .unset, .unset, .unset, .unset, .unset, .unset, .unset, .unset, .unset, .unset, .unset, .unset] [(.ref b1)])) (fun t k => ?_) ?_
  · show Steps p.tables e below (T2.setTop (mkF m 14 #[.val (.int p1), .val (.int p2), .val (.int p3), .val (.int p4), .unset, .unset, .unset, .unset, .unset, .unset, .unset, .unset, .unset, .unset, .unset, .unset, .unset, .unset] [(.ref b1)])) _
    refine XS.astore X2.here hx rfl (hb hby at_14) rfl rfl (l' := #[.val (.int p1), .val (.int p2), .val (.int p3), .val (.int p4), .val (.ref b1), .unset, .unset, .unset, .unset, .unset, .unset, .unset, .unset, .unset, .unset, .unset, .unset, .unset]) rfl ?_
    show Steps p.tables e below (T2.setTop (mkF m 16 #[.val (.int p1), .val (.int p2), .val (.int p3), .val (.int p4), .val (.ref b1), .unset, .unset, .unset, .unset, .unset, .unset, .unset, .unset, .unset, .unset, .unset, .unset, .unset] [])) _
    refine XS.aload X2.here hx rfl (hb hby at_16) rfl rfl ?_
    exact k
  obtain ⟨cq3, kq3, q3a, q3b, q3c⟩ := isOf hZ rfl E2q
  obtain ⟨_, _, ⟨T3, L3, k3, n3⟩, -, X3, ⟨Lc3, hQ3, l3, y3, z3⟩, st3⟩ := X2.virtualBack hx (y := (⟨"com/example/inkremental/inkremental/engine/Partitions", "shipped", "()J"⟩ : MethodName)) (z := (⟨"com/example/inkremental/inkremental/engine/Partitions", "shipped", "()J"⟩ : MethodName)) hown (mvT hZ (hw _ (List.mem_of_getElem? (i := 11) rfl))) (mvT hZ (hw _ (List.mem_of_getElem? (i := 12) rfl))) (notFace_of_selects (args := #[]) (mvT hZ (hw _ (List.mem_of_getElem? (i := 14) rfl)))) (mvT hZ (hw _ (List.mem_of_getElem? (i := 14) rfl))) (mvT hZ (hw _ (List.mem_of_getElem? (i := 13) rfl))) (by decide) (backOf (W := 0) (rm3 l Z a0 hw [] b1 (0 : Int64) T2.heap n0 (Nat.le_trans (Nat.le_trans Z0 E1.1) K2q.1) F2_s) hZ (hw _ (List.mem_of_getElem? (i := 15) rfl)) (hw _ (List.mem_of_getElem? (i := 2) rfl)) (by decide) (by decide)) q3a q3c (g := (mkF m 18 #[.val (.int p1), .val (.int p2), .val (.int p3), .val (.int p4), .val (.ref b1), .unset, .unset, .unset, .unset, .unset, .unset, .unset, .unset, .unset, .unset, .unset, .unset, .unset] [(.ref b1)])) rfl (by rw [hml]; rfl) (Steps.refl _) (argsL := []) (rest := []) (lenOf own_pd1 rfl) rfl (by show 2 * 0 + _ ≤ _; exact Nat.le_of_eq rfl) (hb hby at_18) (fun _ _ => ⟨rfl, rfl, (by decide : 1 + 0 ≤ _), (by decide : 2 + 0 ≤ _)⟩)
  dsimp only [Pt.U, Pt.locs, Pt.cells, Pt.slots] at X3 l3 y3 z3 st3 hQ3
  subst l3 y3 z3
  obtain ⟨rfl, N3q, eq3⟩ := hQ3
  have N3 := Fr.app N2 N3q
  refine own_go (B := T3.setTop (mkF m 21 #[.val (.int p1), .val (.int p2), .val (.int p3), .val (.int p4), .val (.ref b1), .unset, .unset, .unset, .unset, .unset, .unset, .unset, .unset, .unset, .unset, .unset, .unset, .unset] [(.long (0 : Int64))])) (fun t k => st3.trans k) ?_
  refine own_go (B := T3.setTop (mkF m 27 #[.val (.int p1), .val (.int p2), .val (.int p3), .val (.int p4), .val (.ref b1), .val (.long (0 : Int64)), .second, .unset, .unset, .unset, .unset, .unset, .unset, .unset, .unset, .unset, .unset, .unset] [(.int p3), (.int p2), (.ref b1)])) (fun t k => ?_) ?_
  · show Steps p.tables e below (T3.setTop (mkF m 21 #[.val (.int p1), .val (.int p2), .val (.int p3), .val (.int p4), .val (.ref b1), .unset, .unset, .unset, .unset, .unset, .unset, .unset, .unset, .unset, .unset, .unset, .unset, .unset] [(.long (0 : Int64))])) _
    refine XS.lstore X3.here hx rfl (hb hby at_21) rfl (l' := #[.val (.int p1), .val (.int p2), .val (.int p3), .val (.int p4), .val (.ref b1), .val (.long (0 : Int64)), .second, .unset, .unset, .unset, .unset, .unset, .unset, .unset, .unset, .unset, .unset, .unset]) rfl ?_
    show Steps p.tables e below (T3.setTop (mkF m 23 #[.val (.int p1), .val (.int p2), .val (.int p3), .val (.int p4), .val (.ref b1), .val (.long (0 : Int64)), .second, .unset, .unset, .unset, .unset, .unset, .unset, .unset, .unset, .unset, .unset, .unset] [])) _
    refine XS.aload X3.here hx rfl (hb hby at_23) rfl rfl ?_
    show Steps p.tables e below (T3.setTop (mkF m 25 #[.val (.int p1), .val (.int p2), .val (.int p3), .val (.int p4), .val (.ref b1), .val (.long (0 : Int64)), .second, .unset, .unset, .unset, .unset, .unset, .unset, .unset, .unset, .unset, .unset, .unset] [(.ref b1)])) _
    refine XS.iloadN X3.here hx rfl (hb hby at_25) rfl ?_
    show Steps p.tables e below (T3.setTop (mkF m 26 #[.val (.int p1), .val (.int p2), .val (.int p3), .val (.int p4), .val (.ref b1), .val (.long (0 : Int64)), .second, .unset, .unset, .unset, .unset, .unset, .unset, .unset, .unset, .unset, .unset, .unset] [(.int p2), (.ref b1)])) _
    refine XS.iloadN X3.here hx rfl (hb hby at_26) rfl ?_
    exact k
  obtain ⟨cq4, kq4, q4a, q4b, q4c⟩ := isOf hZ eq3 E2q
  obtain ⟨_, _, ⟨T4, L4, k4, n4⟩, -, X4, ⟨Lc4, hQ4, l4, y4, z4⟩, st4⟩ := X3.virtualBack hx (y := (⟨"com/example/inkremental/inkremental/engine/Partitions", "send", "(II)V"⟩ : MethodName)) (z := (⟨"com/example/inkremental/inkremental/engine/Partitions", "send", "(II)V"⟩ : MethodName)) hown (mvT hZ (hw _ (List.mem_of_getElem? (i := 18) rfl))) (mvT hZ (hw _ (List.mem_of_getElem? (i := 19) rfl))) (notFace_of_selects (args := #[]) (mvT hZ (hw _ (List.mem_of_getElem? (i := 21) rfl)))) (mvT hZ (hw _ (List.mem_of_getElem? (i := 21) rfl))) (mvT hZ (hw _ (List.mem_of_getElem? (i := 20) rfl))) (by decide) (backOf (W := 0) (rm4 l Z a0 hw [] b1 p2 p3 (0 : Int64) T2.heap n0 (Nat.le_trans (Nat.le_trans Z0 E1.1) K2q.1) E2q g_b1 F2_s) hZ (hw _ (List.mem_of_getElem? (i := 22) rfl)) (hw _ (List.mem_of_getElem? (i := 2) rfl)) (by decide) (by decide)) q4a q4c (g := (mkF m 27 #[.val (.int p1), .val (.int p2), .val (.int p3), .val (.int p4), .val (.ref b1), .val (.long (0 : Int64)), .second, .unset, .unset, .unset, .unset, .unset, .unset, .unset, .unset, .unset, .unset, .unset] [(.int p3), (.int p2), (.ref b1)])) rfl (by rw [hml]; rfl) (Steps.refl _) (argsL := [(.int p2), (.int p3)]) (rest := []) (lenOf own_pd2 rfl) rfl (by show 2 * 0 + _ ≤ _; exact Nat.le_of_eq rfl) (hb hby at_27) (fun _ _ => ⟨rfl, eq3, (by decide : 1 + 0 ≤ _), (by decide : 2 + 0 ≤ _)⟩)
  dsimp only [Pt.U, Pt.locs, Pt.cells, Pt.slots] at X4 l4 y4 z4 st4 hQ4
  subst l4 y4 z4
  obtain ⟨rfl, N4q, K4q, E4q, F4_s⟩ := hQ4
  have N4 := Fr.app N3 N4q
  refine own_go (B := T4.setTop (mkF m 30 #[.val (.int p1), .val (.int p2), .val (.int p3), .val (.int p4), .val (.ref b1), .val (.long (0 : Int64)), .second, .unset, .unset, .unset, .unset, .unset, .unset, .unset, .unset, .unset, .unset, .unset] [])) (fun t k => st4.trans k) ?_
  refine own_go (B := T4.setTop (mkF m 32 #[.val (.int p1), .val (.int p2), .val (.int p3), .val (.int p4), .val (.ref b1), .val (.long (0 : Int64)), .second, .unset, .unset, .unset, .unset, .unset, .unset, .unset, .unset, .unset, .unset, .unset] [(.ref b1)])) (fun t k => ?_) ?_
  · show Steps p.tables e below (T4.setTop (mkF m 30 #[.val (.int p1), .val (.int p2), .val (.int p3), .val (.int p4), .val (.ref b1), .val (.long (0 : Int64)), .second, .unset, .unset, .unset, .unset, .unset, .unset, .unset, .unset, .unset, .unset, .unset] [])) _
    refine XS.aload X4.here hx rfl (hb hby at_30) rfl rfl ?_
    exact k
  obtain ⟨cq5, kq5, q5a, q5b, q5c⟩ := isOf hZ rfl E4q
  obtain ⟨_, _, ⟨T5, L5, k5, n5⟩, -, X5, ⟨Lc5, hQ5, l5, y5, z5⟩, st5⟩ := X4.virtualBack hx (y := (⟨"com/example/inkremental/inkremental/engine/Partitions", "shipped", "()J"⟩ : MethodName)) (z := (⟨"com/example/inkremental/inkremental/engine/Partitions", "shipped", "()J"⟩ : MethodName)) hown (mvT hZ (hw _ (List.mem_of_getElem? (i := 11) rfl))) (mvT hZ (hw _ (List.mem_of_getElem? (i := 12) rfl))) (notFace_of_selects (args := #[]) (mvT hZ (hw _ (List.mem_of_getElem? (i := 14) rfl)))) (mvT hZ (hw _ (List.mem_of_getElem? (i := 14) rfl))) (mvT hZ (hw _ (List.mem_of_getElem? (i := 13) rfl))) (by decide) (backOf (W := 0) (rm3 l Z a0 hw [] b1 ((0 : Int64) + (own_step p2 p3)) T4.heap n0 (Nat.le_trans (Nat.le_trans (Nat.le_trans Z0 E1.1) K2q.1) K4q.1) F4_s) hZ (hw _ (List.mem_of_getElem? (i := 15) rfl)) (hw _ (List.mem_of_getElem? (i := 2) rfl)) (by decide) (by decide)) q5a q5c (g := (mkF m 32 #[.val (.int p1), .val (.int p2), .val (.int p3), .val (.int p4), .val (.ref b1), .val (.long (0 : Int64)), .second, .unset, .unset, .unset, .unset, .unset, .unset, .unset, .unset, .unset, .unset, .unset] [(.ref b1)])) rfl (by rw [hml]; rfl) (Steps.refl _) (argsL := []) (rest := []) (lenOf own_pd1 rfl) rfl (by show 2 * 0 + _ ≤ _; exact Nat.le_of_eq rfl) (hb hby at_32) (fun _ _ => ⟨rfl, rfl, (by decide : 1 + 0 ≤ _), (by decide : 2 + 0 ≤ _)⟩)
  dsimp only [Pt.U, Pt.locs, Pt.cells, Pt.slots] at X5 l5 y5 z5 st5 hQ5
  subst l5 y5 z5
  obtain ⟨rfl, N5q, eq5⟩ := hQ5
  have N5 := Fr.app N4 N5q
  refine own_go (B := T5.setTop (mkF m 35 #[.val (.int p1), .val (.int p2), .val (.int p3), .val (.int p4), .val (.ref b1), .val (.long (0 : Int64)), .second, .unset, .unset, .unset, .unset, .unset, .unset, .unset, .unset, .unset, .unset, .unset] [(.long ((0 : Int64) + (own_step p2 p3)))])) (fun t k => st5.trans k) ?_
  refine own_go (B := T5.setTop (mkF m 41 #[.val (.int p1), .val (.int p2), .val (.int p3), .val (.int p4), .val (.ref b1), .val (.long (0 : Int64)), .second, .val (.long ((0 : Int64) + (own_step p2 p3))), .second, .unset, .unset, .unset, .unset, .unset, .unset, .unset, .unset, .unset] [(.int p2), (.int p3), (.ref b1)])) (fun t k => ?_) ?_
  · show Steps p.tables e below (T5.setTop (mkF m 35 #[.val (.int p1), .val (.int p2), .val (.int p3), .val (.int p4), .val (.ref b1), .val (.long (0 : Int64)), .second, .unset, .unset, .unset, .unset, .unset, .unset, .unset, .unset, .unset, .unset, .unset] [(.long ((0 : Int64) + (own_step p2 p3)))])) _
    refine XS.lstore X5.here hx rfl (hb hby at_35) rfl (l' := #[.val (.int p1), .val (.int p2), .val (.int p3), .val (.int p4), .val (.ref b1), .val (.long (0 : Int64)), .second, .val (.long ((0 : Int64) + (own_step p2 p3))), .second, .unset, .unset, .unset, .unset, .unset, .unset, .unset, .unset, .unset]) rfl ?_
    show Steps p.tables e below (T5.setTop (mkF m 37 #[.val (.int p1), .val (.int p2), .val (.int p3), .val (.int p4), .val (.ref b1), .val (.long (0 : Int64)), .second, .val (.long ((0 : Int64) + (own_step p2 p3))), .second, .unset, .unset, .unset, .unset, .unset, .unset, .unset, .unset, .unset] [])) _
    refine XS.aload X5.here hx rfl (hb hby at_37) rfl rfl ?_
    show Steps p.tables e below (T5.setTop (mkF m 39 #[.val (.int p1), .val (.int p2), .val (.int p3), .val (.int p4), .val (.ref b1), .val (.long (0 : Int64)), .second, .val (.long ((0 : Int64) + (own_step p2 p3))), .second, .unset, .unset, .unset, .unset, .unset, .unset, .unset, .unset, .unset] [(.ref b1)])) _
    refine XS.iloadN X5.here hx rfl (hb hby at_39) rfl ?_
    show Steps p.tables e below (T5.setTop (mkF m 40 #[.val (.int p1), .val (.int p2), .val (.int p3), .val (.int p4), .val (.ref b1), .val (.long (0 : Int64)), .second, .val (.long ((0 : Int64) + (own_step p2 p3))), .second, .unset, .unset, .unset, .unset, .unset, .unset, .unset, .unset, .unset] [(.int p3), (.ref b1)])) _
    refine XS.iloadN X5.here hx rfl (hb hby at_40) rfl ?_
    exact k
  obtain ⟨cq6, kq6, q6a, q6b, q6c⟩ := isOf hZ eq5 E4q
  obtain ⟨_, _, ⟨T6, L6, k6, n6⟩, -, X6, ⟨Lc6, hQ6, l6, y6, z6⟩, st6⟩ := X5.virtualBack hx (y := (⟨"com/example/inkremental/inkremental/engine/Partitions", "send", "(II)V"⟩ : MethodName)) (z := (⟨"com/example/inkremental/inkremental/engine/Partitions", "send", "(II)V"⟩ : MethodName)) hown (mvT hZ (hw _ (List.mem_of_getElem? (i := 18) rfl))) (mvT hZ (hw _ (List.mem_of_getElem? (i := 19) rfl))) (notFace_of_selects (args := #[]) (mvT hZ (hw _ (List.mem_of_getElem? (i := 21) rfl)))) (mvT hZ (hw _ (List.mem_of_getElem? (i := 21) rfl))) (mvT hZ (hw _ (List.mem_of_getElem? (i := 20) rfl))) (by decide) (backOf (W := 0) (rm4 l Z a0 hw [] b1 p3 p2 ((0 : Int64) + (own_step p2 p3)) T4.heap n0 (Nat.le_trans (Nat.le_trans (Nat.le_trans Z0 E1.1) K2q.1) K4q.1) E4q g_b1 F4_s) hZ (hw _ (List.mem_of_getElem? (i := 22) rfl)) (hw _ (List.mem_of_getElem? (i := 2) rfl)) (by decide) (by decide)) q6a q6c (g := (mkF m 41 #[.val (.int p1), .val (.int p2), .val (.int p3), .val (.int p4), .val (.ref b1), .val (.long (0 : Int64)), .second, .val (.long ((0 : Int64) + (own_step p2 p3))), .second, .unset, .unset, .unset, .unset, .unset, .unset, .unset, .unset, .unset] [(.int p2), (.int p3), (.ref b1)])) rfl (by rw [hml]; rfl) (Steps.refl _) (argsL := [(.int p3), (.int p2)]) (rest := []) (lenOf own_pd2 rfl) rfl (by show 2 * 0 + _ ≤ _; exact Nat.le_of_eq rfl) (hb hby at_41) (fun _ _ => ⟨rfl, eq5, (by decide : 1 + 0 ≤ _), (by decide : 2 + 0 ≤ _)⟩)
  dsimp only [Pt.U, Pt.locs, Pt.cells, Pt.slots] at X6 l6 y6 z6 st6 hQ6
  subst l6 y6 z6
  obtain ⟨rfl, N6q, K6q, E6q, F6_s⟩ := hQ6
  have N6 := Fr.app N5 N6q
  refine own_go (B := T6.setTop (mkF m 44 #[.val (.int p1), .val (.int p2), .val (.int p3), .val (.int p4), .val (.ref b1), .val (.long (0 : Int64)), .second, .val (.long ((0 : Int64) + (own_step p2 p3))), .second, .unset, .unset, .unset, .unset, .unset, .unset, .unset, .unset, .unset] [])) (fun t k => st6.trans k) ?_
  refine own_go (B := T6.setTop (mkF m 46 #[.val (.int p1), .val (.int p2), .val (.int p3), .val (.int p4), .val (.ref b1), .val (.long (0 : Int64)), .second, .val (.long ((0 : Int64) + (own_step p2 p3))), .second, .unset, .unset, .unset, .unset, .unset, .unset, .unset, .unset, .unset] [(.ref b1)])) (fun t k => ?_) ?_
  · show Steps p.tables e below (T6.setTop (mkF m 44 #[.val (.int p1), .val (.int p2), .val (.int p3), .val (.int p4), .val (.ref b1), .val (.long (0 : Int64)), .second, .val (.long ((0 : Int64) + (own_step p2 p3))), .second, .unset, .unset, .unset, .unset, .unset, .unset, .unset, .unset, .unset] [])) _
    refine XS.aload X6.here hx rfl (hb hby at_44) rfl rfl ?_
    exact k
  obtain ⟨cq7, kq7, q7a, q7b, q7c⟩ := isOf hZ rfl E6q
  obtain ⟨_, _, ⟨T7, L7, k7, n7⟩, -, X7, ⟨Lc7, hQ7, l7, y7, z7⟩, st7⟩ := X6.virtualBack hx (y := (⟨"com/example/inkremental/inkremental/engine/Partitions", "shipped", "()J"⟩ : MethodName)) (z := (⟨"com/example/inkremental/inkremental/engine/Partitions", "shipped", "()J"⟩ : MethodName)) hown (mvT hZ (hw _ (List.mem_of_getElem? (i := 11) rfl))) (mvT hZ (hw _ (List.mem_of_getElem? (i := 12) rfl))) (notFace_of_selects (args := #[]) (mvT hZ (hw _ (List.mem_of_getElem? (i := 14) rfl)))) (mvT hZ (hw _ (List.mem_of_getElem? (i := 14) rfl))) (mvT hZ (hw _ (List.mem_of_getElem? (i := 13) rfl))) (by decide) (backOf (W := 0) (rm3 l Z a0 hw [] b1 (((0 : Int64) + (own_step p2 p3)) + (own_step p3 p2)) T6.heap n0 (Nat.le_trans (Nat.le_trans (Nat.le_trans (Nat.le_trans Z0 E1.1) K2q.1) K4q.1) K6q.1) F6_s) hZ (hw _ (List.mem_of_getElem? (i := 15) rfl)) (hw _ (List.mem_of_getElem? (i := 2) rfl)) (by decide) (by decide)) q7a q7c (g := (mkF m 46 #[.val (.int p1), .val (.int p2), .val (.int p3), .val (.int p4), .val (.ref b1), .val (.long (0 : Int64)), .second, .val (.long ((0 : Int64) + (own_step p2 p3))), .second, .unset, .unset, .unset, .unset, .unset, .unset, .unset, .unset, .unset] [(.ref b1)])) rfl (by rw [hml]; rfl) (Steps.refl _) (argsL := []) (rest := []) (lenOf own_pd1 rfl) rfl (by show 2 * 0 + _ ≤ _; exact Nat.le_of_eq rfl) (hb hby at_46) (fun _ _ => ⟨rfl, rfl, (by decide : 1 + 0 ≤ _), (by decide : 2 + 0 ≤ _)⟩)
  dsimp only [Pt.U, Pt.locs, Pt.cells, Pt.slots] at X7 l7 y7 z7 st7 hQ7
  subst l7 y7 z7
  obtain ⟨rfl, N7q, eq7⟩ := hQ7
  have N7 := Fr.app N6 N7q
  refine own_go (B := T7.setTop (mkF m 49 #[.val (.int p1), .val (.int p2), .val (.int p3), .val (.int p4), .val (.ref b1), .val (.long (0 : Int64)), .second, .val (.long ((0 : Int64) + (own_step p2 p3))), .second, .unset, .unset, .unset, .unset, .unset, .unset, .unset, .unset, .unset] [(.long (((0 : Int64) + (own_step p2 p3)) + (own_step p3 p2)))])) (fun t k => st7.trans k) ?_
  refine own_go (B := T7.setTop (mkF m 55 #[.val (.int p1), .val (.int p2), .val (.int p3), .val (.int p4), .val (.ref b1), .val (.long (0 : Int64)), .second, .val (.long ((0 : Int64) + (own_step p2 p3))), .second, .val (.long (((0 : Int64) + (own_step p2 p3)) + (own_step p3 p2))), .second, .unset, .unset, .unset, .unset, .unset, .unset, .unset] [(.int p2), (.int p2), (.ref b1)])) (fun t k => ?_) ?_
  · show Steps p.tables e below (T7.setTop (mkF m 49 #[.val (.int p1), .val (.int p2), .val (.int p3), .val (.int p4), .val (.ref b1), .val (.long (0 : Int64)), .second, .val (.long ((0 : Int64) + (own_step p2 p3))), .second, .unset, .unset, .unset, .unset, .unset, .unset, .unset, .unset, .unset] [(.long (((0 : Int64) + (own_step p2 p3)) + (own_step p3 p2)))])) _
    refine XS.lstore X7.here hx rfl (hb hby at_49) rfl (l' := #[.val (.int p1), .val (.int p2), .val (.int p3), .val (.int p4), .val (.ref b1), .val (.long (0 : Int64)), .second, .val (.long ((0 : Int64) + (own_step p2 p3))), .second, .val (.long (((0 : Int64) + (own_step p2 p3)) + (own_step p3 p2))), .second, .unset, .unset, .unset, .unset, .unset, .unset, .unset]) rfl ?_
    show Steps p.tables e below (T7.setTop (mkF m 51 #[.val (.int p1), .val (.int p2), .val (.int p3), .val (.int p4), .val (.ref b1), .val (.long (0 : Int64)), .second, .val (.long ((0 : Int64) + (own_step p2 p3))), .second, .val (.long (((0 : Int64) + (own_step p2 p3)) + (own_step p3 p2))), .second, .unset, .unset, .unset, .unset, .unset, .unset, .unset] [])) _
    refine XS.aload X7.here hx rfl (hb hby at_51) rfl rfl ?_
    show Steps p.tables e below (T7.setTop (mkF m 53 #[.val (.int p1), .val (.int p2), .val (.int p3), .val (.int p4), .val (.ref b1), .val (.long (0 : Int64)), .second, .val (.long ((0 : Int64) + (own_step p2 p3))), .second, .val (.long (((0 : Int64) + (own_step p2 p3)) + (own_step p3 p2))), .second, .unset, .unset, .unset, .unset, .unset, .unset, .unset] [(.ref b1)])) _
    refine XS.iloadN X7.here hx rfl (hb hby at_53) rfl ?_
    show Steps p.tables e below (T7.setTop (mkF m 54 #[.val (.int p1), .val (.int p2), .val (.int p3), .val (.int p4), .val (.ref b1), .val (.long (0 : Int64)), .second, .val (.long ((0 : Int64) + (own_step p2 p3))), .second, .val (.long (((0 : Int64) + (own_step p2 p3)) + (own_step p3 p2))), .second, .unset, .unset, .unset, .unset, .unset, .unset, .unset] [(.int p2), (.ref b1)])) _
    refine XS.iloadN X7.here hx rfl (hb hby at_54) rfl ?_
    exact k
  obtain ⟨cq8, kq8, q8a, q8b, q8c⟩ := isOf hZ eq7 E6q
  obtain ⟨_, _, ⟨T8, L8, k8, n8⟩, -, X8, ⟨Lc8, hQ8, l8, y8, z8⟩, st8⟩ := X7.virtualBack hx (y := (⟨"com/example/inkremental/inkremental/engine/Partitions", "send", "(II)V"⟩ : MethodName)) (z := (⟨"com/example/inkremental/inkremental/engine/Partitions", "send", "(II)V"⟩ : MethodName)) hown (mvT hZ (hw _ (List.mem_of_getElem? (i := 18) rfl))) (mvT hZ (hw _ (List.mem_of_getElem? (i := 19) rfl))) (notFace_of_selects (args := #[]) (mvT hZ (hw _ (List.mem_of_getElem? (i := 21) rfl)))) (mvT hZ (hw _ (List.mem_of_getElem? (i := 21) rfl))) (mvT hZ (hw _ (List.mem_of_getElem? (i := 20) rfl))) (by decide) (backOf (W := 0) (rm4 l Z a0 hw [] b1 p2 p2 (((0 : Int64) + (own_step p2 p3)) + (own_step p3 p2)) T6.heap n0 (Nat.le_trans (Nat.le_trans (Nat.le_trans (Nat.le_trans Z0 E1.1) K2q.1) K4q.1) K6q.1) E6q g_b1 F6_s) hZ (hw _ (List.mem_of_getElem? (i := 22) rfl)) (hw _ (List.mem_of_getElem? (i := 2) rfl)) (by decide) (by decide)) q8a q8c (g := (mkF m 55 #[.val (.int p1), .val (.int p2), .val (.int p3), .val (.int p4), .val (.ref b1), .val (.long (0 : Int64)), .second, .val (.long ((0 : Int64) + (own_step p2 p3))), .second, .val (.long (((0 : Int64) + (own_step p2 p3)) + (own_step p3 p2))), .second, .unset, .unset, .unset, .unset, .unset, .unset, .unset] [(.int p2), (.int p2), (.ref b1)])) rfl (by rw [hml]; rfl) (Steps.refl _) (argsL := [(.int p2), (.int p2)]) (rest := []) (lenOf own_pd2 rfl) rfl (by show 2 * 0 + _ ≤ _; exact Nat.le_of_eq rfl) (hb hby at_55) (fun _ _ => ⟨rfl, eq7, (by decide : 1 + 0 ≤ _), (by decide : 2 + 0 ≤ _)⟩)
  dsimp only [Pt.U, Pt.locs, Pt.cells, Pt.slots] at X8 l8 y8 z8 st8 hQ8
  subst l8 y8 z8
  obtain ⟨rfl, N8q, K8q, E8q, F8_s⟩ := hQ8
  have N8 := Fr.app N7 N8q
  refine own_go (B := T8.setTop (mkF m 58 #[.val (.int p1), .val (.int p2), .val (.int p3), .val (.int p4), .val (.ref b1), .val (.long (0 : Int64)), .second, .val (.long ((0 : Int64) + (own_step p2 p3))), .second, .val (.long (((0 : Int64) + (own_step p2 p3)) + (own_step p3 p2))), .second, .unset, .unset, .unset, .unset, .unset, .unset, .unset] [])) (fun t k => st8.trans k) ?_
  refine own_go (B := T8.setTop (mkF m 60 #[.val (.int p1), .val (.int p2), .val (.int p3), .val (.int p4), .val (.ref b1), .val (.long (0 : Int64)), .second, .val (.long ((0 : Int64) + (own_step p2 p3))), .second, .val (.long (((0 : Int64) + (own_step p2 p3)) + (own_step p3 p2))), .second, .unset, .unset, .unset, .unset, .unset, .unset, .unset] [(.ref b1)])) (fun t k => ?_) ?_
  · show Steps p.tables e below (T8.setTop (mkF m 58 #[.val (.int p1), .val (.int p2), .val (.int p3), .val (.int p4), .val (.ref b1), .val (.long (0 : Int64)), .second, .val (.long ((0 : Int64) + (own_step p2 p3))), .second, .val (.long (((0 : Int64) + (own_step p2 p3)) + (own_step p3 p2))), .second, .unset, .unset, .unset, .unset, .unset, .unset, .unset] [])) _
    refine XS.aload X8.here hx rfl (hb hby at_58) rfl rfl ?_
    exact k
  obtain ⟨cq9, kq9, q9a, q9b, q9c⟩ := isOf hZ rfl E8q
  obtain ⟨_, _, ⟨T9, L9, k9, n9⟩, -, X9, ⟨Lc9, hQ9, l9, y9, z9⟩, st9⟩ := X8.virtualBack hx (y := (⟨"com/example/inkremental/inkremental/engine/Partitions", "shipped", "()J"⟩ : MethodName)) (z := (⟨"com/example/inkremental/inkremental/engine/Partitions", "shipped", "()J"⟩ : MethodName)) hown (mvT hZ (hw _ (List.mem_of_getElem? (i := 11) rfl))) (mvT hZ (hw _ (List.mem_of_getElem? (i := 12) rfl))) (notFace_of_selects (args := #[]) (mvT hZ (hw _ (List.mem_of_getElem? (i := 14) rfl)))) (mvT hZ (hw _ (List.mem_of_getElem? (i := 14) rfl))) (mvT hZ (hw _ (List.mem_of_getElem? (i := 13) rfl))) (by decide) (backOf (W := 0) (rm3 l Z a0 hw [] b1 ((((0 : Int64) + (own_step p2 p3)) + (own_step p3 p2)) + (own_step p2 p2)) T8.heap n0 (Nat.le_trans (Nat.le_trans (Nat.le_trans (Nat.le_trans (Nat.le_trans Z0 E1.1) K2q.1) K4q.1) K6q.1) K8q.1) F8_s) hZ (hw _ (List.mem_of_getElem? (i := 15) rfl)) (hw _ (List.mem_of_getElem? (i := 2) rfl)) (by decide) (by decide)) q9a q9c (g := (mkF m 60 #[.val (.int p1), .val (.int p2), .val (.int p3), .val (.int p4), .val (.ref b1), .val (.long (0 : Int64)), .second, .val (.long ((0 : Int64) + (own_step p2 p3))), .second, .val (.long (((0 : Int64) + (own_step p2 p3)) + (own_step p3 p2))), .second, .unset, .unset, .unset, .unset, .unset, .unset, .unset] [(.ref b1)])) rfl (by rw [hml]; rfl) (Steps.refl _) (argsL := []) (rest := []) (lenOf own_pd1 rfl) rfl (by show 2 * 0 + _ ≤ _; exact Nat.le_of_eq rfl) (hb hby at_60) (fun _ _ => ⟨rfl, rfl, (by decide : 1 + 0 ≤ _), (by decide : 2 + 0 ≤ _)⟩)
  dsimp only [Pt.U, Pt.locs, Pt.cells, Pt.slots] at X9 l9 y9 z9 st9 hQ9
  subst l9 y9 z9
  obtain ⟨rfl, N9q, eq9⟩ := hQ9
  have N9 := Fr.app N8 N9q
  refine own_go (B := T9.setTop (mkF m 63 #[.val (.int p1), .val (.int p2), .val (.int p3), .val (.int p4), .val (.ref b1), .val (.long (0 : Int64)), .second, .val (.long ((0 : Int64) + (own_step p2 p3))), .second, .val (.long (((0 : Int64) + (own_step p2 p3)) + (own_step p3 p2))), .second, .unset, .unset, .unset, .unset, .unset, .unset, .unset] [(.long ((((0 : Int64) + (own_step p2 p3)) + (own_step p3 p2)) + (own_step p2 p2)))])) (fun t k => st9.trans k) ?_
  refine own_go (B := T9.setTop (mkF m 77 #[.val (.int p1), .val (.int p2), .val (.int p3), .val (.int p4), .val (.ref b1), .val (.long (0 : Int64)), .second, .val (.long ((0 : Int64) + (own_step p2 p3))), .second, .val (.long (((0 : Int64) + (own_step p2 p3)) + (own_step p3 p2))), .second, .val (.long ((((0 : Int64) + (own_step p2 p3)) + (own_step p3 p2)) + (own_step p2 p2))), .second, .val (.int (p3 ^^^ (p4 &&& (1 : Int32)))), .unset, .unset, .unset, .unset] [(.int (p3 ^^^ (p4 &&& (1 : Int32)))), (.int p3), (.ref b1)])) (fun t k => ?_) ?_
  · show Steps p.tables e below (T9.setTop (mkF m 63 #[.val (.int p1), .val (.int p2), .val (.int p3), .val (.int p4), .val (.ref b1), .val (.long (0 : Int64)), .second, .val (.long ((0 : Int64) + (own_step p2 p3))), .second, .val (.long (((0 : Int64) + (own_step p2 p3)) + (own_step p3 p2))), .second, .unset, .unset, .unset, .unset, .unset, .unset, .unset] [(.long ((((0 : Int64) + (own_step p2 p3)) + (own_step p3 p2)) + (own_step p2 p2)))])) _
    refine XS.lstore X9.here hx rfl (hb hby at_63) rfl (l' := #[.val (.int p1), .val (.int p2), .val (.int p3), .val (.int p4), .val (.ref b1), .val (.long (0 : Int64)), .second, .val (.long ((0 : Int64) + (own_step p2 p3))), .second, .val (.long (((0 : Int64) + (own_step p2 p3)) + (own_step p3 p2))), .second, .val (.long ((((0 : Int64) + (own_step p2 p3)) + (own_step p3 p2)) + (own_step p2 p2))), .second, .unset, .unset, .unset, .unset, .unset]) rfl ?_
    show Steps p.tables e below (T9.setTop (mkF m 65 #[.val (.int p1), .val (.int p2), .val (.int p3), .val (.int p4), .val (.ref b1), .val (.long (0 : Int64)), .second, .val (.long ((0 : Int64) + (own_step p2 p3))), .second, .val (.long (((0 : Int64) + (own_step p2 p3)) + (own_step p3 p2))), .second, .val (.long ((((0 : Int64) + (own_step p2 p3)) + (own_step p3 p2)) + (own_step p2 p2))), .second, .unset, .unset, .unset, .unset, .unset] [])) _
    refine XS.iloadN X9.here hx rfl (hb hby at_65) rfl ?_
    show Steps p.tables e below (T9.setTop (mkF m 66 #[.val (.int p1), .val (.int p2), .val (.int p3), .val (.int p4), .val (.ref b1), .val (.long (0 : Int64)), .second, .val (.long ((0 : Int64) + (own_step p2 p3))), .second, .val (.long (((0 : Int64) + (own_step p2 p3)) + (own_step p3 p2))), .second, .val (.long ((((0 : Int64) + (own_step p2 p3)) + (own_step p3 p2)) + (own_step p2 p2))), .second, .unset, .unset, .unset, .unset, .unset] [(.int p3)])) _
    refine XS.iloadN X9.here hx rfl (hb hby at_66) rfl ?_
    show Steps p.tables e below (T9.setTop (mkF m 67 #[.val (.int p1), .val (.int p2), .val (.int p3), .val (.int p4), .val (.ref b1), .val (.long (0 : Int64)), .second, .val (.long ((0 : Int64) + (own_step p2 p3))), .second, .val (.long (((0 : Int64) + (own_step p2 p3)) + (own_step p3 p2))), .second, .val (.long ((((0 : Int64) + (own_step p2 p3)) + (own_step p3 p2)) + (own_step p2 p2))), .second, .unset, .unset, .unset, .unset, .unset] [(.int p4), (.int p3)])) _
    refine XS.iconst X9.here hx rfl (hb hby at_67) ?_
    show Steps p.tables e below (T9.setTop (mkF m 68 #[.val (.int p1), .val (.int p2), .val (.int p3), .val (.int p4), .val (.ref b1), .val (.long (0 : Int64)), .second, .val (.long ((0 : Int64) + (own_step p2 p3))), .second, .val (.long (((0 : Int64) + (own_step p2 p3)) + (own_step p3 p2))), .second, .val (.long ((((0 : Int64) + (own_step p2 p3)) + (own_step p3 p2)) + (own_step p2 p2))), .second, .unset, .unset, .unset, .unset, .unset] [(.int (1 : Int32)), (.int p4), (.int p3)])) _
    refine XS.iand X9.here hx rfl (hb hby at_68) rfl ?_
    show Steps p.tables e below (T9.setTop (mkF m 69 #[.val (.int p1), .val (.int p2), .val (.int p3), .val (.int p4), .val (.ref b1), .val (.long (0 : Int64)), .second, .val (.long ((0 : Int64) + (own_step p2 p3))), .second, .val (.long (((0 : Int64) + (own_step p2 p3)) + (own_step p3 p2))), .second, .val (.long ((((0 : Int64) + (own_step p2 p3)) + (own_step p3 p2)) + (own_step p2 p2))), .second, .unset, .unset, .unset, .unset, .unset] [(.int (p4 &&& (1 : Int32))), (.int p3)])) _
    refine XS.ixor X9.here hx rfl (hb hby at_69) rfl ?_
    show Steps p.tables e below (T9.setTop (mkF m 70 #[.val (.int p1), .val (.int p2), .val (.int p3), .val (.int p4), .val (.ref b1), .val (.long (0 : Int64)), .second, .val (.long ((0 : Int64) + (own_step p2 p3))), .second, .val (.long (((0 : Int64) + (own_step p2 p3)) + (own_step p3 p2))), .second, .val (.long ((((0 : Int64) + (own_step p2 p3)) + (own_step p3 p2)) + (own_step p2 p2))), .second, .unset, .unset, .unset, .unset, .unset] [(.int (p3 ^^^ (p4 &&& (1 : Int32))))])) _
    refine XS.istore X9.here hx rfl (hb hby at_70) rfl (l' := #[.val (.int p1), .val (.int p2), .val (.int p3), .val (.int p4), .val (.ref b1), .val (.long (0 : Int64)), .second, .val (.long ((0 : Int64) + (own_step p2 p3))), .second, .val (.long (((0 : Int64) + (own_step p2 p3)) + (own_step p3 p2))), .second, .val (.long ((((0 : Int64) + (own_step p2 p3)) + (own_step p3 p2)) + (own_step p2 p2))), .second, .val (.int (p3 ^^^ (p4 &&& (1 : Int32)))), .unset, .unset, .unset, .unset]) rfl ?_
    show Steps p.tables e below (T9.setTop (mkF m 72 #[.val (.int p1), .val (.int p2), .val (.int p3), .val (.int p4), .val (.ref b1), .val (.long (0 : Int64)), .second, .val (.long ((0 : Int64) + (own_step p2 p3))), .second, .val (.long (((0 : Int64) + (own_step p2 p3)) + (own_step p3 p2))), .second, .val (.long ((((0 : Int64) + (own_step p2 p3)) + (own_step p3 p2)) + (own_step p2 p2))), .second, .val (.int (p3 ^^^ (p4 &&& (1 : Int32)))), .unset, .unset, .unset, .unset] [])) _
    refine XS.aload X9.here hx rfl (hb hby at_72) rfl rfl ?_
    show Steps p.tables e below (T9.setTop (mkF m 74 #[.val (.int p1), .val (.int p2), .val (.int p3), .val (.int p4), .val (.ref b1), .val (.long (0 : Int64)), .second, .val (.long ((0 : Int64) + (own_step p2 p3))), .second, .val (.long (((0 : Int64) + (own_step p2 p3)) + (own_step p3 p2))), .second, .val (.long ((((0 : Int64) + (own_step p2 p3)) + (own_step p3 p2)) + (own_step p2 p2))), .second, .val (.int (p3 ^^^ (p4 &&& (1 : Int32)))), .unset, .unset, .unset, .unset] [(.ref b1)])) _
    refine XS.iloadN X9.here hx rfl (hb hby at_74) rfl ?_
    show Steps p.tables e below (T9.setTop (mkF m 75 #[.val (.int p1), .val (.int p2), .val (.int p3), .val (.int p4), .val (.ref b1), .val (.long (0 : Int64)), .second, .val (.long ((0 : Int64) + (own_step p2 p3))), .second, .val (.long (((0 : Int64) + (own_step p2 p3)) + (own_step p3 p2))), .second, .val (.long ((((0 : Int64) + (own_step p2 p3)) + (own_step p3 p2)) + (own_step p2 p2))), .second, .val (.int (p3 ^^^ (p4 &&& (1 : Int32)))), .unset, .unset, .unset, .unset] [(.int p3), (.ref b1)])) _
    refine XS.iload X9.here hx rfl (hb hby at_75) rfl ?_
    exact k
  obtain ⟨cq10, kq10, q10a, q10b, q10c⟩ := isOf hZ eq9 E8q
  obtain ⟨_, _, ⟨T10, L10, k10, n10⟩, -, X10, ⟨Lc10, hQ10, l10, y10, z10⟩, st10⟩ := X9.virtualBack hx (y := (⟨"com/example/inkremental/inkremental/engine/Partitions", "send", "(II)V"⟩ : MethodName)) (z := (⟨"com/example/inkremental/inkremental/engine/Partitions", "send", "(II)V"⟩ : MethodName)) hown (mvT hZ (hw _ (List.mem_of_getElem? (i := 18) rfl))) (mvT hZ (hw _ (List.mem_of_getElem? (i := 19) rfl))) (notFace_of_selects (args := #[]) (mvT hZ (hw _ (List.mem_of_getElem? (i := 21) rfl)))) (mvT hZ (hw _ (List.mem_of_getElem? (i := 21) rfl))) (mvT hZ (hw _ (List.mem_of_getElem? (i := 20) rfl))) (by decide) (backOf (W := 0) (rm4 l Z a0 hw [] b1 p3 (p3 ^^^ (p4 &&& (1 : Int32))) ((((0 : Int64) + (own_step p2 p3)) + (own_step p3 p2)) + (own_step p2 p2)) T8.heap n0 (Nat.le_trans (Nat.le_trans (Nat.le_trans (Nat.le_trans (Nat.le_trans Z0 E1.1) K2q.1) K4q.1) K6q.1) K8q.1) E8q g_b1 F8_s) hZ (hw _ (List.mem_of_getElem? (i := 22) rfl)) (hw _ (List.mem_of_getElem? (i := 2) rfl)) (by decide) (by decide)) q10a q10c (g := (mkF m 77 #[.val (.int p1), .val (.int p2), .val (.int p3), .val (.int p4), .val (.ref b1), .val (.long (0 : Int64)), .second, .val (.long ((0 : Int64) + (own_step p2 p3))), .second, .val (.long (((0 : Int64) + (own_step p2 p3)) + (own_step p3 p2))), .second, .val (.long ((((0 : Int64) + (own_step p2 p3)) + (own_step p3 p2)) + (own_step p2 p2))), .second, .val (.int (p3 ^^^ (p4 &&& (1 : Int32)))), .unset, .unset, .unset, .unset] [(.int (p3 ^^^ (p4 &&& (1 : Int32)))), (.int p3), (.ref b1)])) rfl (by rw [hml]; rfl) (Steps.refl _) (argsL := [(.int p3), (.int (p3 ^^^ (p4 &&& (1 : Int32))))]) (rest := []) (lenOf own_pd2 rfl) rfl (by show 2 * 0 + _ ≤ _; exact Nat.le_of_eq rfl) (hb hby at_77) (fun _ _ => ⟨rfl, eq9, (by decide : 1 + 0 ≤ _), (by decide : 2 + 0 ≤ _)⟩)
  dsimp only [Pt.U, Pt.locs, Pt.cells, Pt.slots] at X10 l10 y10 z10 st10 hQ10
  subst l10 y10 z10
  obtain ⟨rfl, N10q, K10q, E10q, F10_s⟩ := hQ10
  have N10 := Fr.app N9 N10q
  refine own_go (B := T10.setTop (mkF m 80 #[.val (.int p1), .val (.int p2), .val (.int p3), .val (.int p4), .val (.ref b1), .val (.long (0 : Int64)), .second, .val (.long ((0 : Int64) + (own_step p2 p3))), .second, .val (.long (((0 : Int64) + (own_step p2 p3)) + (own_step p3 p2))), .second, .val (.long ((((0 : Int64) + (own_step p2 p3)) + (own_step p3 p2)) + (own_step p2 p2))), .second, .val (.int (p3 ^^^ (p4 &&& (1 : Int32)))), .unset, .unset, .unset, .unset] [])) (fun t k => st10.trans k) ?_
  refine own_go (B := T10.setTop (mkF m 82 #[.val (.int p1), .val (.int p2), .val (.int p3), .val (.int p4), .val (.ref b1), .val (.long (0 : Int64)), .second, .val (.long ((0 : Int64) + (own_step p2 p3))), .second, .val (.long (((0 : Int64) + (own_step p2 p3)) + (own_step p3 p2))), .second, .val (.long ((((0 : Int64) + (own_step p2 p3)) + (own_step p3 p2)) + (own_step p2 p2))), .second, .val (.int (p3 ^^^ (p4 &&& (1 : Int32)))), .unset, .unset, .unset, .unset] [(.ref b1)])) (fun t k => ?_) ?_
  · show Steps p.tables e below (T10.setTop (mkF m 80 #[.val (.int p1), .val (.int p2), .val (.int p3), .val (.int p4), .val (.ref b1), .val (.long (0 : Int64)), .second, .val (.long ((0 : Int64) + (own_step p2 p3))), .second, .val (.long (((0 : Int64) + (own_step p2 p3)) + (own_step p3 p2))), .second, .val (.long ((((0 : Int64) + (own_step p2 p3)) + (own_step p3 p2)) + (own_step p2 p2))), .second, .val (.int (p3 ^^^ (p4 &&& (1 : Int32)))), .unset, .unset, .unset, .unset] [])) _
    refine XS.aload X10.here hx rfl (hb hby at_80) rfl rfl ?_
    exact k
  obtain ⟨cq11, kq11, q11a, q11b, q11c⟩ := isOf hZ rfl E10q
  obtain ⟨_, _, ⟨T11, L11, k11, n11⟩, -, X11, ⟨Lc11, hQ11, l11, y11, z11⟩, st11⟩ := X10.virtualBack hx (y := (⟨"com/example/inkremental/inkremental/engine/Partitions", "shipped", "()J"⟩ : MethodName)) (z := (⟨"com/example/inkremental/inkremental/engine/Partitions", "shipped", "()J"⟩ : MethodName)) hown (mvT hZ (hw _ (List.mem_of_getElem? (i := 11) rfl))) (mvT hZ (hw _ (List.mem_of_getElem? (i := 12) rfl))) (notFace_of_selects (args := #[]) (mvT hZ (hw _ (List.mem_of_getElem? (i := 14) rfl)))) (mvT hZ (hw _ (List.mem_of_getElem? (i := 14) rfl))) (mvT hZ (hw _ (List.mem_of_getElem? (i := 13) rfl))) (by decide) (backOf (W := 0) (rm3 l Z a0 hw [] b1 (((((0 : Int64) + (own_step p2 p3)) + (own_step p3 p2)) + (own_step p2 p2)) + (own_step p3 (p3 ^^^ (p4 &&& (1 : Int32))))) T10.heap n0 (Nat.le_trans (Nat.le_trans (Nat.le_trans (Nat.le_trans (Nat.le_trans (Nat.le_trans Z0 E1.1) K2q.1) K4q.1) K6q.1) K8q.1) K10q.1) F10_s) hZ (hw _ (List.mem_of_getElem? (i := 15) rfl)) (hw _ (List.mem_of_getElem? (i := 2) rfl)) (by decide) (by decide)) q11a q11c (g := (mkF m 82 #[.val (.int p1), .val (.int p2), .val (.int p3), .val (.int p4), .val (.ref b1), .val (.long (0 : Int64)), .second, .val (.long ((0 : Int64) + (own_step p2 p3))), .second, .val (.long (((0 : Int64) + (own_step p2 p3)) + (own_step p3 p2))), .second, .val (.long ((((0 : Int64) + (own_step p2 p3)) + (own_step p3 p2)) + (own_step p2 p2))), .second, .val (.int (p3 ^^^ (p4 &&& (1 : Int32)))), .unset, .unset, .unset, .unset] [(.ref b1)])) rfl (by rw [hml]; rfl) (Steps.refl _) (argsL := []) (rest := []) (lenOf own_pd1 rfl) rfl (by show 2 * 0 + _ ≤ _; exact Nat.le_of_eq rfl) (hb hby at_82) (fun _ _ => ⟨rfl, rfl, (by decide : 1 + 0 ≤ _), (by decide : 2 + 0 ≤ _)⟩)
  dsimp only [Pt.U, Pt.locs, Pt.cells, Pt.slots] at X11 l11 y11 z11 st11 hQ11
  subst l11 y11 z11
  obtain ⟨rfl, N11q, eq11⟩ := hQ11
  have N11 := Fr.app N10 N11q
  refine own_go (B := T11.setTop (mkF m 85 #[.val (.int p1), .val (.int p2), .val (.int p3), .val (.int p4), .val (.ref b1), .val (.long (0 : Int64)), .second, .val (.long ((0 : Int64) + (own_step p2 p3))), .second, .val (.long (((0 : Int64) + (own_step p2 p3)) + (own_step p3 p2))), .second, .val (.long ((((0 : Int64) + (own_step p2 p3)) + (own_step p3 p2)) + (own_step p2 p2))), .second, .val (.int (p3 ^^^ (p4 &&& (1 : Int32)))), .unset, .unset, .unset, .unset] [(.long (((((0 : Int64) + (own_step p2 p3)) + (own_step p3 p2)) + (own_step p2 p2)) + (own_step p3 (p3 ^^^ (p4 &&& (1 : Int32))))))])) (fun t k => st11.trans k) ?_
  refine own_go (B := T11.setTop (mkF m 91 #[.val (.int p1), .val (.int p2), .val (.int p3), .val (.int p4), .val (.ref b1), .val (.long (0 : Int64)), .second, .val (.long ((0 : Int64) + (own_step p2 p3))), .second, .val (.long (((0 : Int64) + (own_step p2 p3)) + (own_step p3 p2))), .second, .val (.long ((((0 : Int64) + (own_step p2 p3)) + (own_step p3 p2)) + (own_step p2 p2))), .second, .val (.int (p3 ^^^ (p4 &&& (1 : Int32)))), .val (.long (((((0 : Int64) + (own_step p2 p3)) + (own_step p3 p2)) + (own_step p2 p2)) + (own_step p3 (p3 ^^^ (p4 &&& (1 : Int32)))))), .second, .unset, .unset] [(.int p4), (.int p2), (.ref b1)])) (fun t k => ?_) ?_
  · show Steps p.tables e below (T11.setTop (mkF m 85 #[.val (.int p1), .val (.int p2), .val (.int p3), .val (.int p4), .val (.ref b1), .val (.long (0 : Int64)), .second, .val (.long ((0 : Int64) + (own_step p2 p3))), .second, .val (.long (((0 : Int64) + (own_step p2 p3)) + (own_step p3 p2))), .second, .val (.long ((((0 : Int64) + (own_step p2 p3)) + (own_step p3 p2)) + (own_step p2 p2))), .second, .val (.int (p3 ^^^ (p4 &&& (1 : Int32)))), .unset, .unset, .unset, .unset] [(.long (((((0 : Int64) + (own_step p2 p3)) + (own_step p3 p2)) + (own_step p2 p2)) + (own_step p3 (p3 ^^^ (p4 &&& (1 : Int32))))))])) _
    refine XS.lstore X11.here hx rfl (hb hby at_85) rfl (l' := #[.val (.int p1), .val (.int p2), .val (.int p3), .val (.int p4), .val (.ref b1), .val (.long (0 : Int64)), .second, .val (.long ((0 : Int64) + (own_step p2 p3))), .second, .val (.long (((0 : Int64) + (own_step p2 p3)) + (own_step p3 p2))), .second, .val (.long ((((0 : Int64) + (own_step p2 p3)) + (own_step p3 p2)) + (own_step p2 p2))), .second, .val (.int (p3 ^^^ (p4 &&& (1 : Int32)))), .val (.long (((((0 : Int64) + (own_step p2 p3)) + (own_step p3 p2)) + (own_step p2 p2)) + (own_step p3 (p3 ^^^ (p4 &&& (1 : Int32)))))), .second, .unset, .unset]) rfl ?_
    show Steps p.tables e below (T11.setTop (mkF m 87 #[.val (.int p1), .val (.int p2), .val (.int p3), .val (.int p4), .val (.ref b1), .val (.long (0 : Int64)), .second, .val (.long ((0 : Int64) + (own_step p2 p3))), .second, .val (.long (((0 : Int64) + (own_step p2 p3)) + (own_step p3 p2))), .second, .val (.long ((((0 : Int64) + (own_step p2 p3)) + (own_step p3 p2)) + (own_step p2 p2))), .second, .val (.int (p3 ^^^ (p4 &&& (1 : Int32)))), .val (.long (((((0 : Int64) + (own_step p2 p3)) + (own_step p3 p2)) + (own_step p2 p2)) + (own_step p3 (p3 ^^^ (p4 &&& (1 : Int32)))))), .second, .unset, .unset] [])) _
    refine XS.aload X11.here hx rfl (hb hby at_87) rfl rfl ?_
    show Steps p.tables e below (T11.setTop (mkF m 89 #[.val (.int p1), .val (.int p2), .val (.int p3), .val (.int p4), .val (.ref b1), .val (.long (0 : Int64)), .second, .val (.long ((0 : Int64) + (own_step p2 p3))), .second, .val (.long (((0 : Int64) + (own_step p2 p3)) + (own_step p3 p2))), .second, .val (.long ((((0 : Int64) + (own_step p2 p3)) + (own_step p3 p2)) + (own_step p2 p2))), .second, .val (.int (p3 ^^^ (p4 &&& (1 : Int32)))), .val (.long (((((0 : Int64) + (own_step p2 p3)) + (own_step p3 p2)) + (own_step p2 p2)) + (own_step p3 (p3 ^^^ (p4 &&& (1 : Int32)))))), .second, .unset, .unset] [(.ref b1)])) _
    refine XS.iloadN X11.here hx rfl (hb hby at_89) rfl ?_
    show Steps p.tables e below (T11.setTop (mkF m 90 #[.val (.int p1), .val (.int p2), .val (.int p3), .val (.int p4), .val (.ref b1), .val (.long (0 : Int64)), .second, .val (.long ((0 : Int64) + (own_step p2 p3))), .second, .val (.long (((0 : Int64) + (own_step p2 p3)) + (own_step p3 p2))), .second, .val (.long ((((0 : Int64) + (own_step p2 p3)) + (own_step p3 p2)) + (own_step p2 p2))), .second, .val (.int (p3 ^^^ (p4 &&& (1 : Int32)))), .val (.long (((((0 : Int64) + (own_step p2 p3)) + (own_step p3 p2)) + (own_step p2 p2)) + (own_step p3 (p3 ^^^ (p4 &&& (1 : Int32)))))), .second, .unset, .unset] [(.int p2), (.ref b1)])) _
    refine XS.iloadN X11.here hx rfl (hb hby at_90) rfl ?_
    exact k
  obtain ⟨cq12, kq12, q12a, q12b, q12c⟩ := isOf hZ eq11 E10q
  obtain ⟨_, _, ⟨T12, L12, k12, n12⟩, -, X12, ⟨Lc12, hQ12, l12, y12, z12⟩, st12⟩ := X11.virtualBack hx (y := (⟨"com/example/inkremental/inkremental/engine/Partitions", "send", "(II)V"⟩ : MethodName)) (z := (⟨"com/example/inkremental/inkremental/engine/Partitions", "send", "(II)V"⟩ : MethodName)) hown (mvT hZ (hw _ (List.mem_of_getElem? (i := 18) rfl))) (mvT hZ (hw _ (List.mem_of_getElem? (i := 19) rfl))) (notFace_of_selects (args := #[]) (mvT hZ (hw _ (List.mem_of_getElem? (i := 21) rfl)))) (mvT hZ (hw _ (List.mem_of_getElem? (i := 21) rfl))) (mvT hZ (hw _ (List.mem_of_getElem? (i := 20) rfl))) (by decide) (backOf (W := 0) (rm4 l Z a0 hw [] b1 p2 p4 (((((0 : Int64) + (own_step p2 p3)) + (own_step p3 p2)) + (own_step p2 p2)) + (own_step p3 (p3 ^^^ (p4 &&& (1 : Int32))))) T10.heap n0 (Nat.le_trans (Nat.le_trans (Nat.le_trans (Nat.le_trans (Nat.le_trans (Nat.le_trans Z0 E1.1) K2q.1) K4q.1) K6q.1) K8q.1) K10q.1) E10q g_b1 F10_s) hZ (hw _ (List.mem_of_getElem? (i := 22) rfl)) (hw _ (List.mem_of_getElem? (i := 2) rfl)) (by decide) (by decide)) q12a q12c (g := (mkF m 91 #[.val (.int p1), .val (.int p2), .val (.int p3), .val (.int p4), .val (.ref b1), .val (.long (0 : Int64)), .second, .val (.long ((0 : Int64) + (own_step p2 p3))), .second, .val (.long (((0 : Int64) + (own_step p2 p3)) + (own_step p3 p2))), .second, .val (.long ((((0 : Int64) + (own_step p2 p3)) + (own_step p3 p2)) + (own_step p2 p2))), .second, .val (.int (p3 ^^^ (p4 &&& (1 : Int32)))), .val (.long (((((0 : Int64) + (own_step p2 p3)) + (own_step p3 p2)) + (own_step p2 p2)) + (own_step p3 (p3 ^^^ (p4 &&& (1 : Int32)))))), .second, .unset, .unset] [(.int p4), (.int p2), (.ref b1)])) rfl (by rw [hml]; rfl) (Steps.refl _) (argsL := [(.int p2), (.int p4)]) (rest := []) (lenOf own_pd2 rfl) rfl (by show 2 * 0 + _ ≤ _; exact Nat.le_of_eq rfl) (hb hby at_91) (fun _ _ => ⟨rfl, eq11, (by decide : 1 + 0 ≤ _), (by decide : 2 + 0 ≤ _)⟩)
  dsimp only [Pt.U, Pt.locs, Pt.cells, Pt.slots] at X12 l12 y12 z12 st12 hQ12
  subst l12 y12 z12
  obtain ⟨rfl, N12q, K12q, E12q, F12_s⟩ := hQ12
  have N12 := Fr.app N11 N12q
  refine own_go (B := T12.setTop (mkF m 94 #[.val (.int p1), .val (.int p2), .val (.int p3), .val (.int p4), .val (.ref b1), .val (.long (0 : Int64)), .second, .val (.long ((0 : Int64) + (own_step p2 p3))), .second, .val (.long (((0 : Int64) + (own_step p2 p3)) + (own_step p3 p2))), .second, .val (.long ((((0 : Int64) + (own_step p2 p3)) + (own_step p3 p2)) + (own_step p2 p2))), .second, .val (.int (p3 ^^^ (p4 &&& (1 : Int32)))), .val (.long (((((0 : Int64) + (own_step p2 p3)) + (own_step p3 p2)) + (own_step p2 p2)) + (own_step p3 (p3 ^^^ (p4 &&& (1 : Int32)))))), .second, .unset, .unset] [])) (fun t k => st12.trans k) ?_
  refine own_go (B := T12.setTop (mkF m 96 #[.val (.int p1), .val (.int p2), .val (.int p3), .val (.int p4), .val (.ref b1), .val (.long (0 : Int64)), .second, .val (.long ((0 : Int64) + (own_step p2 p3))), .second, .val (.long (((0 : Int64) + (own_step p2 p3)) + (own_step p3 p2))), .second, .val (.long ((((0 : Int64) + (own_step p2 p3)) + (own_step p3 p2)) + (own_step p2 p2))), .second, .val (.int (p3 ^^^ (p4 &&& (1 : Int32)))), .val (.long (((((0 : Int64) + (own_step p2 p3)) + (own_step p3 p2)) + (own_step p2 p2)) + (own_step p3 (p3 ^^^ (p4 &&& (1 : Int32)))))), .second, .unset, .unset] [(.ref b1)])) (fun t k => ?_) ?_
  · show Steps p.tables e below (T12.setTop (mkF m 94 #[.val (.int p1), .val (.int p2), .val (.int p3), .val (.int p4), .val (.ref b1), .val (.long (0 : Int64)), .second, .val (.long ((0 : Int64) + (own_step p2 p3))), .second, .val (.long (((0 : Int64) + (own_step p2 p3)) + (own_step p3 p2))), .second, .val (.long ((((0 : Int64) + (own_step p2 p3)) + (own_step p3 p2)) + (own_step p2 p2))), .second, .val (.int (p3 ^^^ (p4 &&& (1 : Int32)))), .val (.long (((((0 : Int64) + (own_step p2 p3)) + (own_step p3 p2)) + (own_step p2 p2)) + (own_step p3 (p3 ^^^ (p4 &&& (1 : Int32)))))), .second, .unset, .unset] [])) _
    refine XS.aload X12.here hx rfl (hb hby at_94) rfl rfl ?_
    exact k
  obtain ⟨cq13, kq13, q13a, q13b, q13c⟩ := isOf hZ rfl E12q
  obtain ⟨_, _, ⟨T13, L13, k13, n13⟩, -, X13, ⟨Lc13, hQ13, l13, y13, z13⟩, st13⟩ := X12.virtualBack hx (y := (⟨"com/example/inkremental/inkremental/engine/Partitions", "shipped", "()J"⟩ : MethodName)) (z := (⟨"com/example/inkremental/inkremental/engine/Partitions", "shipped", "()J"⟩ : MethodName)) hown (mvT hZ (hw _ (List.mem_of_getElem? (i := 11) rfl))) (mvT hZ (hw _ (List.mem_of_getElem? (i := 12) rfl))) (notFace_of_selects (args := #[]) (mvT hZ (hw _ (List.mem_of_getElem? (i := 14) rfl)))) (mvT hZ (hw _ (List.mem_of_getElem? (i := 14) rfl))) (mvT hZ (hw _ (List.mem_of_getElem? (i := 13) rfl))) (by decide) (backOf (W := 0) (rm3 l Z a0 hw [] b1 ((((((0 : Int64) + (own_step p2 p3)) + (own_step p3 p2)) + (own_step p2 p2)) + (own_step p3 (p3 ^^^ (p4 &&& (1 : Int32))))) + (own_step p2 p4)) T12.heap n0 (Nat.le_trans (Nat.le_trans (Nat.le_trans (Nat.le_trans (Nat.le_trans (Nat.le_trans (Nat.le_trans Z0 E1.1) K2q.1) K4q.1) K6q.1) K8q.1) K10q.1) K12q.1) F12_s) hZ (hw _ (List.mem_of_getElem? (i := 15) rfl)) (hw _ (List.mem_of_getElem? (i := 2) rfl)) (by decide) (by decide)) q13a q13c (g := (mkF m 96 #[.val (.int p1), .val (.int p2), .val (.int p3), .val (.int p4), .val (.ref b1), .val (.long (0 : Int64)), .second, .val (.long ((0 : Int64) + (own_step p2 p3))), .second, .val (.long (((0 : Int64) + (own_step p2 p3)) + (own_step p3 p2))), .second, .val (.long ((((0 : Int64) + (own_step p2 p3)) + (own_step p3 p2)) + (own_step p2 p2))), .second, .val (.int (p3 ^^^ (p4 &&& (1 : Int32)))), .val (.long (((((0 : Int64) + (own_step p2 p3)) + (own_step p3 p2)) + (own_step p2 p2)) + (own_step p3 (p3 ^^^ (p4 &&& (1 : Int32)))))), .second, .unset, .unset] [(.ref b1)])) rfl (by rw [hml]; rfl) (Steps.refl _) (argsL := []) (rest := []) (lenOf own_pd1 rfl) rfl (by show 2 * 0 + _ ≤ _; exact Nat.le_of_eq rfl) (hb hby at_96) (fun _ _ => ⟨rfl, rfl, (by decide : 1 + 0 ≤ _), (by decide : 2 + 0 ≤ _)⟩)
  dsimp only [Pt.U, Pt.locs, Pt.cells, Pt.slots] at X13 l13 y13 z13 st13 hQ13
  subst l13 y13 z13
  obtain ⟨rfl, N13q, eq13⟩ := hQ13
  have N13 := Fr.app N12 N13q
  refine own_go (B := T13.setTop (mkF m 99 #[.val (.int p1), .val (.int p2), .val (.int p3), .val (.int p4), .val (.ref b1), .val (.long (0 : Int64)), .second, .val (.long ((0 : Int64) + (own_step p2 p3))), .second, .val (.long (((0 : Int64) + (own_step p2 p3)) + (own_step p3 p2))), .second, .val (.long ((((0 : Int64) + (own_step p2 p3)) + (own_step p3 p2)) + (own_step p2 p2))), .second, .val (.int (p3 ^^^ (p4 &&& (1 : Int32)))), .val (.long (((((0 : Int64) + (own_step p2 p3)) + (own_step p3 p2)) + (own_step p2 p2)) + (own_step p3 (p3 ^^^ (p4 &&& (1 : Int32)))))), .second, .unset, .unset] [(.long ((((((0 : Int64) + (own_step p2 p3)) + (own_step p3 p2)) + (own_step p2 p2)) + (own_step p3 (p3 ^^^ (p4 &&& (1 : Int32))))) + (own_step p2 p4)))])) (fun t k => st13.trans k) ?_
  refine own_go (B := T13.setTop (mkF m 114 #[.val (.int p1), .val (.int p2), .val (.int p3), .val (.int p4), .val (.ref b1), .val (.long (0 : Int64)), .second, .val (.long ((0 : Int64) + (own_step p2 p3))), .second, .val (.long (((0 : Int64) + (own_step p2 p3)) + (own_step p3 p2))), .second, .val (.long ((((0 : Int64) + (own_step p2 p3)) + (own_step p3 p2)) + (own_step p2 p2))), .second, .val (.int (p3 ^^^ (p4 &&& (1 : Int32)))), .val (.long (((((0 : Int64) + (own_step p2 p3)) + (own_step p3 p2)) + (own_step p2 p2)) + (own_step p3 (p3 ^^^ (p4 &&& (1 : Int32)))))), .second, .val (.long ((((((0 : Int64) + (own_step p2 p3)) + (own_step p3 p2)) + (own_step p2 p2)) + (own_step p3 (p3 ^^^ (p4 &&& (1 : Int32))))) + (own_step p2 p4))), .second] [(.int p3), (.int p2), (.long (0 : Int64)), (.long ((0 : Int64) + (own_step p2 p3)))])) (fun t k => ?_) ?_
  · show Steps p.tables e below (T13.setTop (mkF m 99 #[.val (.int p1), .val (.int p2), .val (.int p3), .val (.int p4), .val (.ref b1), .val (.long (0 : Int64)), .second, .val (.long ((0 : Int64) + (own_step p2 p3))), .second, .val (.long (((0 : Int64) + (own_step p2 p3)) + (own_step p3 p2))), .second, .val (.long ((((0 : Int64) + (own_step p2 p3)) + (own_step p3 p2)) + (own_step p2 p2))), .second, .val (.int (p3 ^^^ (p4 &&& (1 : Int32)))), .val (.long (((((0 : Int64) + (own_step p2 p3)) + (own_step p3 p2)) + (own_step p2 p2)) + (own_step p3 (p3 ^^^ (p4 &&& (1 : Int32)))))), .second, .unset, .unset] [(.long ((((((0 : Int64) + (own_step p2 p3)) + (own_step p3 p2)) + (own_step p2 p2)) + (own_step p3 (p3 ^^^ (p4 &&& (1 : Int32))))) + (own_step p2 p4)))])) _
    refine XS.lstore X13.here hx rfl (hb hby at_99) rfl (l' := #[.val (.int p1), .val (.int p2), .val (.int p3), .val (.int p4), .val (.ref b1), .val (.long (0 : Int64)), .second, .val (.long ((0 : Int64) + (own_step p2 p3))), .second, .val (.long (((0 : Int64) + (own_step p2 p3)) + (own_step p3 p2))), .second, .val (.long ((((0 : Int64) + (own_step p2 p3)) + (own_step p3 p2)) + (own_step p2 p2))), .second, .val (.int (p3 ^^^ (p4 &&& (1 : Int32)))), .val (.long (((((0 : Int64) + (own_step p2 p3)) + (own_step p3 p2)) + (own_step p2 p2)) + (own_step p3 (p3 ^^^ (p4 &&& (1 : Int32)))))), .second, .val (.long ((((((0 : Int64) + (own_step p2 p3)) + (own_step p3 p2)) + (own_step p2 p2)) + (own_step p3 (p3 ^^^ (p4 &&& (1 : Int32))))) + (own_step p2 p4))), .second]) rfl ?_
    show Steps p.tables e below (T13.setTop (mkF m 101 #[.val (.int p1), .val (.int p2), .val (.int p3), .val (.int p4), .val (.ref b1), .val (.long (0 : Int64)), .second, .val (.long ((0 : Int64) + (own_step p2 p3))), .second, .val (.long (((0 : Int64) + (own_step p2 p3)) + (own_step p3 p2))), .second, .val (.long ((((0 : Int64) + (own_step p2 p3)) + (own_step p3 p2)) + (own_step p2 p2))), .second, .val (.int (p3 ^^^ (p4 &&& (1 : Int32)))), .val (.long (((((0 : Int64) + (own_step p2 p3)) + (own_step p3 p2)) + (own_step p2 p2)) + (own_step p3 (p3 ^^^ (p4 &&& (1 : Int32)))))), .second, .val (.long ((((((0 : Int64) + (own_step p2 p3)) + (own_step p3 p2)) + (own_step p2 p2)) + (own_step p3 (p3 ^^^ (p4 &&& (1 : Int32))))) + (own_step p2 p4))), .second] [])) _
    refine XS.lload X13.here hx rfl (hb hby at_101) rfl ?_
    show Steps p.tables e below (T13.setTop (mkF m 103 #[.val (.int p1), .val (.int p2), .val (.int p3), .val (.int p4), .val (.ref b1), .val (.long (0 : Int64)), .second, .val (.long ((0 : Int64) + (own_step p2 p3))), .second, .val (.long (((0 : Int64) + (own_step p2 p3)) + (own_step p3 p2))), .second, .val (.long ((((0 : Int64) + (own_step p2 p3)) + (own_step p3 p2)) + (own_step p2 p2))), .second, .val (.int (p3 ^^^ (p4 &&& (1 : Int32)))), .val (.long (((((0 : Int64) + (own_step p2 p3)) + (own_step p3 p2)) + (own_step p2 p2)) + (own_step p3 (p3 ^^^ (p4 &&& (1 : Int32)))))), .second, .val (.long ((((((0 : Int64) + (own_step p2 p3)) + (own_step p3 p2)) + (own_step p2 p2)) + (own_step p3 (p3 ^^^ (p4 &&& (1 : Int32))))) + (own_step p2 p4))), .second] [(.long (0 : Int64))])) _
    refine XS.lconst X13.here hx rfl (hb hby at_103) ?_
    show Steps p.tables e below (T13.setTop (mkF m 104 #[.val (.int p1), .val (.int p2), .val (.int p3), .val (.int p4), .val (.ref b1), .val (.long (0 : Int64)), .second, .val (.long ((0 : Int64) + (own_step p2 p3))), .second, .val (.long (((0 : Int64) + (own_step p2 p3)) + (own_step p3 p2))), .second, .val (.long ((((0 : Int64) + (own_step p2 p3)) + (own_step p3 p2)) + (own_step p2 p2))), .second, .val (.int (p3 ^^^ (p4 &&& (1 : Int32)))), .val (.long (((((0 : Int64) + (own_step p2 p3)) + (own_step p3 p2)) + (own_step p2 p2)) + (own_step p3 (p3 ^^^ (p4 &&& (1 : Int32)))))), .second, .val (.long ((((((0 : Int64) + (own_step p2 p3)) + (own_step p3 p2)) + (own_step p2 p2)) + (own_step p3 (p3 ^^^ (p4 &&& (1 : Int32))))) + (own_step p2 p4))), .second] [(.long (0 : Int64)), (.long (0 : Int64))])) _
    refine XS.lcmp X13.here hx rfl (hb hby at_104) rfl ?_
    show Steps p.tables e below (T13.setTop (mkF m 105 #[.val (.int p1), .val (.int p2), .val (.int p3), .val (.int p4), .val (.ref b1), .val (.long (0 : Int64)), .second, .val (.long ((0 : Int64) + (own_step p2 p3))), .second, .val (.long (((0 : Int64) + (own_step p2 p3)) + (own_step p3 p2))), .second, .val (.long ((((0 : Int64) + (own_step p2 p3)) + (own_step p3 p2)) + (own_step p2 p2))), .second, .val (.int (p3 ^^^ (p4 &&& (1 : Int32)))), .val (.long (((((0 : Int64) + (own_step p2 p3)) + (own_step p3 p2)) + (own_step p2 p2)) + (own_step p3 (p3 ^^^ (p4 &&& (1 : Int32)))))), .second, .val (.long ((((((0 : Int64) + (own_step p2 p3)) + (own_step p3 p2)) + (own_step p2 p2)) + (own_step p3 (p3 ^^^ (p4 &&& (1 : Int32))))) + (own_step p2 p4))), .second] [(.int (lcmpW (0 : Int64) (0 : Int64)))])) _
    refine XS.ifNo X13.here hx rfl (hb hby at_105) rfl ((if0 _ _).trans (teq ((lw_eq _ _).mpr (by decide))).2) ?_
    show Steps p.tables e below (T13.setTop (mkF m 108 #[.val (.int p1), .val (.int p2), .val (.int p3), .val (.int p4), .val (.ref b1), .val (.long (0 : Int64)), .second, .val (.long ((0 : Int64) + (own_step p2 p3))), .second, .val (.long (((0 : Int64) + (own_step p2 p3)) + (own_step p3 p2))), .second, .val (.long ((((0 : Int64) + (own_step p2 p3)) + (own_step p3 p2)) + (own_step p2 p2))), .second, .val (.int (p3 ^^^ (p4 &&& (1 : Int32)))), .val (.long (((((0 : Int64) + (own_step p2 p3)) + (own_step p3 p2)) + (own_step p2 p2)) + (own_step p3 (p3 ^^^ (p4 &&& (1 : Int32)))))), .second, .val (.long ((((((0 : Int64) + (own_step p2 p3)) + (own_step p3 p2)) + (own_step p2 p2)) + (own_step p3 (p3 ^^^ (p4 &&& (1 : Int32))))) + (own_step p2 p4))), .second] [])) _
    refine XS.lload X13.here hx rfl (hb hby at_108) rfl ?_
    show Steps p.tables e below (T13.setTop (mkF m 110 #[.val (.int p1), .val (.int p2), .val (.int p3), .val (.int p4), .val (.ref b1), .val (.long (0 : Int64)), .second, .val (.long ((0 : Int64) + (own_step p2 p3))), .second, .val (.long (((0 : Int64) + (own_step p2 p3)) + (own_step p3 p2))), .second, .val (.long ((((0 : Int64) + (own_step p2 p3)) + (own_step p3 p2)) + (own_step p2 p2))), .second, .val (.int (p3 ^^^ (p4 &&& (1 : Int32)))), .val (.long (((((0 : Int64) + (own_step p2 p3)) + (own_step p3 p2)) + (own_step p2 p2)) + (own_step p3 (p3 ^^^ (p4 &&& (1 : Int32)))))), .second, .val (.long ((((((0 : Int64) + (own_step p2 p3)) + (own_step p3 p2)) + (own_step p2 p2)) + (own_step p3 (p3 ^^^ (p4 &&& (1 : Int32))))) + (own_step p2 p4))), .second] [(.long ((0 : Int64) + (own_step p2 p3)))])) _
    refine XS.lload X13.here hx rfl (hb hby at_110) rfl ?_
    show Steps p.tables e below (T13.setTop (mkF m 112 #[.val (.int p1), .val (.int p2), .val (.int p3), .val (.int p4), .val (.ref b1), .val (.long (0 : Int64)), .second, .val (.long ((0 : Int64) + (own_step p2 p3))), .second, .val (.long (((0 : Int64) + (own_step p2 p3)) + (own_step p3 p2))), .second, .val (.long ((((0 : Int64) + (own_step p2 p3)) + (own_step p3 p2)) + (own_step p2 p2))), .second, .val (.int (p3 ^^^ (p4 &&& (1 : Int32)))), .val (.long (((((0 : Int64) + (own_step p2 p3)) + (own_step p3 p2)) + (own_step p2 p2)) + (own_step p3 (p3 ^^^ (p4 &&& (1 : Int32)))))), .second, .val (.long ((((((0 : Int64) + (own_step p2 p3)) + (own_step p3 p2)) + (own_step p2 p2)) + (own_step p3 (p3 ^^^ (p4 &&& (1 : Int32))))) + (own_step p2 p4))), .second] [(.long (0 : Int64)), (.long ((0 : Int64) + (own_step p2 p3)))])) _
    refine XS.iloadN X13.here hx rfl (hb hby at_112) rfl ?_
    show Steps p.tables e below (T13.setTop (mkF m 113 #[.val (.int p1), .val (.int p2), .val (.int p3), .val (.int p4), .val (.ref b1), .val (.long (0 : Int64)), .second, .val (.long ((0 : Int64) + (own_step p2 p3))), .second, .val (.long (((0 : Int64) + (own_step p2 p3)) + (own_step p3 p2))), .second, .val (.long ((((0 : Int64) + (own_step p2 p3)) + (own_step p3 p2)) + (own_step p2 p2))), .second, .val (.int (p3 ^^^ (p4 &&& (1 : Int32)))), .val (.long (((((0 : Int64) + (own_step p2 p3)) + (own_step p3 p2)) + (own_step p2 p2)) + (own_step p3 (p3 ^^^ (p4 &&& (1 : Int32)))))), .second, .val (.long ((((((0 : Int64) + (own_step p2 p3)) + (own_step p3 p2)) + (own_step p2 p2)) + (own_step p3 (p3 ^^^ (p4 &&& (1 : Int32))))) + (own_step p2 p4))), .second] [(.int p2), (.long (0 : Int64)), (.long ((0 : Int64) + (own_step p2 p3)))])) _
    refine XS.iloadN X13.here hx rfl (hb hby at_113) rfl ?_
    exact k
  obtain ⟨_, _, ⟨T14, L14, k14, n14⟩, -, X14, ⟨Lc14, hQ14, l14, y14, z14⟩, st14⟩ := Jvm.LawKit.callS X13 hx (y := (⟨"com/example/inkremental/inkremental/engine/PartitionsSendPinLaw", "step", "(II)J"⟩ : MethodName)) hown (mvT hZ (hw _ (List.mem_of_getElem? (i := 23) rfl))) (mvT hZ (hw _ (List.mem_of_getElem? (i := 24) rfl))) (mvT hZ (hw _ (List.mem_of_getElem? (i := 25) rfl))) (mvT hZ (hw _ (List.mem_of_getElem? (i := 26) rfl))) (by decide) (backOf (W := 4) (rm5 l Z a0 hw [] p2 p3 T12.heap n0 (Nat.le_trans (Nat.le_trans (Nat.le_trans (Nat.le_trans (Nat.le_trans (Nat.le_trans (Nat.le_trans Z0 E1.1) K2q.1) K4q.1) K6q.1) K8q.1) K10q.1) K12q.1)) hZ (hw _ (List.mem_of_getElem? (i := 26) rfl)) (hw _ (List.mem_of_getElem? (i := 25) rfl)) (by decide) (by decide)) (g := (mkF m 114 #[.val (.int p1), .val (.int p2), .val (.int p3), .val (.int p4), .val (.ref b1), .val (.long (0 : Int64)), .second, .val (.long ((0 : Int64) + (own_step p2 p3))), .second, .val (.long (((0 : Int64) + (own_step p2 p3)) + (own_step p3 p2))), .second, .val (.long ((((0 : Int64) + (own_step p2 p3)) + (own_step p3 p2)) + (own_step p2 p2))), .second, .val (.int (p3 ^^^ (p4 &&& (1 : Int32)))), .val (.long (((((0 : Int64) + (own_step p2 p3)) + (own_step p3 p2)) + (own_step p2 p2)) + (own_step p3 (p3 ^^^ (p4 &&& (1 : Int32)))))), .second, .val (.long ((((((0 : Int64) + (own_step p2 p3)) + (own_step p3 p2)) + (own_step p2 p2)) + (own_step p3 (p3 ^^^ (p4 &&& (1 : Int32))))) + (own_step p2 p4))), .second] [(.int p3), (.int p2), (.long (0 : Int64)), (.long ((0 : Int64) + (own_step p2 p3)))])) rfl (by rw [hml]; rfl) (argsL := [(.int p2), (.int p3)]) (rest := [(.long (0 : Int64)), (.long ((0 : Int64) + (own_step p2 p3)))]) (lenOf own_pd3 rfl) rfl (by show 2 * 0 + _ ≤ _; exact Nat.le_of_eq rfl) (hb hby at_114) (fun _ _ => ⟨rfl, eq13, (by decide : 1 + 0 ≤ _), (by decide : 2 + 0 ≤ _)⟩)
  dsimp only [Pt.U, Pt.locs, Pt.cells, Pt.slots] at X14 l14 y14 z14 st14 hQ14
  subst l14 y14 z14
  obtain ⟨rfl, N14q, eq14⟩ := hQ14
  have N14 := Fr.app N13 N14q
  refine own_go (B := T14.setTop (mkF m 117 #[.val (.int p1), .val (.int p2), .val (.int p3), .val (.int p4), .val (.ref b1), .val (.long (0 : Int64)), .second, .val (.long ((0 : Int64) + (own_step p2 p3))), .second, .val (.long (((0 : Int64) + (own_step p2 p3)) + (own_step p3 p2))), .second, .val (.long ((((0 : Int64) + (own_step p2 p3)) + (own_step p3 p2)) + (own_step p2 p2))), .second, .val (.int (p3 ^^^ (p4 &&& (1 : Int32)))), .val (.long (((((0 : Int64) + (own_step p2 p3)) + (own_step p3 p2)) + (own_step p2 p2)) + (own_step p3 (p3 ^^^ (p4 &&& (1 : Int32)))))), .second, .val (.long ((((((0 : Int64) + (own_step p2 p3)) + (own_step p3 p2)) + (own_step p2 p2)) + (own_step p3 (p3 ^^^ (p4 &&& (1 : Int32))))) + (own_step p2 p4))), .second] [(.long (own_step p2 p3)), (.long (0 : Int64)), (.long ((0 : Int64) + (own_step p2 p3)))])) (fun t k => st14 _ k) ?_
  refine own_go (B := T14.setTop (mkF m 128 #[.val (.int p1), .val (.int p2), .val (.int p3), .val (.int p4), .val (.ref b1), .val (.long (0 : Int64)), .second, .val (.long ((0 : Int64) + (own_step p2 p3))), .second, .val (.long (((0 : Int64) + (own_step p2 p3)) + (own_step p3 p2))), .second, .val (.long ((((0 : Int64) + (own_step p2 p3)) + (own_step p3 p2)) + (own_step p2 p2))), .second, .val (.int (p3 ^^^ (p4 &&& (1 : Int32)))), .val (.long (((((0 : Int64) + (own_step p2 p3)) + (own_step p3 p2)) + (own_step p2 p2)) + (own_step p3 (p3 ^^^ (p4 &&& (1 : Int32)))))), .second, .val (.long ((((((0 : Int64) + (own_step p2 p3)) + (own_step p3 p2)) + (own_step p2 p2)) + (own_step p3 (p3 ^^^ (p4 &&& (1 : Int32))))) + (own_step p2 p4))), .second] [(.int p2), (.int p3), (.long ((0 : Int64) + (own_step p2 p3))), (.long (((0 : Int64) + (own_step p2 p3)) + (own_step p3 p2)))])) (fun t k => ?_) ?_
  · show Steps p.tables e below (T14.setTop (mkF m 117 #[.val (.int p1), .val (.int p2), .val (.int p3), .val (.int p4), .val (.ref b1), .val (.long (0 : Int64)), .second, .val (.long ((0 : Int64) + (own_step p2 p3))), .second, .val (.long (((0 : Int64) + (own_step p2 p3)) + (own_step p3 p2))), .second, .val (.long ((((0 : Int64) + (own_step p2 p3)) + (own_step p3 p2)) + (own_step p2 p2))), .second, .val (.int (p3 ^^^ (p4 &&& (1 : Int32)))), .val (.long (((((0 : Int64) + (own_step p2 p3)) + (own_step p3 p2)) + (own_step p2 p2)) + (own_step p3 (p3 ^^^ (p4 &&& (1 : Int32)))))), .second, .val (.long ((((((0 : Int64) + (own_step p2 p3)) + (own_step p3 p2)) + (own_step p2 p2)) + (own_step p3 (p3 ^^^ (p4 &&& (1 : Int32))))) + (own_step p2 p4))), .second] [(.long (own_step p2 p3)), (.long (0 : Int64)), (.long ((0 : Int64) + (own_step p2 p3)))])) _
    refine XS.ladd X14.here hx rfl (hb hby at_117) rfl ?_
    show Steps p.tables e below (T14.setTop (mkF m 118 #[.val (.int p1), .val (.int p2), .val (.int p3), .val (.int p4), .val (.ref b1), .val (.long (0 : Int64)), .second, .val (.long ((0 : Int64) + (own_step p2 p3))), .second, .val (.long (((0 : Int64) + (own_step p2 p3)) + (own_step p3 p2))), .second, .val (.long ((((0 : Int64) + (own_step p2 p3)) + (own_step p3 p2)) + (own_step p2 p2))), .second, .val (.int (p3 ^^^ (p4 &&& (1 : Int32)))), .val (.long (((((0 : Int64) + (own_step p2 p3)) + (own_step p3 p2)) + (own_step p2 p2)) + (own_step p3 (p3 ^^^ (p4 &&& (1 : Int32)))))), .second, .val (.long ((((((0 : Int64) + (own_step p2 p3)) + (own_step p3 p2)) + (own_step p2 p2)) + (own_step p3 (p3 ^^^ (p4 &&& (1 : Int32))))) + (own_step p2 p4))), .second] [(.long ((0 : Int64) + (own_step p2 p3))), (.long ((0 : Int64) + (own_step p2 p3)))])) _
    refine XS.lcmp X14.here hx rfl (hb hby at_118) rfl ?_
    show Steps p.tables e below (T14.setTop (mkF m 119 #[.val (.int p1), .val (.int p2), .val (.int p3), .val (.int p4), .val (.ref b1), .val (.long (0 : Int64)), .second, .val (.long ((0 : Int64) + (own_step p2 p3))), .second, .val (.long (((0 : Int64) + (own_step p2 p3)) + (own_step p3 p2))), .second, .val (.long ((((0 : Int64) + (own_step p2 p3)) + (own_step p3 p2)) + (own_step p2 p2))), .second, .val (.int (p3 ^^^ (p4 &&& (1 : Int32)))), .val (.long (((((0 : Int64) + (own_step p2 p3)) + (own_step p3 p2)) + (own_step p2 p2)) + (own_step p3 (p3 ^^^ (p4 &&& (1 : Int32)))))), .second, .val (.long ((((((0 : Int64) + (own_step p2 p3)) + (own_step p3 p2)) + (own_step p2 p2)) + (own_step p3 (p3 ^^^ (p4 &&& (1 : Int32))))) + (own_step p2 p4))), .second] [(.int (lcmpW ((0 : Int64) + (own_step p2 p3)) ((0 : Int64) + (own_step p2 p3))))])) _
    refine XS.ifNo X14.here hx rfl (hb hby at_119) rfl ((if0 _ _).trans (teq ((lw_eq _ _).mpr rfl)).2) ?_
    show Steps p.tables e below (T14.setTop (mkF m 122 #[.val (.int p1), .val (.int p2), .val (.int p3), .val (.int p4), .val (.ref b1), .val (.long (0 : Int64)), .second, .val (.long ((0 : Int64) + (own_step p2 p3))), .second, .val (.long (((0 : Int64) + (own_step p2 p3)) + (own_step p3 p2))), .second, .val (.long ((((0 : Int64) + (own_step p2 p3)) + (own_step p3 p2)) + (own_step p2 p2))), .second, .val (.int (p3 ^^^ (p4 &&& (1 : Int32)))), .val (.long (((((0 : Int64) + (own_step p2 p3)) + (own_step p3 p2)) + (own_step p2 p2)) + (own_step p3 (p3 ^^^ (p4 &&& (1 : Int32)))))), .second, .val (.long ((((((0 : Int64) + (own_step p2 p3)) + (own_step p3 p2)) + (own_step p2 p2)) + (own_step p3 (p3 ^^^ (p4 &&& (1 : Int32))))) + (own_step p2 p4))), .second] [])) _
    refine XS.lload X14.here hx rfl (hb hby at_122) rfl ?_
    show Steps p.tables e below (T14.setTop (mkF m 124 #[.val (.int p1), .val (.int p2), .val (.int p3), .val (.int p4), .val (.ref b1), .val (.long (0 : Int64)), .second, .val (.long ((0 : Int64) + (own_step p2 p3))), .second, .val (.long (((0 : Int64) + (own_step p2 p3)) + (own_step p3 p2))), .second, .val (.long ((((0 : Int64) + (own_step p2 p3)) + (own_step p3 p2)) + (own_step p2 p2))), .second, .val (.int (p3 ^^^ (p4 &&& (1 : Int32)))), .val (.long (((((0 : Int64) + (own_step p2 p3)) + (own_step p3 p2)) + (own_step p2 p2)) + (own_step p3 (p3 ^^^ (p4 &&& (1 : Int32)))))), .second, .val (.long ((((((0 : Int64) + (own_step p2 p3)) + (own_step p3 p2)) + (own_step p2 p2)) + (own_step p3 (p3 ^^^ (p4 &&& (1 : Int32))))) + (own_step p2 p4))), .second] [(.long (((0 : Int64) + (own_step p2 p3)) + (own_step p3 p2)))])) _
    refine XS.lload X14.here hx rfl (hb hby at_124) rfl ?_
    show Steps p.tables e below (T14.setTop (mkF m 126 #[.val (.int p1), .val (.int p2), .val (.int p3), .val (.int p4), .val (.ref b1), .val (.long (0 : Int64)), .second, .val (.long ((0 : Int64) + (own_step p2 p3))), .second, .val (.long (((0 : Int64) + (own_step p2 p3)) + (own_step p3 p2))), .second, .val (.long ((((0 : Int64) + (own_step p2 p3)) + (own_step p3 p2)) + (own_step p2 p2))), .second, .val (.int (p3 ^^^ (p4 &&& (1 : Int32)))), .val (.long (((((0 : Int64) + (own_step p2 p3)) + (own_step p3 p2)) + (own_step p2 p2)) + (own_step p3 (p3 ^^^ (p4 &&& (1 : Int32)))))), .second, .val (.long ((((((0 : Int64) + (own_step p2 p3)) + (own_step p3 p2)) + (own_step p2 p2)) + (own_step p3 (p3 ^^^ (p4 &&& (1 : Int32))))) + (own_step p2 p4))), .second] [(.long ((0 : Int64) + (own_step p2 p3))), (.long (((0 : Int64) + (own_step p2 p3)) + (own_step p3 p2)))])) _
    refine XS.iloadN X14.here hx rfl (hb hby at_126) rfl ?_
    show Steps p.tables e below (T14.setTop (mkF m 127 #[.val (.int p1), .val (.int p2), .val (.int p3), .val (.int p4), .val (.ref b1), .val (.long (0 : Int64)), .second, .val (.long ((0 : Int64) + (own_step p2 p3))), .second, .val (.long (((0 : Int64) + (own_step p2 p3)) + (own_step p3 p2))), .second, .val (.long ((((0 : Int64) + (own_step p2 p3)) + (own_step p3 p2)) + (own_step p2 p2))), .second, .val (.int (p3 ^^^ (p4 &&& (1 : Int32)))), .val (.long (((((0 : Int64) + (own_step p2 p3)) + (own_step p3 p2)) + (own_step p2 p2)) + (own_step p3 (p3 ^^^ (p4 &&& (1 : Int32)))))), .second, .val (.long ((((((0 : Int64) + (own_step p2 p3)) + (own_step p3 p2)) + (own_step p2 p2)) + (own_step p3 (p3 ^^^ (p4 &&& (1 : Int32))))) + (own_step p2 p4))), .second] [(.int p3), (.long ((0 : Int64) + (own_step p2 p3))), (.long (((0 : Int64) + (own_step p2 p3)) + (own_step p3 p2)))])) _
    refine XS.iloadN X14.here hx rfl (hb hby at_127) rfl ?_
    exact k
  obtain ⟨_, _, ⟨T15, L15, k15, n15⟩, -, X15, ⟨Lc15, hQ15, l15, y15, z15⟩, st15⟩ := Jvm.LawKit.callS X14 hx (y := (⟨"com/example/inkremental/inkremental/engine/PartitionsSendPinLaw", "step", "(II)J"⟩ : MethodName)) hown (mvT hZ (hw _ (List.mem_of_getElem? (i := 23) rfl))) (mvT hZ (hw _ (List.mem_of_getElem? (i := 24) rfl))) (mvT hZ (hw _ (List.mem_of_getElem? (i := 25) rfl))) (mvT hZ (hw _ (List.mem_of_getElem? (i := 26) rfl))) (by decide) (backOf (W := 4) (rm5 l Z a0 hw [] p3 p2 T12.heap n0 (Nat.le_trans (Nat.le_trans (Nat.le_trans (Nat.le_trans (Nat.le_trans (Nat.le_trans (Nat.le_trans Z0 E1.1) K2q.1) K4q.1) K6q.1) K8q.1) K10q.1) K12q.1)) hZ (hw _ (List.mem_of_getElem? (i := 26) rfl)) (hw _ (List.mem_of_getElem? (i := 25) rfl)) (by decide) (by decide)) (g := (mkF m 128 #[.val (.int p1), .val (.int p2), .val (.int p3), .val (.int p4), .val (.ref b1), .val (.long (0 : Int64)), .second, .val (.long ((0 : Int64) + (own_step p2 p3))), .second, .val (.long (((0 : Int64) + (own_step p2 p3)) + (own_step p3 p2))), .second, .val (.long ((((0 : Int64) + (own_step p2 p3)) + (own_step p3 p2)) + (own_step p2 p2))), .second, .val (.int (p3 ^^^ (p4 &&& (1 : Int32)))), .val (.long (((((0 : Int64) + (own_step p2 p3)) + (own_step p3 p2)) + (own_step p2 p2)) + (own_step p3 (p3 ^^^ (p4 &&& (1 : Int32)))))), .second, .val (.long ((((((0 : Int64) + (own_step p2 p3)) + (own_step p3 p2)) + (own_step p2 p2)) + (own_step p3 (p3 ^^^ (p4 &&& (1 : Int32))))) + (own_step p2 p4))), .second] [(.int p2), (.int p3), (.long ((0 : Int64) + (own_step p2 p3))), (.long (((0 : Int64) + (own_step p2 p3)) + (own_step p3 p2)))])) rfl (by rw [hml]; rfl) (argsL := [(.int p3), (.int p2)]) (rest := [(.long ((0 : Int64) + (own_step p2 p3))), (.long (((0 : Int64) + (own_step p2 p3)) + (own_step p3 p2)))]) (lenOf own_pd3 rfl) rfl (by show 2 * 0 + _ ≤ _; exact Nat.le_of_eq rfl) (hb hby at_128) (fun _ _ => ⟨rfl, eq14, (by decide : 1 + 0 ≤ _), (by decide : 2 + 0 ≤ _)⟩)
  dsimp only [Pt.U, Pt.locs, Pt.cells, Pt.slots] at X15 l15 y15 z15 st15 hQ15
  subst l15 y15 z15
  obtain ⟨rfl, N15q, eq15⟩ := hQ15
  have N15 := Fr.app N14 N15q
  refine own_go (B := T15.setTop (mkF m 131 #[.val (.int p1), .val (.int p2), .val (.int p3), .val (.int p4), .val (.ref b1), .val (.long (0 : Int64)), .second, .val (.long ((0 : Int64) + (own_step p2 p3))), .second, .val (.long (((0 : Int64) + (own_step p2 p3)) + (own_step p3 p2))), .second, .val (.long ((((0 : Int64) + (own_step p2 p3)) + (own_step p3 p2)) + (own_step p2 p2))), .second, .val (.int (p3 ^^^ (p4 &&& (1 : Int32)))), .val (.long (((((0 : Int64) + (own_step p2 p3)) + (own_step p3 p2)) + (own_step p2 p2)) + (own_step p3 (p3 ^^^ (p4 &&& (1 : Int32)))))), .second, .val (.long ((((((0 : Int64) + (own_step p2 p3)) + (own_step p3 p2)) + (own_step p2 p2)) + (own_step p3 (p3 ^^^ (p4 &&& (1 : Int32))))) + (own_step p2 p4))), .second] [(.long (own_step p3 p2)), (.long ((0 : Int64) + (own_step p2 p3))), (.long (((0 : Int64) + (own_step p2 p3)) + (own_step p3 p2)))])) (fun t k => st15 _ k) ?_
  refine own_go (B := T15.setTop (mkF m 151 #[.val (.int p1), .val (.int p2), .val (.int p3), .val (.int p4), .val (.ref b1), .val (.long (0 : Int64)), .second, .val (.long ((0 : Int64) + (own_step p2 p3))), .second, .val (.long (((0 : Int64) + (own_step p2 p3)) + (own_step p3 p2))), .second, .val (.long ((((0 : Int64) + (own_step p2 p3)) + (own_step p3 p2)) + (own_step p2 p2))), .second, .val (.int (p3 ^^^ (p4 &&& (1 : Int32)))), .val (.long (((((0 : Int64) + (own_step p2 p3)) + (own_step p3 p2)) + (own_step p2 p2)) + (own_step p3 (p3 ^^^ (p4 &&& (1 : Int32)))))), .second, .val (.long ((((((0 : Int64) + (own_step p2 p3)) + (own_step p3 p2)) + (own_step p2 p2)) + (own_step p3 (p3 ^^^ (p4 &&& (1 : Int32))))) + (own_step p2 p4))), .second] [(.int (p3 ^^^ (p4 &&& (1 : Int32)))), (.int p3), (.long ((((0 : Int64) + (own_step p2 p3)) + (own_step p3 p2)) + (own_step p2 p2))), (.long (((((0 : Int64) + (own_step p2 p3)) + (own_step p3 p2)) + (own_step p2 p2)) + (own_step p3 (p3 ^^^ (p4 &&& (1 : Int32))))))])) (fun t k => ?_) ?_
  · show Steps p.tables e below (T15.setTop (mkF m 131 #[.val (.int p1), .val (.int p2), .val (.int p3), .val (.int p4), .val (.ref b1), .val (.long (0 : Int64)), .second, .val (.long ((0 : Int64) + (own_step p2 p3))), .second, .val (.long (((0 : Int64) + (own_step p2 p3)) + (own_step p3 p2))), .second, .val (.long ((((0 : Int64) + (own_step p2 p3)) + (own_step p3 p2)) + (own_step p2 p2))), .second, .val (.int (p3 ^^^ (p4 &&& (1 : Int32)))), .val (.long (((((0 : Int64) + (own_step p2 p3)) + (own_step p3 p2)) + (own_step p2 p2)) + (own_step p3 (p3 ^^^ (p4 &&& (1 : Int32)))))), .second, .val (.long ((((((0 : Int64) + (own_step p2 p3)) + (own_step p3 p2)) + (own_step p2 p2)) + (own_step p3 (p3 ^^^ (p4 &&& (1 : Int32))))) + (own_step p2 p4))), .second] [(.long (own_step p3 p2)), (.long ((0 : Int64) + (own_step p2 p3))), (.long (((0 : Int64) + (own_step p2 p3)) + (own_step p3 p2)))])) _
    refine XS.ladd X15.here hx rfl (hb hby at_131) rfl ?_
    show Steps p.tables e below (T15.setTop (mkF m 132 #[.val (.int p1), .val (.int p2), .val (.int p3), .val (.int p4), .val (.ref b1), .val (.long (0 : Int64)), .second, .val (.long ((0 : Int64) + (own_step p2 p3))), .second, .val (.long (((0 : Int64) + (own_step p2 p3)) + (own_step p3 p2))), .second, .val (.long ((((0 : Int64) + (own_step p2 p3)) + (own_step p3 p2)) + (own_step p2 p2))), .second, .val (.int (p3 ^^^ (p4 &&& (1 : Int32)))), .val (.long (((((0 : Int64) + (own_step p2 p3)) + (own_step p3 p2)) + (own_step p2 p2)) + (own_step p3 (p3 ^^^ (p4 &&& (1 : Int32)))))), .second, .val (.long ((((((0 : Int64) + (own_step p2 p3)) + (own_step p3 p2)) + (own_step p2 p2)) + (own_step p3 (p3 ^^^ (p4 &&& (1 : Int32))))) + (own_step p2 p4))), .second] [(.long (((0 : Int64) + (own_step p2 p3)) + (own_step p3 p2))), (.long (((0 : Int64) + (own_step p2 p3)) + (own_step p3 p2)))])) _
    refine XS.lcmp X15.here hx rfl (hb hby at_132) rfl ?_
    show Steps p.tables e below (T15.setTop (mkF m 133 #[.val (.int p1), .val (.int p2), .val (.int p3), .val (.int p4), .val (.ref b1), .val (.long (0 : Int64)), .second, .val (.long ((0 : Int64) + (own_step p2 p3))), .second, .val (.long (((0 : Int64) + (own_step p2 p3)) + (own_step p3 p2))), .second, .val (.long ((((0 : Int64) + (own_step p2 p3)) + (own_step p3 p2)) + (own_step p2 p2))), .second, .val (.int (p3 ^^^ (p4 &&& (1 : Int32)))), .val (.long (((((0 : Int64) + (own_step p2 p3)) + (own_step p3 p2)) + (own_step p2 p2)) + (own_step p3 (p3 ^^^ (p4 &&& (1 : Int32)))))), .second, .val (.long ((((((0 : Int64) + (own_step p2 p3)) + (own_step p3 p2)) + (own_step p2 p2)) + (own_step p3 (p3 ^^^ (p4 &&& (1 : Int32))))) + (own_step p2 p4))), .second] [(.int (lcmpW (((0 : Int64) + (own_step p2 p3)) + (own_step p3 p2)) (((0 : Int64) + (own_step p2 p3)) + (own_step p3 p2))))])) _
    refine XS.ifNo X15.here hx rfl (hb hby at_133) rfl ((if0 _ _).trans (teq ((lw_eq _ _).mpr rfl)).2) ?_
    show Steps p.tables e below (T15.setTop (mkF m 136 #[.val (.int p1), .val (.int p2), .val (.int p3), .val (.int p4), .val (.ref b1), .val (.long (0 : Int64)), .second, .val (.long ((0 : Int64) + (own_step p2 p3))), .second, .val (.long (((0 : Int64) + (own_step p2 p3)) + (own_step p3 p2))), .second, .val (.long ((((0 : Int64) + (own_step p2 p3)) + (own_step p3 p2)) + (own_step p2 p2))), .second, .val (.int (p3 ^^^ (p4 &&& (1 : Int32)))), .val (.long (((((0 : Int64) + (own_step p2 p3)) + (own_step p3 p2)) + (own_step p2 p2)) + (own_step p3 (p3 ^^^ (p4 &&& (1 : Int32)))))), .second, .val (.long ((((((0 : Int64) + (own_step p2 p3)) + (own_step p3 p2)) + (own_step p2 p2)) + (own_step p3 (p3 ^^^ (p4 &&& (1 : Int32))))) + (own_step p2 p4))), .second] [])) _
    refine XS.lload X15.here hx rfl (hb hby at_136) rfl ?_
    show Steps p.tables e below (T15.setTop (mkF m 138 #[.val (.int p1), .val (.int p2), .val (.int p3), .val (.int p4), .val (.ref b1), .val (.long (0 : Int64)), .second, .val (.long ((0 : Int64) + (own_step p2 p3))), .second, .val (.long (((0 : Int64) + (own_step p2 p3)) + (own_step p3 p2))), .second, .val (.long ((((0 : Int64) + (own_step p2 p3)) + (own_step p3 p2)) + (own_step p2 p2))), .second, .val (.int (p3 ^^^ (p4 &&& (1 : Int32)))), .val (.long (((((0 : Int64) + (own_step p2 p3)) + (own_step p3 p2)) + (own_step p2 p2)) + (own_step p3 (p3 ^^^ (p4 &&& (1 : Int32)))))), .second, .val (.long ((((((0 : Int64) + (own_step p2 p3)) + (own_step p3 p2)) + (own_step p2 p2)) + (own_step p3 (p3 ^^^ (p4 &&& (1 : Int32))))) + (own_step p2 p4))), .second] [(.long ((((0 : Int64) + (own_step p2 p3)) + (own_step p3 p2)) + (own_step p2 p2)))])) _
    refine XS.lload X15.here hx rfl (hb hby at_138) rfl ?_
    show Steps p.tables e below (T15.setTop (mkF m 140 #[.val (.int p1), .val (.int p2), .val (.int p3), .val (.int p4), .val (.ref b1), .val (.long (0 : Int64)), .second, .val (.long ((0 : Int64) + (own_step p2 p3))), .second, .val (.long (((0 : Int64) + (own_step p2 p3)) + (own_step p3 p2))), .second, .val (.long ((((0 : Int64) + (own_step p2 p3)) + (own_step p3 p2)) + (own_step p2 p2))), .second, .val (.int (p3 ^^^ (p4 &&& (1 : Int32)))), .val (.long (((((0 : Int64) + (own_step p2 p3)) + (own_step p3 p2)) + (own_step p2 p2)) + (own_step p3 (p3 ^^^ (p4 &&& (1 : Int32)))))), .second, .val (.long ((((((0 : Int64) + (own_step p2 p3)) + (own_step p3 p2)) + (own_step p2 p2)) + (own_step p3 (p3 ^^^ (p4 &&& (1 : Int32))))) + (own_step p2 p4))), .second] [(.long (((0 : Int64) + (own_step p2 p3)) + (own_step p3 p2))), (.long ((((0 : Int64) + (own_step p2 p3)) + (own_step p3 p2)) + (own_step p2 p2)))])) _
    refine XS.lcmp X15.here hx rfl (hb hby at_140) rfl ?_
    show Steps p.tables e below (T15.setTop (mkF m 141 #[.val (.int p1), .val (.int p2), .val (.int p3), .val (.int p4), .val (.ref b1), .val (.long (0 : Int64)), .second, .val (.long ((0 : Int64) + (own_step p2 p3))), .second, .val (.long (((0 : Int64) + (own_step p2 p3)) + (own_step p3 p2))), .second, .val (.long ((((0 : Int64) + (own_step p2 p3)) + (own_step p3 p2)) + (own_step p2 p2))), .second, .val (.int (p3 ^^^ (p4 &&& (1 : Int32)))), .val (.long (((((0 : Int64) + (own_step p2 p3)) + (own_step p3 p2)) + (own_step p2 p2)) + (own_step p3 (p3 ^^^ (p4 &&& (1 : Int32)))))), .second, .val (.long ((((((0 : Int64) + (own_step p2 p3)) + (own_step p3 p2)) + (own_step p2 p2)) + (own_step p3 (p3 ^^^ (p4 &&& (1 : Int32))))) + (own_step p2 p4))), .second] [(.int (lcmpW ((((0 : Int64) + (own_step p2 p3)) + (own_step p3 p2)) + (own_step p2 p2)) (((0 : Int64) + (own_step p2 p3)) + (own_step p3 p2))))])) _
    refine XS.ifNo X15.here hx rfl (hb hby at_141) rfl ((if0 _ _).trans (teq ((lw_eq _ _).mpr (own_self _ _))).2) ?_
    show Steps p.tables e below (T15.setTop (mkF m 144 #[.val (.int p1), .val (.int p2), .val (.int p3), .val (.int p4), .val (.ref b1), .val (.long (0 : Int64)), .second, .val (.long ((0 : Int64) + (own_step p2 p3))), .second, .val (.long (((0 : Int64) + (own_step p2 p3)) + (own_step p3 p2))), .second, .val (.long ((((0 : Int64) + (own_step p2 p3)) + (own_step p3 p2)) + (own_step p2 p2))), .second, .val (.int (p3 ^^^ (p4 &&& (1 : Int32)))), .val (.long (((((0 : Int64) + (own_step p2 p3)) + (own_step p3 p2)) + (own_step p2 p2)) + (own_step p3 (p3 ^^^ (p4 &&& (1 : Int32)))))), .second, .val (.long ((((((0 : Int64) + (own_step p2 p3)) + (own_step p3 p2)) + (own_step p2 p2)) + (own_step p3 (p3 ^^^ (p4 &&& (1 : Int32))))) + (own_step p2 p4))), .second] [])) _
    refine XS.lload X15.here hx rfl (hb hby at_144) rfl ?_
    show Steps p.tables e below (T15.setTop (mkF m 146 #[.val (.int p1), .val (.int p2), .val (.int p3), .val (.int p4), .val (.ref b1), .val (.long (0 : Int64)), .second, .val (.long ((0 : Int64) + (own_step p2 p3))), .second, .val (.long (((0 : Int64) + (own_step p2 p3)) + (own_step p3 p2))), .second, .val (.long ((((0 : Int64) + (own_step p2 p3)) + (own_step p3 p2)) + (own_step p2 p2))), .second, .val (.int (p3 ^^^ (p4 &&& (1 : Int32)))), .val (.long (((((0 : Int64) + (own_step p2 p3)) + (own_step p3 p2)) + (own_step p2 p2)) + (own_step p3 (p3 ^^^ (p4 &&& (1 : Int32)))))), .second, .val (.long ((((((0 : Int64) + (own_step p2 p3)) + (own_step p3 p2)) + (own_step p2 p2)) + (own_step p3 (p3 ^^^ (p4 &&& (1 : Int32))))) + (own_step p2 p4))), .second] [(.long (((((0 : Int64) + (own_step p2 p3)) + (own_step p3 p2)) + (own_step p2 p2)) + (own_step p3 (p3 ^^^ (p4 &&& (1 : Int32))))))])) _
    refine XS.lload X15.here hx rfl (hb hby at_146) rfl ?_
    show Steps p.tables e below (T15.setTop (mkF m 148 #[.val (.int p1), .val (.int p2), .val (.int p3), .val (.int p4), .val (.ref b1), .val (.long (0 : Int64)), .second, .val (.long ((0 : Int64) + (own_step p2 p3))), .second, .val (.long (((0 : Int64) + (own_step p2 p3)) + (own_step p3 p2))), .second, .val (.long ((((0 : Int64) + (own_step p2 p3)) + (own_step p3 p2)) + (own_step p2 p2))), .second, .val (.int (p3 ^^^ (p4 &&& (1 : Int32)))), .val (.long (((((0 : Int64) + (own_step p2 p3)) + (own_step p3 p2)) + (own_step p2 p2)) + (own_step p3 (p3 ^^^ (p4 &&& (1 : Int32)))))), .second, .val (.long ((((((0 : Int64) + (own_step p2 p3)) + (own_step p3 p2)) + (own_step p2 p2)) + (own_step p3 (p3 ^^^ (p4 &&& (1 : Int32))))) + (own_step p2 p4))), .second] [(.long ((((0 : Int64) + (own_step p2 p3)) + (own_step p3 p2)) + (own_step p2 p2))), (.long (((((0 : Int64) + (own_step p2 p3)) + (own_step p3 p2)) + (own_step p2 p2)) + (own_step p3 (p3 ^^^ (p4 &&& (1 : Int32))))))])) _
    refine XS.iloadN X15.here hx rfl (hb hby at_148) rfl ?_
    show Steps p.tables e below (T15.setTop (mkF m 149 #[.val (.int p1), .val (.int p2), .val (.int p3), .val (.int p4), .val (.ref b1), .val (.long (0 : Int64)), .second, .val (.long ((0 : Int64) + (own_step p2 p3))), .second, .val (.long (((0 : Int64) + (own_step p2 p3)) + (own_step p3 p2))), .second, .val (.long ((((0 : Int64) + (own_step p2 p3)) + (own_step p3 p2)) + (own_step p2 p2))), .second, .val (.int (p3 ^^^ (p4 &&& (1 : Int32)))), .val (.long (((((0 : Int64) + (own_step p2 p3)) + (own_step p3 p2)) + (own_step p2 p2)) + (own_step p3 (p3 ^^^ (p4 &&& (1 : Int32)))))), .second, .val (.long ((((((0 : Int64) + (own_step p2 p3)) + (own_step p3 p2)) + (own_step p2 p2)) + (own_step p3 (p3 ^^^ (p4 &&& (1 : Int32))))) + (own_step p2 p4))), .second] [(.int p3), (.long ((((0 : Int64) + (own_step p2 p3)) + (own_step p3 p2)) + (own_step p2 p2))), (.long (((((0 : Int64) + (own_step p2 p3)) + (own_step p3 p2)) + (own_step p2 p2)) + (own_step p3 (p3 ^^^ (p4 &&& (1 : Int32))))))])) _
    refine XS.iload X15.here hx rfl (hb hby at_149) rfl ?_
    exact k
  obtain ⟨_, _, ⟨T16, L16, k16, n16⟩, -, X16, ⟨Lc16, hQ16, l16, y16, z16⟩, st16⟩ := Jvm.LawKit.callS X15 hx (y := (⟨"com/example/inkremental/inkremental/engine/PartitionsSendPinLaw", "step", "(II)J"⟩ : MethodName)) hown (mvT hZ (hw _ (List.mem_of_getElem? (i := 23) rfl))) (mvT hZ (hw _ (List.mem_of_getElem? (i := 24) rfl))) (mvT hZ (hw _ (List.mem_of_getElem? (i := 25) rfl))) (mvT hZ (hw _ (List.mem_of_getElem? (i := 26) rfl))) (by decide) (backOf (W := 4) (rm5 l Z a0 hw [] p3 (p3 ^^^ (p4 &&& (1 : Int32))) T12.heap n0 (Nat.le_trans (Nat.le_trans (Nat.le_trans (Nat.le_trans (Nat.le_trans (Nat.le_trans (Nat.le_trans Z0 E1.1) K2q.1) K4q.1) K6q.1) K8q.1) K10q.1) K12q.1)) hZ (hw _ (List.mem_of_getElem? (i := 26) rfl)) (hw _ (List.mem_of_getElem? (i := 25) rfl)) (by decide) (by decide)) (g := (mkF m 151 #[.val (.int p1), .val (.int p2), .val (.int p3), .val (.int p4), .val (.ref b1), .val (.long (0 : Int64)), .second, .val (.long ((0 : Int64) + (own_step p2 p3))), .second, .val (.long (((0 : Int64) + (own_step p2 p3)) + (own_step p3 p2))), .second, .val (.long ((((0 : Int64) + (own_step p2 p3)) + (own_step p3 p2)) + (own_step p2 p2))), .second, .val (.int (p3 ^^^ (p4 &&& (1 : Int32)))), .val (.long (((((0 : Int64) + (own_step p2 p3)) + (own_step p3 p2)) + (own_step p2 p2)) + (own_step p3 (p3 ^^^ (p4 &&& (1 : Int32)))))), .second, .val (.long ((((((0 : Int64) + (own_step p2 p3)) + (own_step p3 p2)) + (own_step p2 p2)) + (own_step p3 (p3 ^^^ (p4 &&& (1 : Int32))))) + (own_step p2 p4))), .second] [(.int (p3 ^^^ (p4 &&& (1 : Int32)))), (.int p3), (.long ((((0 : Int64) + (own_step p2 p3)) + (own_step p3 p2)) + (own_step p2 p2))), (.long (((((0 : Int64) + (own_step p2 p3)) + (own_step p3 p2)) + (own_step p2 p2)) + (own_step p3 (p3 ^^^ (p4 &&& (1 : Int32))))))])) rfl (by rw [hml]; rfl) (argsL := [(.int p3), (.int (p3 ^^^ (p4 &&& (1 : Int32))))]) (rest := [(.long ((((0 : Int64) + (own_step p2 p3)) + (own_step p3 p2)) + (own_step p2 p2))), (.long (((((0 : Int64) + (own_step p2 p3)) + (own_step p3 p2)) + (own_step p2 p2)) + (own_step p3 (p3 ^^^ (p4 &&& (1 : Int32))))))]) (lenOf own_pd3 rfl) rfl (by show 2 * 0 + _ ≤ _; exact Nat.le_of_eq rfl) (hb hby at_151) (fun _ _ => ⟨rfl, eq15, (by decide : 1 + 0 ≤ _), (by decide : 2 + 0 ≤ _)⟩)
  dsimp only [Pt.U, Pt.locs, Pt.cells, Pt.slots] at X16 l16 y16 z16 st16 hQ16
  subst l16 y16 z16
  obtain ⟨rfl, N16q, eq16⟩ := hQ16
  have N16 := Fr.app N15 N16q
  refine own_go (B := T16.setTop (mkF m 154 #[.val (.int p1), .val (.int p2), .val (.int p3), .val (.int p4), .val (.ref b1), .val (.long (0 : Int64)), .second, .val (.long ((0 : Int64) + (own_step p2 p3))), .second, .val (.long (((0 : Int64) + (own_step p2 p3)) + (own_step p3 p2))), .second, .val (.long ((((0 : Int64) + (own_step p2 p3)) + (own_step p3 p2)) + (own_step p2 p2))), .second, .val (.int (p3 ^^^ (p4 &&& (1 : Int32)))), .val (.long (((((0 : Int64) + (own_step p2 p3)) + (own_step p3 p2)) + (own_step p2 p2)) + (own_step p3 (p3 ^^^ (p4 &&& (1 : Int32)))))), .second, .val (.long ((((((0 : Int64) + (own_step p2 p3)) + (own_step p3 p2)) + (own_step p2 p2)) + (own_step p3 (p3 ^^^ (p4 &&& (1 : Int32))))) + (own_step p2 p4))), .second] [(.long (own_step p3 (p3 ^^^ (p4 &&& (1 : Int32))))), (.long ((((0 : Int64) + (own_step p2 p3)) + (own_step p3 p2)) + (own_step p2 p2))), (.long (((((0 : Int64) + (own_step p2 p3)) + (own_step p3 p2)) + (own_step p2 p2)) + (own_step p3 (p3 ^^^ (p4 &&& (1 : Int32))))))])) (fun t k => st16 _ k) ?_
  refine own_go (B := T16.setTop (mkF m 165 #[.val (.int p1), .val (.int p2), .val (.int p3), .val (.int p4), .val (.ref b1), .val (.long (0 : Int64)), .second, .val (.long ((0 : Int64) + (own_step p2 p3))), .second, .val (.long (((0 : Int64) + (own_step p2 p3)) + (own_step p3 p2))), .second, .val (.long ((((0 : Int64) + (own_step p2 p3)) + (own_step p3 p2)) + (own_step p2 p2))), .second, .val (.int (p3 ^^^ (p4 &&& (1 : Int32)))), .val (.long (((((0 : Int64) + (own_step p2 p3)) + (own_step p3 p2)) + (own_step p2 p2)) + (own_step p3 (p3 ^^^ (p4 &&& (1 : Int32)))))), .second, .val (.long ((((((0 : Int64) + (own_step p2 p3)) + (own_step p3 p2)) + (own_step p2 p2)) + (own_step p3 (p3 ^^^ (p4 &&& (1 : Int32))))) + (own_step p2 p4))), .second] [(.int p4), (.int p2), (.long (((((0 : Int64) + (own_step p2 p3)) + (own_step p3 p2)) + (own_step p2 p2)) + (own_step p3 (p3 ^^^ (p4 &&& (1 : Int32)))))), (.long ((((((0 : Int64) + (own_step p2 p3)) + (own_step p3 p2)) + (own_step p2 p2)) + (own_step p3 (p3 ^^^ (p4 &&& (1 : Int32))))) + (own_step p2 p4)))])) (fun t k => ?_) ?_
  · show Steps p.tables e below (T16.setTop (mkF m 154 #[.val (.int p1), .val (.int p2), .val (.int p3), .val (.int p4), .val (.ref b1), .val (.long (0 : Int64)), .second, .val (.long ((0 : Int64) + (own_step p2 p3))), .second, .val (.long (((0 : Int64) + (own_step p2 p3)) + (own_step p3 p2))), .second, .val (.long ((((0 : Int64) + (own_step p2 p3)) + (own_step p3 p2)) + (own_step p2 p2))), .second, .val (.int (p3 ^^^ (p4 &&& (1 : Int32)))), .val (.long (((((0 : Int64) + (own_step p2 p3)) + (own_step p3 p2)) + (own_step p2 p2)) + (own_step p3 (p3 ^^^ (p4 &&& (1 : Int32)))))), .second, .val (.long ((((((0 : Int64) + (own_step p2 p3)) + (own_step p3 p2)) + (own_step p2 p2)) + (own_step p3 (p3 ^^^ (p4 &&& (1 : Int32))))) + (own_step p2 p4))), .second] [(.long (own_step p3 (p3 ^^^ (p4 &&& (1 : Int32))))), (.long ((((0 : Int64) + (own_step p2 p3)) + (own_step p3 p2)) + (own_step p2 p2))), (.long (((((0 : Int64) + (own_step p2 p3)) + (own_step p3 p2)) + (own_step p2 p2)) + (own_step p3 (p3 ^^^ (p4 &&& (1 : Int32))))))])) _
    refine XS.ladd X16.here hx rfl (hb hby at_154) rfl ?_
    show Steps p.tables e below (T16.setTop (mkF m 155 #[.val (.int p1), .val (.int p2), .val (.int p3), .val (.int p4), .val (.ref b1), .val (.long (0 : Int64)), .second, .val (.long ((0 : Int64) + (own_step p2 p3))), .second, .val (.long (((0 : Int64) + (own_step p2 p3)) + (own_step p3 p2))), .second, .val (.long ((((0 : Int64) + (own_step p2 p3)) + (own_step p3 p2)) + (own_step p2 p2))), .second, .val (.int (p3 ^^^ (p4 &&& (1 : Int32)))), .val (.long (((((0 : Int64) + (own_step p2 p3)) + (own_step p3 p2)) + (own_step p2 p2)) + (own_step p3 (p3 ^^^ (p4 &&& (1 : Int32)))))), .second, .val (.long ((((((0 : Int64) + (own_step p2 p3)) + (own_step p3 p2)) + (own_step p2 p2)) + (own_step p3 (p3 ^^^ (p4 &&& (1 : Int32))))) + (own_step p2 p4))), .second] [(.long (((((0 : Int64) + (own_step p2 p3)) + (own_step p3 p2)) + (own_step p2 p2)) + (own_step p3 (p3 ^^^ (p4 &&& (1 : Int32)))))), (.long (((((0 : Int64) + (own_step p2 p3)) + (own_step p3 p2)) + (own_step p2 p2)) + (own_step p3 (p3 ^^^ (p4 &&& (1 : Int32))))))])) _
    refine XS.lcmp X16.here hx rfl (hb hby at_155) rfl ?_
    show Steps p.tables e below (T16.setTop (mkF m 156 #[.val (.int p1), .val (.int p2), .val (.int p3), .val (.int p4), .val (.ref b1), .val (.long (0 : Int64)), .second, .val (.long ((0 : Int64) + (own_step p2 p3))), .second, .val (.long (((0 : Int64) + (own_step p2 p3)) + (own_step p3 p2))), .second, .val (.long ((((0 : Int64) + (own_step p2 p3)) + (own_step p3 p2)) + (own_step p2 p2))), .second, .val (.int (p3 ^^^ (p4 &&& (1 : Int32)))), .val (.long (((((0 : Int64) + (own_step p2 p3)) + (own_step p3 p2)) + (own_step p2 p2)) + (own_step p3 (p3 ^^^ (p4 &&& (1 : Int32)))))), .second, .val (.long ((((((0 : Int64) + (own_step p2 p3)) + (own_step p3 p2)) + (own_step p2 p2)) + (own_step p3 (p3 ^^^ (p4 &&& (1 : Int32))))) + (own_step p2 p4))), .second] [(.int (lcmpW (((((0 : Int64) + (own_step p2 p3)) + (own_step p3 p2)) + (own_step p2 p2)) + (own_step p3 (p3 ^^^ (p4 &&& (1 : Int32))))) (((((0 : Int64) + (own_step p2 p3)) + (own_step p3 p2)) + (own_step p2 p2)) + (own_step p3 (p3 ^^^ (p4 &&& (1 : Int32)))))))])) _
    refine XS.ifNo X16.here hx rfl (hb hby at_156) rfl ((if0 _ _).trans (teq ((lw_eq _ _).mpr rfl)).2) ?_
    show Steps p.tables e below (T16.setTop (mkF m 159 #[.val (.int p1), .val (.int p2), .val (.int p3), .val (.int p4), .val (.ref b1), .val (.long (0 : Int64)), .second, .val (.long ((0 : Int64) + (own_step p2 p3))), .second, .val (.long (((0 : Int64) + (own_step p2 p3)) + (own_step p3 p2))), .second, .val (.long ((((0 : Int64) + (own_step p2 p3)) + (own_step p3 p2)) + (own_step p2 p2))), .second, .val (.int (p3 ^^^ (p4 &&& (1 : Int32)))), .val (.long (((((0 : Int64) + (own_step p2 p3)) + (own_step p3 p2)) + (own_step p2 p2)) + (own_step p3 (p3 ^^^ (p4 &&& (1 : Int32)))))), .second, .val (.long ((((((0 : Int64) + (own_step p2 p3)) + (own_step p3 p2)) + (own_step p2 p2)) + (own_step p3 (p3 ^^^ (p4 &&& (1 : Int32))))) + (own_step p2 p4))), .second] [])) _
    refine XS.lload X16.here hx rfl (hb hby at_159) rfl ?_
    show Steps p.tables e below (T16.setTop (mkF m 161 #[.val (.int p1), .val (.int p2), .val (.int p3), .val (.int p4), .val (.ref b1), .val (.long (0 : Int64)), .second, .val (.long ((0 : Int64) + (own_step p2 p3))), .second, .val (.long (((0 : Int64) + (own_step p2 p3)) + (own_step p3 p2))), .second, .val (.long ((((0 : Int64) + (own_step p2 p3)) + (own_step p3 p2)) + (own_step p2 p2))), .second, .val (.int (p3 ^^^ (p4 &&& (1 : Int32)))), .val (.long (((((0 : Int64) + (own_step p2 p3)) + (own_step p3 p2)) + (own_step p2 p2)) + (own_step p3 (p3 ^^^ (p4 &&& (1 : Int32)))))), .second, .val (.long ((((((0 : Int64) + (own_step p2 p3)) + (own_step p3 p2)) + (own_step p2 p2)) + (own_step p3 (p3 ^^^ (p4 &&& (1 : Int32))))) + (own_step p2 p4))), .second] [(.long ((((((0 : Int64) + (own_step p2 p3)) + (own_step p3 p2)) + (own_step p2 p2)) + (own_step p3 (p3 ^^^ (p4 &&& (1 : Int32))))) + (own_step p2 p4)))])) _
    refine XS.lload X16.here hx rfl (hb hby at_161) rfl ?_
    show Steps p.tables e below (T16.setTop (mkF m 163 #[.val (.int p1), .val (.int p2), .val (.int p3), .val (.int p4), .val (.ref b1), .val (.long (0 : Int64)), .second, .val (.long ((0 : Int64) + (own_step p2 p3))), .second, .val (.long (((0 : Int64) + (own_step p2 p3)) + (own_step p3 p2))), .second, .val (.long ((((0 : Int64) + (own_step p2 p3)) + (own_step p3 p2)) + (own_step p2 p2))), .second, .val (.int (p3 ^^^ (p4 &&& (1 : Int32)))), .val (.long (((((0 : Int64) + (own_step p2 p3)) + (own_step p3 p2)) + (own_step p2 p2)) + (own_step p3 (p3 ^^^ (p4 &&& (1 : Int32)))))), .second, .val (.long ((((((0 : Int64) + (own_step p2 p3)) + (own_step p3 p2)) + (own_step p2 p2)) + (own_step p3 (p3 ^^^ (p4 &&& (1 : Int32))))) + (own_step p2 p4))), .second] [(.long (((((0 : Int64) + (own_step p2 p3)) + (own_step p3 p2)) + (own_step p2 p2)) + (own_step p3 (p3 ^^^ (p4 &&& (1 : Int32)))))), (.long ((((((0 : Int64) + (own_step p2 p3)) + (own_step p3 p2)) + (own_step p2 p2)) + (own_step p3 (p3 ^^^ (p4 &&& (1 : Int32))))) + (own_step p2 p4)))])) _
    refine XS.iloadN X16.here hx rfl (hb hby at_163) rfl ?_
    show Steps p.tables e below (T16.setTop (mkF m 164 #[.val (.int p1), .val (.int p2), .val (.int p3), .val (.int p4), .val (.ref b1), .val (.long (0 : Int64)), .second, .val (.long ((0 : Int64) + (own_step p2 p3))), .second, .val (.long (((0 : Int64) + (own_step p2 p3)) + (own_step p3 p2))), .second, .val (.long ((((0 : Int64) + (own_step p2 p3)) + (own_step p3 p2)) + (own_step p2 p2))), .second, .val (.int (p3 ^^^ (p4 &&& (1 : Int32)))), .val (.long (((((0 : Int64) + (own_step p2 p3)) + (own_step p3 p2)) + (own_step p2 p2)) + (own_step p3 (p3 ^^^ (p4 &&& (1 : Int32)))))), .second, .val (.long ((((((0 : Int64) + (own_step p2 p3)) + (own_step p3 p2)) + (own_step p2 p2)) + (own_step p3 (p3 ^^^ (p4 &&& (1 : Int32))))) + (own_step p2 p4))), .second] [(.int p2), (.long (((((0 : Int64) + (own_step p2 p3)) + (own_step p3 p2)) + (own_step p2 p2)) + (own_step p3 (p3 ^^^ (p4 &&& (1 : Int32)))))), (.long ((((((0 : Int64) + (own_step p2 p3)) + (own_step p3 p2)) + (own_step p2 p2)) + (own_step p3 (p3 ^^^ (p4 &&& (1 : Int32))))) + (own_step p2 p4)))])) _
    refine XS.iloadN X16.here hx rfl (hb hby at_164) rfl ?_
    exact k
  obtain ⟨_, _, ⟨T17, L17, k17, n17⟩, -, X17, ⟨Lc17, hQ17, l17, y17, z17⟩, st17⟩ := Jvm.LawKit.callS X16 hx (y := (⟨"com/example/inkremental/inkremental/engine/PartitionsSendPinLaw", "step", "(II)J"⟩ : MethodName)) hown (mvT hZ (hw _ (List.mem_of_getElem? (i := 23) rfl))) (mvT hZ (hw _ (List.mem_of_getElem? (i := 24) rfl))) (mvT hZ (hw _ (List.mem_of_getElem? (i := 25) rfl))) (mvT hZ (hw _ (List.mem_of_getElem? (i := 26) rfl))) (by decide) (backOf (W := 4) (rm5 l Z a0 hw [] p2 p4 T12.heap n0 (Nat.le_trans (Nat.le_trans (Nat.le_trans (Nat.le_trans (Nat.le_trans (Nat.le_trans (Nat.le_trans Z0 E1.1) K2q.1) K4q.1) K6q.1) K8q.1) K10q.1) K12q.1)) hZ (hw _ (List.mem_of_getElem? (i := 26) rfl)) (hw _ (List.mem_of_getElem? (i := 25) rfl)) (by decide) (by decide)) (g := (mkF m 165 #[.val (.int p1), .val (.int p2), .val (.int p3), .val (.int p4), .val (.ref b1), .val (.long (0 : Int64)), .second, .val (.long ((0 : Int64) + (own_step p2 p3))), .second, .val (.long (((0 : Int64) + (own_step p2 p3)) + (own_step p3 p2))), .second, .val (.long ((((0 : Int64) + (own_step p2 p3)) + (own_step p3 p2)) + (own_step p2 p2))), .second, .val (.int (p3 ^^^ (p4 &&& (1 : Int32)))), .val (.long (((((0 : Int64) + (own_step p2 p3)) + (own_step p3 p2)) + (own_step p2 p2)) + (own_step p3 (p3 ^^^ (p4 &&& (1 : Int32)))))), .second, .val (.long ((((((0 : Int64) + (own_step p2 p3)) + (own_step p3 p2)) + (own_step p2 p2)) + (own_step p3 (p3 ^^^ (p4 &&& (1 : Int32))))) + (own_step p2 p4))), .second] [(.int p4), (.int p2), (.long (((((0 : Int64) + (own_step p2 p3)) + (own_step p3 p2)) + (own_step p2 p2)) + (own_step p3 (p3 ^^^ (p4 &&& (1 : Int32)))))), (.long ((((((0 : Int64) + (own_step p2 p3)) + (own_step p3 p2)) + (own_step p2 p2)) + (own_step p3 (p3 ^^^ (p4 &&& (1 : Int32))))) + (own_step p2 p4)))])) rfl (by rw [hml]; rfl) (argsL := [(.int p2), (.int p4)]) (rest := [(.long (((((0 : Int64) + (own_step p2 p3)) + (own_step p3 p2)) + (own_step p2 p2)) + (own_step p3 (p3 ^^^ (p4 &&& (1 : Int32)))))), (.long ((((((0 : Int64) + (own_step p2 p3)) + (own_step p3 p2)) + (own_step p2 p2)) + (own_step p3 (p3 ^^^ (p4 &&& (1 : Int32))))) + (own_step p2 p4)))]) (lenOf own_pd3 rfl) rfl (by show 2 * 0 + _ ≤ _; exact Nat.le_of_eq rfl) (hb hby at_165) (fun _ _ => ⟨rfl, eq16, (by decide : 1 + 0 ≤ _), (by decide : 2 + 0 ≤ _)⟩)
  dsimp only [Pt.U, Pt.locs, Pt.cells, Pt.slots] at X17 l17 y17 z17 st17 hQ17
  subst l17 y17 z17
  obtain ⟨rfl, N17q, eq17⟩ := hQ17
  have N17 := Fr.app N16 N17q
  refine own_go (B := T17.setTop (mkF m 168 #[.val (.int p1), .val (.int p2), .val (.int p3), .val (.int p4), .val (.ref b1), .val (.long (0 : Int64)), .second, .val (.long ((0 : Int64) + (own_step p2 p3))), .second, .val (.long (((0 : Int64) + (own_step p2 p3)) + (own_step p3 p2))), .second, .val (.long ((((0 : Int64) + (own_step p2 p3)) + (own_step p3 p2)) + (own_step p2 p2))), .second, .val (.int (p3 ^^^ (p4 &&& (1 : Int32)))), .val (.long (((((0 : Int64) + (own_step p2 p3)) + (own_step p3 p2)) + (own_step p2 p2)) + (own_step p3 (p3 ^^^ (p4 &&& (1 : Int32)))))), .second, .val (.long ((((((0 : Int64) + (own_step p2 p3)) + (own_step p3 p2)) + (own_step p2 p2)) + (own_step p3 (p3 ^^^ (p4 &&& (1 : Int32))))) + (own_step p2 p4))), .second] [(.long (own_step p2 p4)), (.long (((((0 : Int64) + (own_step p2 p3)) + (own_step p3 p2)) + (own_step p2 p2)) + (own_step p3 (p3 ^^^ (p4 &&& (1 : Int32)))))), (.long ((((((0 : Int64) + (own_step p2 p3)) + (own_step p3 p2)) + (own_step p2 p2)) + (own_step p3 (p3 ^^^ (p4 &&& (1 : Int32))))) + (own_step p2 p4)))])) (fun t k => st17 _ k) ?_
  obtain ⟨fs, hr, hrun, hended, hW, hsame⟩ := X17.leave (v := some (.int (1 : Int32))) (fun h => by rw [Bd.returns] at h; cases h)
  refine ⟨_, _, ?_, hrun, hended, _, _, rfl, ?_, ⟨_, rfl⟩, hW, hsame.mono (by decide) (by decide)⟩
  · show Steps p.tables e below (T17.setTop (mkF m 168 #[.val (.int p1), .val (.int p2), .val (.int p3), .val (.int p4), .val (.ref b1), .val (.long (0 : Int64)), .second, .val (.long ((0 : Int64) + (own_step p2 p3))), .second, .val (.long (((0 : Int64) + (own_step p2 p3)) + (own_step p3 p2))), .second, .val (.long ((((0 : Int64) + (own_step p2 p3)) + (own_step p3 p2)) + (own_step p2 p2))), .second, .val (.int (p3 ^^^ (p4 &&& (1 : Int32)))), .val (.long (((((0 : Int64) + (own_step p2 p3)) + (own_step p3 p2)) + (own_step p2 p2)) + (own_step p3 (p3 ^^^ (p4 &&& (1 : Int32)))))), .second, .val (.long ((((((0 : Int64) + (own_step p2 p3)) + (own_step p3 p2)) + (own_step p2 p2)) + (own_step p3 (p3 ^^^ (p4 &&& (1 : Int32))))) + (own_step p2 p4))), .second] [(.long (own_step p2 p4)), (.long (((((0 : Int64) + (own_step p2 p3)) + (own_step p3 p2)) + (own_step p2 p2)) + (own_step p3 (p3 ^^^ (p4 &&& (1 : Int32)))))), (.long ((((((0 : Int64) + (own_step p2 p3)) + (own_step p3 p2)) + (own_step p2 p2)) + (own_step p3 (p3 ^^^ (p4 &&& (1 : Int32))))) + (own_step p2 p4)))])) _
    refine XS.ladd X17.here hx rfl (hb hby at_168) rfl ?_
    show Steps p.tables e below (T17.setTop (mkF m 169 #[.val (.int p1), .val (.int p2), .val (.int p3), .val (.int p4), .val (.ref b1), .val (.long (0 : Int64)), .second, .val (.long ((0 : Int64) + (own_step p2 p3))), .second, .val (.long (((0 : Int64) + (own_step p2 p3)) + (own_step p3 p2))), .second, .val (.long ((((0 : Int64) + (own_step p2 p3)) + (own_step p3 p2)) + (own_step p2 p2))), .second, .val (.int (p3 ^^^ (p4 &&& (1 : Int32)))), .val (.long (((((0 : Int64) + (own_step p2 p3)) + (own_step p3 p2)) + (own_step p2 p2)) + (own_step p3 (p3 ^^^ (p4 &&& (1 : Int32)))))), .second, .val (.long ((((((0 : Int64) + (own_step p2 p3)) + (own_step p3 p2)) + (own_step p2 p2)) + (own_step p3 (p3 ^^^ (p4 &&& (1 : Int32))))) + (own_step p2 p4))), .second] [(.long ((((((0 : Int64) + (own_step p2 p3)) + (own_step p3 p2)) + (own_step p2 p2)) + (own_step p3 (p3 ^^^ (p4 &&& (1 : Int32))))) + (own_step p2 p4))), (.long ((((((0 : Int64) + (own_step p2 p3)) + (own_step p3 p2)) + (own_step p2 p2)) + (own_step p3 (p3 ^^^ (p4 &&& (1 : Int32))))) + (own_step p2 p4)))])) _
    refine XS.lcmp X17.here hx rfl (hb hby at_169) rfl ?_
    show Steps p.tables e below (T17.setTop (mkF m 170 #[.val (.int p1), .val (.int p2), .val (.int p3), .val (.int p4), .val (.ref b1), .val (.long (0 : Int64)), .second, .val (.long ((0 : Int64) + (own_step p2 p3))), .second, .val (.long (((0 : Int64) + (own_step p2 p3)) + (own_step p3 p2))), .second, .val (.long ((((0 : Int64) + (own_step p2 p3)) + (own_step p3 p2)) + (own_step p2 p2))), .second, .val (.int (p3 ^^^ (p4 &&& (1 : Int32)))), .val (.long (((((0 : Int64) + (own_step p2 p3)) + (own_step p3 p2)) + (own_step p2 p2)) + (own_step p3 (p3 ^^^ (p4 &&& (1 : Int32)))))), .second, .val (.long ((((((0 : Int64) + (own_step p2 p3)) + (own_step p3 p2)) + (own_step p2 p2)) + (own_step p3 (p3 ^^^ (p4 &&& (1 : Int32))))) + (own_step p2 p4))), .second] [(.int (lcmpW ((((((0 : Int64) + (own_step p2 p3)) + (own_step p3 p2)) + (own_step p2 p2)) + (own_step p3 (p3 ^^^ (p4 &&& (1 : Int32))))) + (own_step p2 p4)) ((((((0 : Int64) + (own_step p2 p3)) + (own_step p3 p2)) + (own_step p2 p2)) + (own_step p3 (p3 ^^^ (p4 &&& (1 : Int32))))) + (own_step p2 p4))))])) _
    refine XS.ifNo X17.here hx rfl (hb hby at_170) rfl ((if0 _ _).trans (teq ((lw_eq _ _).mpr rfl)).2) ?_
    show Steps p.tables e below (T17.setTop (mkF m 173 #[.val (.int p1), .val (.int p2), .val (.int p3), .val (.int p4), .val (.ref b1), .val (.long (0 : Int64)), .second, .val (.long ((0 : Int64) + (own_step p2 p3))), .second, .val (.long (((0 : Int64) + (own_step p2 p3)) + (own_step p3 p2))), .second, .val (.long ((((0 : Int64) + (own_step p2 p3)) + (own_step p3 p2)) + (own_step p2 p2))), .second, .val (.int (p3 ^^^ (p4 &&& (1 : Int32)))), .val (.long (((((0 : Int64) + (own_step p2 p3)) + (own_step p3 p2)) + (own_step p2 p2)) + (own_step p3 (p3 ^^^ (p4 &&& (1 : Int32)))))), .second, .val (.long ((((((0 : Int64) + (own_step p2 p3)) + (own_step p3 p2)) + (own_step p2 p2)) + (own_step p3 (p3 ^^^ (p4 &&& (1 : Int32))))) + (own_step p2 p4))), .second] [])) _
    refine XS.iconst X17.here hx rfl (hb hby at_173) ?_
    show Steps p.tables e below (T17.setTop (mkF m 174 #[.val (.int p1), .val (.int p2), .val (.int p3), .val (.int p4), .val (.ref b1), .val (.long (0 : Int64)), .second, .val (.long ((0 : Int64) + (own_step p2 p3))), .second, .val (.long (((0 : Int64) + (own_step p2 p3)) + (own_step p3 p2))), .second, .val (.long ((((0 : Int64) + (own_step p2 p3)) + (own_step p3 p2)) + (own_step p2 p2))), .second, .val (.int (p3 ^^^ (p4 &&& (1 : Int32)))), .val (.long (((((0 : Int64) + (own_step p2 p3)) + (own_step p3 p2)) + (own_step p2 p2)) + (own_step p3 (p3 ^^^ (p4 &&& (1 : Int32)))))), .second, .val (.long ((((((0 : Int64) + (own_step p2 p3)) + (own_step p3 p2)) + (own_step p2 p2)) + (own_step p3 (p3 ^^^ (p4 &&& (1 : Int32))))) + (own_step p2 p4))), .second] [(.int (1 : Int32))])) _
    refine XS.goto X17.here hx rfl (pc0 := 174) (pc' := 178) rfl (hb hby at_174) (by decide) (by decide) ?_
    show Steps p.tables e below (T17.setTop (mkF m 178 #[.val (.int p1), .val (.int p2), .val (.int p3), .val (.int p4), .val (.ref b1), .val (.long (0 : Int64)), .second, .val (.long ((0 : Int64) + (own_step p2 p3))), .second, .val (.long (((0 : Int64) + (own_step p2 p3)) + (own_step p3 p2))), .second, .val (.long ((((0 : Int64) + (own_step p2 p3)) + (own_step p3 p2)) + (own_step p2 p2))), .second, .val (.int (p3 ^^^ (p4 &&& (1 : Int32)))), .val (.long (((((0 : Int64) + (own_step p2 p3)) + (own_step p3 p2)) + (own_step p2 p2)) + (own_step p3 (p3 ^^^ (p4 &&& (1 : Int32)))))), .second, .val (.long ((((((0 : Int64) + (own_step p2 p3)) + (own_step p3 p2)) + (own_step p2 p2)) + (own_step p3 (p3 ^^^ (p4 &&& (1 : Int32))))) + (own_step p2 p4))), .second] [(.int (1 : Int32))])) _
    exact retN X17 hx (t := .boolean) Bd.returns (by simp) (hb hby at_178) hr
  · show Q0 Z p1 p2 p3 p4 h0 n0 _ T17.heap _
    rw [eq17]
    exact ⟨rfl, N17⟩
set_option maxRecDepth 65536 in
set_option maxHeartbeats 40000000 in
theorem comes_1 {Post : Tables → Env → Array Value → State → Outcome → State → Prop} (hpost : ∀ tb e args s v u, (limb_1_1.after args s (.returned v) u = true ∧ limb_1_2.after args s (.returned v) u = true ∧ True) → FrameEnd s (.returned v) u (Jvm.fieldLocs frame_1_writes args s ++ Jvm.arrayLocs frame_1_arrays args s ++ Jvm.staticLocs frame_1_statics s) 16 128 → Post tb e args s (.returned v) u) :
    ArmFor flags0 classFile x code maxLocals ret World_1 tables_1 room_1 Calls_1 rest_1 Pre_1 Post := by
  intro l hfl _ _ p e ha hc hk s m args below hf hA hF happ hP
  obtain ⟨hcalls, hrest, hpre⟩ := hP
  obtain ⟨-, -, -, hnamed, -, -, -, hat⟩ := (Spec.applies_iff hf).mp happ
  obtain ⟨hg, hn⟩ := and_e (Cond.before_iff.mp (show (Jvm.Cond.and given_1 narrow_1).before args s = true from hpre))
  obtain ⟨gc, ga0⟩ := and_e hg
  obtain ⟨ha0, ga1⟩ := and_e ga0
  obtain ⟨ha1, ga2⟩ := and_e ga1
  obtain ⟨ha2, ga3⟩ := and_e ga2
  obtain ⟨w0, w1, w2, w3, rfl⟩ : ∃ w0 w1 w2 w3 : Value, args = #[w0, w1, w2, w3] := by
    have hs : args.size = 4 := by simpa [Cond.value, given_1] using gc
    obtain ⟨L⟩ := args
    match L, hs with
    | [w0, w1, w2, w3], _ => exact ⟨w0, w1, w2, w3, rfl⟩
  have hw := fun d (hd : d ∈ tables_1) => atoms_spec (ws := Jvm.Cond.code x code maxLocals ret :: tables_1) hat d (List.mem_cons_of_mem _ hd)
  have hfit : Fit s := fun {y c} hc i hi => by
    obtain ⟨ha, rfl⟩ := Array.getElem?_eq_some_iff.mp hc
    have q := List.all_eq_true.mp ((Array.all_eq_true_iff_forall_mem.mp hF) _ (Array.getElem_mem ha)) i (List.mem_range.mpr hi)
    simpa [Array.getElem?_eq_getElem hi] using q
  obtain ⟨i0, ei0⟩ := is_v ha0
  obtain rfl : w0 = (.int i0) := Option.some.inj ei0
  obtain ⟨i1, ei1⟩ := is_v ha1
  obtain rfl : w1 = (.int i1) := Option.some.inj ei1
  obtain ⟨i2, ei2⟩ := is_v ha2
  obtain rfl : w2 = (.int i2) := Option.some.inj ei2
  obtain ⟨i3, ei3⟩ := is_v ga3
  obtain rfl : w3 = (.int i3) := Option.some.inj ei3
  obtain ⟨n, o, h1, h2, h3, _, L, rfl, ⟨rfl, N⟩, hq⟩ := rm0 l s _ hw tables_1 i0 i1 i2 i3 s.heap s.heap.size (Nat.le_refl _)  p e ha hc hk s m _ below hf ((Spec.applies_iff_loose hf).mp happ).1 ⟨rfl, State.Warmed39.refl s, rfl⟩ trivial
  refine ⟨n, _, h1, h2, h3, hpost _ _ _ _ _ _ ⟨Cond.after_iff.mpr rfl, Cond.after_iff.mpr (eq_i res_at (Term.int_eval (1)) rfl), trivial⟩ ⟨hq.1, hq.2.1, (hq.2.2.sift fun y hy => Or.inr (N y hy)).mono (by decide) (by decide)⟩⟩
theorem main_1_1 : Claimed_1_1 := comes_1 fun _ _ _ _ _ _ h hF => ⟨h.1, hF⟩
theorem main_1_2 : Claimed_1_2 := comes_1 fun _ _ _ _ _ _ h hF => ⟨h.2.1, hF⟩
end Jvm.Pilot.@@N@@
namespace Jvm.Pilot.@@N@@
open Jvm Jvm.ClassFile Sem Op Lib Jvm.Free Jvm.Stand Jvm.Pilot.@@N@@.Jvm.D
/-! MADE BY PROGRAM (witnessworld.py) out of the Statement's table words and the real class files: 7 classes; the members and pool entries that the words name. The judged class is class 1, her method 2. -/
namespace start1
open Jvm.ClassFile
def u (s : String) : CpInfo := .utf8 (stringToUtf16 s)
/-- a pool by its gaps: so many unusable entries, then the entry; so many at the end -/
def gap : Nat → List CpInfo → List CpInfo
  | 0, r => r
  | n + 1, r => .unusable :: gap n r
def poolList (es : List (Nat × CpInfo)) (last : Nat) : List CpInfo := es.foldr (fun e r => gap e.1 (e.2 :: r)) (gap last [])
def pool (es : List (Nat × CpInfo)) (last : Nat) : Array CpInfo := ⟨poolList es last⟩
def fileOf (pool : Array CpInfo) (this : Nat) (attrs : Array Attribute := #[]) (ms : Array MethodInfo := #[]) (fl : Nat := 33) (sup : Nat := 0) (ifs : Array Nat := #[]) (fds : Array FieldInfo := #[]) : ClassFile where
  minorVersion := 0
  majorVersion := 65
  constantPool := pool
  accessFlags := fl
  thisClass := this
  superClass := sup
  interfaces := ifs
  fields := fds
  methods := ms
  attributes := attrs
def plain (name : String) (sup : Option ClassId) : Class where
  name := name
  kind := .ordinary
  loader := none
  accessFlags := 33
  super := sup
  interfaces := #[]
  cf := none
  fields := #[]
  methods := #[]
  instanceTypes := #[]
  staticTypes := #[]
  resolved := #[]
  callSites := []
  init := .initialized
  statics := none
  mirror := none

def pool0 : Array CpInfo := pool [(5, u "<init>"), (0, u "()V"), (1, .class_ 10), (1, u "java/lang/Object")] 113

def k0c0 : Code := { maxStack := 0, maxLocals := 1, code := object_method_1_code, exceptionTable := #[], attributes := #[] }
def k0m0 : Method := { name := "<init>", desc := "()V", sig := { parameters := [], returnType := none }, accessFlags := 1, code := some k0c0 }
/-- java/lang/Object -/
def k0 : Class := { plain "java/lang/Object" none with
  accessFlags := 33
  interfaces := #[]
  cf := some (fileOf pool0 8 #[] #[{ accessFlags := 1, nameIndex := 5, descriptorIndex := 6, attributes := #[] }] 33 0 #[] #[])
  fields := #[]
  methods := #[k0m0]
  instanceTypes := #[]
  staticTypes := #[]
  resolved := Array.replicate 124 none
  statics := none }

def pool1 : Array CpInfo := pool [(2, .class_ 4), (1, u "java/lang/Object"), (0, u "<init>"), (0, u "()V"), (0, .class_ 8), (0, u "com/example/inkremental/inkremental/engine/Partitions"), (0, .methodref 7 10), (0, .nameAndType 5 11), (0, u "(I)V"), (0, .methodref 7 13), (0, .nameAndType 14 15), (0, u "shipped"), (0, u "()J"), (0, .methodref 7 17), (0, .nameAndType 18 19), (0, u "send"), (0, u "(II)V"), (0, .methodref 21 22), (0, .class_ 23), (0, .nameAndType 24 25), (0, u "com/example/inkremental/inkremental/engine/PartitionsSendPinLaw"), (0, u "step"), (0, u "(II)J"), (3, u "law"), (0, u "(IIII)Z")] 2

def k1m0 : Method := { name := "<init>", desc := "()V", sig := { parameters := [], returnType := none }, accessFlags := 2, code := none }
def k1c1 : Code := { maxStack := 2, maxLocals := 2, code := method_2_code, exceptionTable := #[], attributes := #[] }
def k1m1 : Method := { name := "step", desc := "(II)J", sig := { parameters := [.int, .int], returnType := some .long }, accessFlags := 10, code := some k1c1 }
def k1c2 : Code := { maxStack := 6, maxLocals := 18, code := code, exceptionTable := #[], attributes := #[] }
def k1m2 : Method := { name := "law", desc := "(IIII)Z", sig := { parameters := [.int, .int, .int, .int], returnType := some .boolean }, accessFlags := 9, code := some k1c2 }
/-- com/example/inkremental/inkremental/engine/PartitionsSendPinLaw -/
def k1 : Class := { plain "com/example/inkremental/inkremental/engine/PartitionsSendPinLaw" (some 0) with
  accessFlags := 49
  interfaces := #[]
  cf := some (fileOf pool1 21 #[] #[{ accessFlags := 2, nameIndex := 5, descriptorIndex := 6, attributes := #[] }, { accessFlags := 10, nameIndex := 24, descriptorIndex := 25, attributes := #[] }, { accessFlags := 9, nameIndex := 29, descriptorIndex := 30, attributes := #[] }] 49 2 #[] #[])
  fields := #[]
  methods := #[k1m0, k1m1, k1m2]
  instanceTypes := #[]
  staticTypes := #[]
  resolved := Array.replicate 33 none
  statics := none }

def pool2 : Array CpInfo := pool [(1, .methodref 2 3), (0, .class_ 4), (0, .nameAndType 5 6), (0, u "java/lang/Object"), (0, u "<init>"), (0, u "()V"), (9, .fieldref 17 18), (0, .class_ 19), (0, .nameAndType 20 21), (0, u "com/example/inkremental/inkremental/engine/Partitions"), (0, u "count"), (0, u "I"), (0, .fieldref 17 23), (0, .nameAndType 24 25), (0, u "shipped"), (0, u "J"), (58, u "send"), (0, u "(II)V"), (16, u "(I)V"), (30, u "()J")] 29

def k2c0 : Code := { maxStack := 3, maxLocals := 2, code := prog_38_method_1_code, exceptionTable := #[], attributes := #[] }
def k2m0 : Method := { name := "<init>", desc := "(I)V", sig := { parameters := [.int], returnType := none }, accessFlags := 0, code := some k2c0 }
def k2c1 : Code := { maxStack := 2, maxLocals := 1, code := prog_38_method_2_code, exceptionTable := #[], attributes := #[] }
def k2m1 : Method := { name := "shipped", desc := "()J", sig := { parameters := [], returnType := some .long }, accessFlags := 0, code := some k2c1 }
def k2c2 : Code := { maxStack := 5, maxLocals := 3, code := prog_38_method_7_code, exceptionTable := #[], attributes := #[] }
def k2m2 : Method := { name := "send", desc := "(II)V", sig := { parameters := [.int, .int], returnType := none }, accessFlags := 0, code := some k2c2 }
/-- com/example/inkremental/inkremental/engine/Partitions -/
def k2 : Class := { plain "com/example/inkremental/inkremental/engine/Partitions" (some 0) with
  accessFlags := 48
  interfaces := #[]
  cf := some (fileOf pool2 17 #[] #[{ accessFlags := 0, nameIndex := 5, descriptorIndex := 102, attributes := #[] }, { accessFlags := 0, nameIndex := 24, descriptorIndex := 133, attributes := #[] }, { accessFlags := 0, nameIndex := 84, descriptorIndex := 85, attributes := #[] }] 48 2 #[] #[{ accessFlags := 18, nameIndex := 20, descriptorIndex := 21, attributes := #[] }, { accessFlags := 2, nameIndex := 24, descriptorIndex := 25, attributes := #[] }])
  fields := #[{ name := "count", type := .int, accessFlags := 18, slot := 0, constantValue := 0 }, { name := "shipped", type := .long, accessFlags := 2, slot := 1, constantValue := 0 }]
  methods := #[k2m0, k2m1, k2m2]
  instanceTypes := #[.int, .long]
  staticTypes := #[]
  resolved := Array.replicate 163 none
  statics := none }

def pool3 : Array CpInfo := pool [(1, u "java/lang/Cloneable"), (0, .class_ 1), (0, u "java/lang/Object"), (0, .class_ 3)] 3

/-- java/lang/Cloneable -/
def k3 : Class := { plain "java/lang/Cloneable" (some 0) with
  accessFlags := 1537
  interfaces := #[]
  cf := some (fileOf pool3 2 #[] #[] 1537 4 #[] #[])
  fields := #[]
  methods := #[]
  instanceTypes := #[]
  staticTypes := #[]
  resolved := Array.replicate 8 none
  statics := none }

def pool4 : Array CpInfo := pool [(1, u "java/io/Serializable"), (0, .class_ 1), (0, u "java/lang/Object"), (0, .class_ 3)] 3

/-- java/io/Serializable -/
def k4 : Class := { plain "java/io/Serializable" (some 0) with
  accessFlags := 1537
  interfaces := #[]
  cf := some (fileOf pool4 2 #[] #[] 1537 4 #[] #[])
  fields := #[]
  methods := #[]
  instanceTypes := #[]
  staticTypes := #[]
  resolved := Array.replicate 8 none
  statics := none }

/-- the primitive byte -/
def k5 : Class := { plain "byte" none with kind := .primitive 'B', accessFlags := 0x411 }
/-- [B -/
def k6 : Class := { plain "[B" (some 0) with kind := .array 5 .byte, interfaces := #[3, 4], accessFlags := 1041 }

def heap : Heap := #[]
def classes : Array Class := #[k0, k1, k2, k3, k4, k5, k6]
def interned : List (Array UInt16 × Addr) := []
def slotsUsed : Nat := 0
def theMethod : MethodId := ⟨1, 2⟩
def args0 : Array Value := #[.int 1, .int 2, .int 3, .int 4]
def aboutOver (below : List Frame) : State where
  vm := { classes := classes, interned := interned.toArray }
  heap := heap
  slotsUsed := slotsUsed
  threads := #[{ frames := .invoking theMethod args0 :: below }]
def below0 : List Frame := [.native { method := ⟨0, 0⟩, args := #[] }]
def about1 : State := aboutOver below0
def p0 : Program := .bare "" "" ""
def e0 : Env := launch0.env 0 0 0
theorem w_frames : about1.frames = Frame.invoking theMethod args0 :: below0 := rfl
set_option maxRecDepth 65536 in
theorem w_args : argsFit about1.vm theMethod args0 = true := by decide +kernel
set_option maxRecDepth 65536 in
theorem w_heap : heapFits about1 = true := by decide +kernel
set_option maxRecDepth 65536 in
theorem w_runnable : about1.curStatus? = some .runnable := by decide +kernel
set_option maxRecDepth 65536 in
theorem w_alone : about1.alone = true := by decide +kernel
set_option maxRecDepth 65536 in
theorem w_named : about1.methodNamed? x = some theMethod := by decide +kernel
set_option maxRecDepth 65536 in
theorem w_hears : about1.hears theMethod below0 = true := by decide +kernel
set_option maxRecDepth 65536 in
theorem w_ripe : about1.ripe theMethod args0 below0 = true := by decide +kernel
theorem w_running : about1.status = .running := rfl
set_option maxRecDepth 65536 in
theorem w_room : about1.hasRoom e0.platform room_1 = true :=
  launch0.hasRoom_least _ room_1 (by decide +kernel) (by decide +kernel) (by decide +kernel) (by decide +kernel) (by decide +kernel) (by decide +kernel)
theorem allAtoms_all (ts : List Jvm.Cond) (a : Array Jvm.Value) (st : Jvm.State) : (allAtoms ts).before a st = ts.all (fun c => c.before a st) := by
  induction ts with
  | nil => rfl
  | cons c t ih =>
    show (Jvm.Cond.and c (allAtoms t)).before a st = _
    rw [Jvm.Cond.before_and, ih, List.all_cons]
def words1 : List Jvm.Cond := Jvm.Cond.code x code maxLocals ret :: tables_1
/-- a 'code' word, met by the world's own term for the bytes: nothing is compared byte by byte -/
theorem code_word {y : MethodName} {bytes : ByteArray} {mx : Nat} {rt : Option FieldType} {a : Array Value} {s : State} {m : MethodId} {meth : Method} {c : Code} (h1 : s.methodNamed? y = some m) (h2 : s.vm.method? m = some meth) (h3 : meth.code = some c) (h4 : c.code = bytes)
    (h5 : (c.maxLocals == mx && c.exceptionTable.isEmpty && decide (c.maxStack ≤ mostOperands) && decide (meth.sig.returnType = rt) && !meth.locks && decide (parseMethodDescriptor y.desc = some meth.sig)) = true) : (Jvm.Cond.code y bytes mx rt).before a s = true := by
  simp only [Bool.and_eq_true, beq_iff_eq, Bool.not_eq_true', decide_eq_true_eq] at h5
  obtain ⟨⟨⟨⟨⟨g1, g2⟩, g3⟩, g4⟩, g5⟩, g6⟩ := h5
  simp [Cond.before, Cond.holds, Cond.value, h1, h2, h3, h4, g1, g2, g3, g4, g5, g6]
def isCode : Jvm.Cond → Bool
  | .code _ _ _ _ => true
  | _ => false
theorem all_split {L : List Jvm.Cond} {P : Jvm.Cond → Bool} (h1 : L.all (fun c => isCode c || P c) = true) (h2 : ∀ c ∈ L.filter isCode, P c = true) : L.all P = true := by
  refine List.all_eq_true.mpr fun c hc => ?_
  have h := List.all_eq_true.mp h1 c hc
  rcases Bool.eq_false_or_eq_true (isCode c) with hi | hi
  · exact h2 c (List.mem_filter.mpr ⟨hc, hi⟩)
  · simpa [hi] using h
set_option maxRecDepth 65536 in
theorem w_c0 : (Jvm.Cond.code x code maxLocals ret).before args0 about1 = true := code_word (m := ⟨1, 2⟩) (meth := k1m2) (c := k1c2) (by decide +kernel) rfl rfl rfl (by decide +kernel)
set_option maxRecDepth 65536 in
theorem w_c1 : (Jvm.Cond.code ({ cls := "com/example/inkremental/inkremental/engine/Partitions", name := "<init>", desc := "(I)V" } : Jvm.MethodName) prog_38_method_1_code (2 : Nat) (Option.none : Option Jvm.ClassFile.FieldType)).before args0 about1 = true := code_word (m := ⟨2, 0⟩) (meth := k2m0) (c := k2c0) (by decide +kernel) rfl rfl rfl (by decide +kernel)
set_option maxRecDepth 65536 in
theorem w_c2 : (Jvm.Cond.code ({ cls := "java/lang/Object", name := "<init>", desc := "()V" } : Jvm.MethodName) object_method_1_code (1 : Nat) (Option.none : Option Jvm.ClassFile.FieldType)).before args0 about1 = true := code_word (m := ⟨0, 0⟩) (meth := k0m0) (c := k0c0) (by decide +kernel) rfl rfl rfl (by decide +kernel)
set_option maxRecDepth 65536 in
theorem w_c3 : (Jvm.Cond.code ({ cls := "com/example/inkremental/inkremental/engine/Partitions", name := "shipped", desc := "()J" } : Jvm.MethodName) prog_38_method_2_code (1 : Nat) (Option.some Jvm.ClassFile.FieldType.long)).before args0 about1 = true := code_word (m := ⟨2, 1⟩) (meth := k2m1) (c := k2c1) (by decide +kernel) rfl rfl rfl (by decide +kernel)
set_option maxRecDepth 65536 in
theorem w_c4 : (Jvm.Cond.code ({ cls := "com/example/inkremental/inkremental/engine/Partitions", name := "send", desc := "(II)V" } : Jvm.MethodName) prog_38_method_7_code (3 : Nat) (Option.none : Option Jvm.ClassFile.FieldType)).before args0 about1 = true := code_word (m := ⟨2, 2⟩) (meth := k2m2) (c := k2c2) (by decide +kernel) rfl rfl rfl (by decide +kernel)
set_option maxRecDepth 65536 in
theorem w_c5 : (Jvm.Cond.code ({ cls := "com/example/inkremental/inkremental/engine/PartitionsSendPinLaw", name := "step", desc := "(II)J" } : Jvm.MethodName) method_2_code (2 : Nat) (Option.some Jvm.ClassFile.FieldType.long)).before args0 about1 = true := code_word (m := ⟨1, 1⟩) (meth := k1m1) (c := k1c1) (by decide +kernel) rfl rfl rfl (by decide +kernel)
def codes1 : List Jvm.Cond := [Jvm.Cond.code x code maxLocals ret, Jvm.Cond.code ({ cls := "com/example/inkremental/inkremental/engine/Partitions", name := "<init>", desc := "(I)V" } : Jvm.MethodName) prog_38_method_1_code (2 : Nat) (Option.none : Option Jvm.ClassFile.FieldType), Jvm.Cond.code ({ cls := "java/lang/Object", name := "<init>", desc := "()V" } : Jvm.MethodName) object_method_1_code (1 : Nat) (Option.none : Option Jvm.ClassFile.FieldType), Jvm.Cond.code ({ cls := "com/example/inkremental/inkremental/engine/Partitions", name := "shipped", desc := "()J" } : Jvm.MethodName) prog_38_method_2_code (1 : Nat) (Option.some Jvm.ClassFile.FieldType.long), Jvm.Cond.code ({ cls := "com/example/inkremental/inkremental/engine/Partitions", name := "send", desc := "(II)V" } : Jvm.MethodName) prog_38_method_7_code (3 : Nat) (Option.none : Option Jvm.ClassFile.FieldType), Jvm.Cond.code ({ cls := "com/example/inkremental/inkremental/engine/PartitionsSendPinLaw", name := "step", desc := "(II)J" } : Jvm.MethodName) method_2_code (2 : Nat) (Option.some Jvm.ClassFile.FieldType.long)]
set_option maxRecDepth 65536 in
theorem codes_eq : words1.filter isCode = codes1 := rfl
theorem w_codes : ∀ c ∈ words1.filter isCode, c.before args0 about1 = true := by
  rw [codes_eq]
  intro c hc
  simp only [codes1, List.mem_cons, List.not_mem_nil, or_false] at hc
  rcases hc with rfl | rfl | rfl | rfl | rfl | rfl
  · exact w_c0
  · exact w_c1
  · exact w_c2
  · exact w_c3
  · exact w_c4
  · exact w_c5
set_option maxRecDepth 65536 in
theorem w_t1 : (words1.take 24).all (fun c => isCode c || c.before args0 about1) = true := by decide +kernel
set_option maxRecDepth 65536 in
theorem w_t2 : (words1.drop 24).all (fun c => isCode c || c.before args0 about1) = true := by decide +kernel
theorem w_tables : (allAtoms (Jvm.Cond.code x code maxLocals ret :: tables_1)).before args0 about1 = true := by
  rw [allAtoms_all]
  show words1.all (fun c => c.before args0 about1) = true
  refine all_split ?_ w_codes
  rw [← List.take_append_drop 24 words1, List.all_append, w_t1, w_t2]
  rfl
set_option maxRecDepth 65536 in
theorem w_case : (Jvm.Cond.and given_1 narrow_1).before args0 about1 = true := by decide +kernel
theorem w_applies : (headSpec (Jvm.Cond.code x code maxLocals ret :: tables_1) room_1).applies x e0.platform about1 = true :=
  (Spec.applies_iff w_frames).mpr ⟨w_running, w_runnable, w_alone, w_named, w_hears, w_ripe, w_room, w_tables⟩
theorem atStart : AtStart classFile x code maxLocals ret World_1 tables_1 room_1 Calls_1 rest_1 Pre_1 launch0 p0 e0 about1 theMethod args0 below0 :=
  ⟨lists_1, trivial, launch0.admits_env _ _ _, launch0.least_env, fairChoices_fair.cas, fairChoices_fair.clock, w_frames, w_args, w_heap, w_applies, trivial, trivial, w_case⟩
end start1
theorem witness_1 : WitnessClaimed_1 := ⟨start1.p0, start1.e0, start1.about1, start1.theMethod, start1.args0, start1.below0, start1.atStart⟩
end Jvm.Pilot.@@N@@
