import JvmDerived
import JvmDerived.Pilot.@@N@@Statement
import JvmDerived.Pilot.@@N@@Code
set_option linter.unusedVariables false
set_option linter.unusedSimpArgs false
namespace Jvm.RoadKit
open Sem ClassFile Op Lib Jvm.Stand Jvm.Free Jvm.LawKit
section New
variable {p : Program} {l : Launch} {e : Env} {R : Room} {s : State} {m : MethodId} {args : Array Value} {below : List Frame} {meth : Method} {c : Code} {T : State} {locs : List Loc} {cells slots : Nat}
theorem retI (X : Stand p l e R s m args below meth c T locs cells slots) (hx : p.tables.exec = Jvm.exec) {pc : Nat} {Ls : Array Slot} {z : Int32} {rest : List Value} (hret : meth.sig.returnType = some .int) (hd : decode c.code pc = .ok (.ireturn, 1)) {fs : List Frame}
    (hl : ∀ (f : JFrame) (acts : List Action), f.method = m → f.locked = none → f.entered = [] → (doReturn e (T.setTop f) acts (some (.int z))).1 = T.setFrames fs) : Steps p.tables e below (T.setTop (mkF m pc Ls (.int z :: rest))) (T.setFrames fs) := by
  have hm' : T.vm.method? m = some meth := X.method'
  have hn : narrow .int (.int z) = .int z := rfl
  show Steps p.tables e below (T.setTop { method := m, pc := pc, locals := Ls, stack := _ :: rest, locked := none }) _
  jvm_step X.here [X.here.top, hx, hd, hm', hret, hn]
  first | (intro acts; rw [hl _ acts rfl rfl rfl]) | rw [hl _ _ rfl rfl rfl]
  exact Steps.refl _
end New
end Jvm.RoadKit
namespace Jvm.Pilot.@@N@@
open Jvm Jvm.ClassFile Sem Op Lib Jvm.Free Jvm.Stand Jvm.LawKit Jvm.RoadKit Bundle Jvm.Pilot.@@N@@.Jvm.D
theorem own_go {tb : Tables} {e : Env} {below : List Frame} {A B : State} {R : State → Outcome → Prop} (h : ∀ t, Steps tb e below B t → Steps tb e below A t) (k : ∃ s₂ o, Steps tb e below B s₂ ∧ R s₂ o) : ∃ s₂ o, Steps tb e below A s₂ ∧ R s₂ o := by
  obtain ⟨s₂, o, h1, h2⟩ := k
  exact ⟨s₂, o, h _ h1, h2⟩
theorem own_pd0 : parseMethodDescriptor "(II)I" = some ⟨[.int, .int], some .int⟩ := by decide +kernel
theorem own_pd1 : parseMethodDescriptor "([II)[I" = some ⟨[(.array .int), .int], some (.array .int)⟩ := by decide +kernel
theorem own_pd2 : parseMethodDescriptor "([IIIZIIZIIZII)Z" = some ⟨[(.array .int), .int, .int, .boolean, .int, .int, .boolean, .int, .int, .boolean, .int, .int], some .boolean⟩ := by decide +kernel
theorem own_pd3 : parseMethodDescriptor "(II)V" = some ⟨[.int, .int], none⟩ := by decide +kernel
theorem own_pd4 : parseMethodDescriptor "(I)[I" = some ⟨[.int], some (.array .int)⟩ := by decide +kernel
theorem d7_0 : decode jdk_29_method_69_code 0 = .ok (.iload_n 0, 1) := by decide +kernel
theorem d7_1 : decode jdk_29_method_69_code 1 = .ok (.iload_n 1, 1) := by decide +kernel
theorem d7_2 : decode jdk_29_method_69_code 2 = .ok (.if_icmp .gt 7, 3) := by decide +kernel
theorem d7_5 : decode jdk_29_method_69_code 5 = .ok (.iload_n 0, 1) := by decide +kernel
theorem d7_6 : decode jdk_29_method_69_code 6 = .ok (.goto 4, 3) := by decide +kernel
theorem d7_9 : decode jdk_29_method_69_code 9 = .ok (.iload_n 1, 1) := by decide +kernel
theorem d7_10 : decode jdk_29_method_69_code 10 = .ok (.ireturn, 1) := by decide +kernel
theorem ef_7 (m : MethodId) (x0 : Int32) (x1 : Int32) : entryFrame m #[(.int x0), (.int x1)] 2 = mkF m 0 #[.val (.int x0), .val (.int x1)] [] := by first | (simp [entryFrame, mkF, argsToLocals, Value.category]; done) | rfl
def Q7 (Z : State) (u1 : Int32) (u2 : Int32) (r1 : Int32) (h0 : Heap) (n0 : Nat) (v : Option Value) (h : Heap) (L : List Loc) : Prop := v = some (.int r1) ∧ Fr n0 L ∧ h = h0
set_option maxRecDepth 65536 in
set_option maxHeartbeats 40000000 in
theorem rm7 (l : Launch) (Z : State) (a0 : Array Value) (hw : ∀ d ∈ tables_1, d.before a0 Z = true) (ws : List Jvm.Cond) (u1 : Int32) (u2 : Int32) (r1 : Int32) (h0 : Heap) (n0 : Nat) (Z0 : n0 ≤ h0.size) (hr1 : r1 = (if u2 < u1 then u2 else u1)) :
    MetFree l (⟨"java/lang/Math", "min", "(II)I"⟩ : MethodName) (head1 (Jvm.Cond.code (⟨"java/lang/Math", "min", "(II)I"⟩ : MethodName) jdk_29_method_69_code 2 (some .int) :: ws) ({ frames := 0, cells := 0, slots := 0, locals := 0 } : Room)) (fun a U => a = #[(.int u1), (.int u2)] ∧ Z.Warmed39 U.vm ∧ U.heap = h0) (fun _ _ _ _ _ => True) (fun _ U o U' => ∃ v L, o = .returned v ∧ Q7 Z u1 u2 r1 h0 n0 v U'.heap L ∧ FrameEnd U o U' L ({ frames := 0, cells := 0, slots := 0, locals := 0 } : Room).cells ({ frames := 0, cells := 0, slots := 0, locals := 0 } : Room).slots) := by
  refine MetFree.of_bodySF (Jvm.Free.JP.mathPlain rfl (by decide +kernel)) hisR ?_
  intro p e s m args below meth c s₁ Bd hml0 hP hK
  obtain ⟨rfl, hZ, hh⟩ := hP
  have hx := Bd.exec
  have hby := Bd.bytes
  have hml : c.maxLocals = 2 := hml0
  have hown : s.vm.findClass "java/lang/Math" = some m.cls := findClass_of_methodNamed Bd.named
  have hnm := (name_of_methodNamed Bd.named Bd.method).1
  have X0 : Stand p l e ({ frames := 0, cells := 0, slots := 0, locals := 0 } : Room) s m #[(.int u1), (.int u2)] below meth c s₁ [] 0 0 := Stand.of_body Bd
  have e0 : s₁.heap = h0 := by rw [← hh, Bd.state]; rfl
  have N0 := Fr.nil n0
  refine own_go (B := s₁.setTop (mkF m 0 #[.val (.int u1), .val (.int u2)] [])) (fun t k => castTop (ef_7 m u1 u2) k) ?_
  refine own_go (B := s₁.setTop (mkF m 2 #[.val (.int u1), .val (.int u2)] [(.int u2), (.int u1)])) (fun t k => ?_) ?_
  · show Steps p.tables e below (s₁.setTop (mkF m 0 #[.val (.int u1), .val (.int u2)] [])) _
    refine XS.iloadN X0.here hx rfl (hb hby d7_0) rfl ?_
    show Steps p.tables e below (s₁.setTop (mkF m 1 #[.val (.int u1), .val (.int u2)] [(.int u1)])) _
    refine XS.iloadN X0.here hx rfl (hb hby d7_1) rfl ?_
    exact k
  by_cases hc2_1 : u2 < u1
  · obtain ⟨fs, hr, hrun, hended, hW, hsame⟩ := X0.leave (v := some (.int u2)) (fun h => by rw [Bd.returns] at h; cases h)
    refine ⟨_, _, ?_, hrun, hended, _, _, rfl, ?_, ⟨_, rfl⟩, hW, hsame.mono (by decide) (by decide)⟩
    · show Steps p.tables e below (s₁.setTop (mkF m 2 #[.val (.int u1), .val (.int u2)] [(.int u2), (.int u1)])) _
      refine XS.icmpYes X0.here hx rfl (pc0 := 2) (pc' := 9) rfl (hb hby d7_2) rfl (tlt hc2_1).2.2.1 (by decide) (by decide) ?_
      show Steps p.tables e below (s₁.setTop (mkF m 9 #[.val (.int u1), .val (.int u2)] [])) _
      refine XS.iloadN X0.here hx rfl (hb hby d7_9) rfl ?_
      show Steps p.tables e below (s₁.setTop (mkF m 10 #[.val (.int u1), .val (.int u2)] [(.int u2)])) _
      exact retI X0 hx Bd.returns (hb hby d7_10) hr
    · show Q7 Z u1 u2 r1 h0 n0 _ s₁.heap _
      rw [e0]
      exact ⟨by rw [hr1, if_pos hc2_1], N0, rfl⟩
  · obtain ⟨fs, hr, hrun, hended, hW, hsame⟩ := X0.leave (v := some (.int u1)) (fun h => by rw [Bd.returns] at h; cases h)
    refine ⟨_, _, ?_, hrun, hended, _, _, rfl, ?_, ⟨_, rfl⟩, hW, hsame.mono (by decide) (by decide)⟩
    · show Steps p.tables e below (s₁.setTop (mkF m 2 #[.val (.int u1), .val (.int u2)] [(.int u2), (.int u1)])) _
      refine XS.icmpNo X0.here hx rfl (hb hby d7_2) rfl (flt hc2_1).2.2.1 ?_
      show Steps p.tables e below (s₁.setTop (mkF m 5 #[.val (.int u1), .val (.int u2)] [])) _
      refine XS.iloadN X0.here hx rfl (hb hby d7_5) rfl ?_
      show Steps p.tables e below (s₁.setTop (mkF m 6 #[.val (.int u1), .val (.int u2)] [(.int u1)])) _
      refine XS.goto X0.here hx rfl (pc0 := 6) (pc' := 10) rfl (hb hby d7_6) (by decide) (by decide) ?_
      show Steps p.tables e below (s₁.setTop (mkF m 10 #[.val (.int u1), .val (.int u2)] [(.int u1)])) _
      exact retI X0 hx Bd.returns (hb hby d7_10) hr
    · show Q7 Z u1 u2 r1 h0 n0 _ s₁.heap _
      rw [e0]
      exact ⟨by rw [hr1, if_neg hc2_1], N0, rfl⟩
theorem pn_6 : plainName "java/util/Arrays" = true := by first | (simp [plainName, overriddenIn]; done) | decide +kernel
theorem d6_0 : decode jdk_65_method_123_code 0 = .ok (.iload_n 1, 1) := by decide +kernel
theorem d6_1 : decode jdk_65_method_123_code 1 = .ok (.aload_n 0, 1) := by decide +kernel
theorem d6_2 : decode jdk_65_method_123_code 2 = .ok (.arraylength, 1) := by decide +kernel
theorem d6_3 : decode jdk_65_method_123_code 3 = .ok (.if_icmp .ne 11, 3) := by decide +kernel
theorem d6_14 : decode jdk_65_method_123_code 14 = .ok (.iload_n 1, 1) := by decide +kernel
theorem d6_15 : decode jdk_65_method_123_code 15 = .ok (.newarray .int, 2) := by decide +kernel
theorem d6_17 : decode jdk_65_method_123_code 17 = .ok (.astore_n 2, 1) := by decide +kernel
theorem d6_18 : decode jdk_65_method_123_code 18 = .ok (.aload_n 0, 1) := by decide +kernel
theorem d6_19 : decode jdk_65_method_123_code 19 = .ok (.iconst 0, 1) := by decide +kernel
theorem d6_20 : decode jdk_65_method_123_code 20 = .ok (.aload_n 2, 1) := by decide +kernel
theorem d6_21 : decode jdk_65_method_123_code 21 = .ok (.iconst 0, 1) := by decide +kernel
theorem d6_22 : decode jdk_65_method_123_code 22 = .ok (.aload_n 0, 1) := by decide +kernel
theorem d6_23 : decode jdk_65_method_123_code 23 = .ok (.arraylength, 1) := by decide +kernel
theorem d6_24 : decode jdk_65_method_123_code 24 = .ok (.iload_n 1, 1) := by decide +kernel
theorem d6_25 : decode jdk_65_method_123_code 25 = .ok (.invokestatic 304, 3) := by decide +kernel
theorem d6_28 : decode jdk_65_method_123_code 28 = .ok (.invokestatic 150, 3) := by decide +kernel
theorem d6_31 : decode jdk_65_method_123_code 31 = .ok (.aload_n 2, 1) := by decide +kernel
theorem d6_32 : decode jdk_65_method_123_code 32 = .ok (.areturn, 1) := by decide +kernel
theorem ef_6 (m : MethodId) (x0 : Addr) (x1 : Int32) : entryFrame m #[(.ref x0), (.int x1)] 3 = mkF m 0 #[.val (.ref x0), .val (.int x1), .unset] [] := by first | (simp [entryFrame, mkF, argsToLocals, Value.category]; done) | rfl
def Q6_1 (Z : State) (a1 : Addr) (ka : ClassId) (x0 : Int32) (h0 : Heap) (n0 : Nat) (v : Option Value) (h : Heap) (L : List Loc) : Prop := ∃ (b : Addr) (kb : ClassId), v = some (.ref b) ∧ Fr n0 L ∧ Keep h0 h [] ∧ h0.size ≤ b ∧ n0 ≤ b ∧ Arv Z h b kb .int (2 : Int32) [(.int x0), (.int (0 : Int32))] (.int (0 : Int32))
set_option maxRecDepth 65536 in
set_option maxHeartbeats 40000000 in
theorem rm6_1 (l : Launch) (Z : State) (a0 : Array Value) (hw : ∀ d ∈ tables_1, d.before a0 Z = true) (ws : List Jvm.Cond) (a1 : Addr) (ka : ClassId) (x0 : Int32) (h0 : Heap) (n0 : Nat) (Z0 : n0 ≤ h0.size) (V_a : Arv Z h0 a1 ka .int (1 : Int32) [(.int x0)] (.int (0 : Int32))) :
    MetFree l (⟨"java/util/Arrays", "copyOf", "([II)[I"⟩ : MethodName) (head1 (Jvm.Cond.code (⟨"java/util/Arrays", "copyOf", "([II)[I"⟩ : MethodName) jdk_65_method_123_code 3 (some (.array .int)) :: ws) ({ frames := 1, cells := 1, slots := 2, locals := 40 } : Room)) (fun a U => a = #[(.ref a1), (.int (2 : Int32))] ∧ Z.Warmed39 U.vm ∧ U.heap = h0) (fun _ _ _ _ _ => True) (fun _ U o U' => ∃ v L, o = .returned v ∧ Q6_1 Z a1 ka x0 h0 n0 v U'.heap L ∧ FrameEnd U o U' L ({ frames := 1, cells := 1, slots := 2, locals := 40 } : Room).cells ({ frames := 1, cells := 1, slots := 2, locals := 40 } : Room).slots) := by
  refine MetFree.of_bodySF (plainFor_of_name pn_6) hisR ?_
  intro p e s m args below meth c s₁ Bd hml0 hP hK
  obtain ⟨rfl, hZ, hh⟩ := hP
  have hx := Bd.exec
  have hby := Bd.bytes
  have hml : c.maxLocals = 3 := hml0
  have hown : s.vm.findClass "java/util/Arrays" = some m.cls := findClass_of_methodNamed Bd.named
  have hnm := (name_of_methodNamed Bd.named Bd.method).1
  have X0 : Stand p l e ({ frames := 1, cells := 1, slots := 2, locals := 40 } : Room) s m #[(.ref a1), (.int (2 : Int32))] below meth c s₁ [] 0 0 := Stand.of_body Bd
  have e0 : s₁.heap = h0 := by rw [← hh, Bd.state]; rfl
  have N0 := Fr.nil n0
  refine own_go (B := s₁.setTop (mkF m 0 #[.val (.ref a1), .val (.int (2 : Int32)), .unset] [])) (fun t k => castTop (ef_6 m a1 (2 : Int32)) k) ?_
  obtain ⟨cl1, Ar1, qk1, S1, M1, H1, G1⟩ := id V_a
  refine own_go (B := s₁.setTop (mkF m 15 #[.val (.ref a1), .val (.int (2 : Int32)), .unset] [(.int (2 : Int32))])) (fun t k => ?_) ?_
  · show Steps p.tables e below (s₁.setTop (mkF m 0 #[.val (.ref a1), .val (.int (2 : Int32)), .unset] [])) _
    refine XS.iloadN X0.here hx rfl (hb hby d6_0) rfl ?_
    show Steps p.tables e below (s₁.setTop (mkF m 1 #[.val (.ref a1), .val (.int (2 : Int32)), .unset] [(.int (2 : Int32))])) _
    refine XS.aloadN X0.here hx rfl (hb hby d6_1) rfl rfl ?_
    show Steps p.tables e below (s₁.setTop (mkF m 2 #[.val (.ref a1), .val (.int (2 : Int32)), .unset] [(.ref a1), (.int (2 : Int32))])) _
    refine X0.arraylength hx (by rw [e0]; exact Ar1.1) (State.isArrayOf_alike hZ.alike Ar1.2.1) (g := (mkF m 2 #[.val (.ref a1), .val (.int (2 : Int32)), .unset] [(.ref a1), (.int (2 : Int32))])) rfl rfl (hb hby d6_2) _ ?_
    rw [len_of S1 M1]
    show Steps p.tables e below (s₁.setTop (mkF m 3 #[.val (.ref a1), .val (.int (2 : Int32)), .unset] [(.int (1 : Int32)), (.int (2 : Int32))])) _
    refine XS.icmpYes X0.here hx rfl (pc0 := 3) (pc' := 14) rfl (hb hby d6_3) rfl (feq (by decide)).2 (by decide) (by decide) ?_
    show Steps p.tables e below (s₁.setTop (mkF m 14 #[.val (.ref a1), .val (.int (2 : Int32)), .unset] [])) _
    refine XS.iloadN X0.here hx rfl (hb hby d6_14) rfl ?_
    exact k
  obtain ⟨T2, h2, k2, X2, e2, E2, A2, st2⟩ := newP X0 hx hZ (hw _ (List.mem_of_getElem? (i := 12) rfl)) e0 (g := (mkF m 15 #[.val (.ref a1), .val (.int (2 : Int32)), .unset] [(.int (2 : Int32))])) rfl (hb hby d6_15) rfl (by decide) (cap := 2) (by decide) (by decide) (by decide) (by decide)
  obtain ⟨b2, g2⟩ : ∃ z, z = h0.size := ⟨_, rfl⟩
  rw [← g2] at A2 st2
  have g_b2 : n0 ≤ b2 := Nat.le_trans Z0 (Nat.le_of_eq g2.symm)
  have sz_b2 : h0.size ≤ b2 := Nat.le_trans (Keep.refl h0 []).1 (Nat.le_of_eq g2.symm)
  have ne_a1_b2 : a1 ≠ b2 := Nat.ne_of_lt (Nat.lt_of_lt_of_le V_a.lt (Nat.le_of_eq g2.symm))
  have c2_V_a1 := V_a.ext E2
  have K2 := (Keep.refl h0 []).ext E2
  have V2 : Arv Z h2 b2 k2 .int (2 : Int32) [(.int (0 : Int32)), (.int (0 : Int32))] (.int (0 : Int32)) := (Arv.new A2 (by decide)).pad (pad_rep [] (.int (0 : Int32)) 2)
  refine own_go (B := T2.setTop (mkF m 17 #[.val (.ref a1), .val (.int (2 : Int32)), .unset] [(.ref b2)])) (fun t k => st2 _ k) ?_
  obtain ⟨cl3, Ar3, qk3, S3, M3, H3, G3⟩ := id c2_V_a1
  refine own_go (B := T2.setTop (mkF m 25 #[.val (.ref a1), .val (.int (2 : Int32)), .val (.ref b2)] [(.int (2 : Int32)), (.int (1 : Int32)), (.int (0 : Int32)), (.ref b2), (.int (0 : Int32)), (.ref a1)])) (fun t k => ?_) ?_
  · show Steps p.tables e below (T2.setTop (mkF m 17 #[.val (.ref a1), .val (.int (2 : Int32)), .unset] [(.ref b2)])) _
    refine XS.astoreN X2.here hx rfl (hb hby d6_17) rfl rfl (l' := #[.val (.ref a1), .val (.int (2 : Int32)), .val (.ref b2)]) rfl ?_
    show Steps p.tables e below (T2.setTop (mkF m 18 #[.val (.ref a1), .val (.int (2 : Int32)), .val (.ref b2)] [])) _
    refine XS.aloadN X2.here hx rfl (hb hby d6_18) rfl rfl ?_
    show Steps p.tables e below (T2.setTop (mkF m 19 #[.val (.ref a1), .val (.int (2 : Int32)), .val (.ref b2)] [(.ref a1)])) _
    refine XS.iconst X2.here hx rfl (hb hby d6_19) ?_
    show Steps p.tables e below (T2.setTop (mkF m 20 #[.val (.ref a1), .val (.int (2 : Int32)), .val (.ref b2)] [(.int (0 : Int32)), (.ref a1)])) _
    refine XS.aloadN X2.here hx rfl (hb hby d6_20) rfl rfl ?_
    show Steps p.tables e below (T2.setTop (mkF m 21 #[.val (.ref a1), .val (.int (2 : Int32)), .val (.ref b2)] [(.ref b2), (.int (0 : Int32)), (.ref a1)])) _
    refine XS.iconst X2.here hx rfl (hb hby d6_21) ?_
    show Steps p.tables e below (T2.setTop (mkF m 22 #[.val (.ref a1), .val (.int (2 : Int32)), .val (.ref b2)] [(.int (0 : Int32)), (.ref b2), (.int (0 : Int32)), (.ref a1)])) _
    refine XS.aloadN X2.here hx rfl (hb hby d6_22) rfl rfl ?_
    show Steps p.tables e below (T2.setTop (mkF m 23 #[.val (.ref a1), .val (.int (2 : Int32)), .val (.ref b2)] [(.ref a1), (.int (0 : Int32)), (.ref b2), (.int (0 : Int32)), (.ref a1)])) _
    refine X2.arraylength hx (by rw [e2]; exact Ar3.1) (State.isArrayOf_alike hZ.alike Ar3.2.1) (g := (mkF m 23 #[.val (.ref a1), .val (.int (2 : Int32)), .val (.ref b2)] [(.ref a1), (.int (0 : Int32)), (.ref b2), (.int (0 : Int32)), (.ref a1)])) rfl rfl (hb hby d6_23) _ ?_
    rw [len_of S3 M3]
    show Steps p.tables e below (T2.setTop (mkF m 24 #[.val (.ref a1), .val (.int (2 : Int32)), .val (.ref b2)] [(.int (1 : Int32)), (.int (0 : Int32)), (.ref b2), (.int (0 : Int32)), (.ref a1)])) _
    refine XS.iloadN X2.here hx rfl (hb hby d6_24) rfl ?_
    exact k
  obtain ⟨_, _, ⟨T4, L4, k4, n4⟩, -, X4, ⟨Lc4, hQ4, l4, y4, z4⟩, st4⟩ := Jvm.LawKit.callS X2 hx (y := (⟨"java/lang/Math", "min", "(II)I"⟩ : MethodName)) hown (mvT hZ (hw _ (List.mem_of_getElem? (i := 39) rfl))) (mvT hZ (hw _ (List.mem_of_getElem? (i := 40) rfl))) (mvT hZ (hw _ (List.mem_of_getElem? (i := 41) rfl))) (mvT hZ (hw _ (List.mem_of_getElem? (i := 42) rfl))) (by decide) (backOf (W := 4) (rm7 l Z a0 hw [] (1 : Int32) (2 : Int32) (1 : Int32) h2 n0 (Nat.le_trans Z0 E2.1) (by decide)) hZ (hw _ (List.mem_of_getElem? (i := 42) rfl)) (hw _ (List.mem_of_getElem? (i := 41) rfl)) (by decide) (by decide)) (g := (mkF m 25 #[.val (.ref a1), .val (.int (2 : Int32)), .val (.ref b2)] [(.int (2 : Int32)), (.int (1 : Int32)), (.int (0 : Int32)), (.ref b2), (.int (0 : Int32)), (.ref a1)])) rfl (by rw [hml]; rfl) (argsL := [(.int (1 : Int32)), (.int (2 : Int32))]) (rest := [(.int (0 : Int32)), (.ref b2), (.int (0 : Int32)), (.ref a1)]) (lenOf own_pd0 rfl) rfl (by show 2 * 0 + _ ≤ _; exact Nat.le_of_eq rfl) (hb hby d6_25) (fun _ _ => ⟨rfl, e2, (by decide : 1 + 0 ≤ _), (by decide : 2 + 0 ≤ _)⟩)
  dsimp only [Pt.U, Pt.locs, Pt.cells, Pt.slots] at X4 l4 y4 z4 st4 hQ4
  subst l4 y4 z4
  obtain ⟨rfl, N4q, eq4⟩ := hQ4
  have N4 := Fr.app N0 N4q
  refine own_go (B := T4.setTop (mkF m 28 #[.val (.ref a1), .val (.int (2 : Int32)), .val (.ref b2)] [(.int (1 : Int32)), (.int (0 : Int32)), (.ref b2), (.int (0 : Int32)), (.ref a1)])) (fun t k => st4 _ k) ?_
  obtain ⟨T5, h5, L5, X5, e5, N5, K5q, V5q, st5⟩ := cpA X4 hx hZ hown (hw _ (List.mem_of_getElem? (i := 43) rfl)) (hw _ (List.mem_of_getElem? (i := 46) rfl)) (hw _ (List.mem_of_getElem? (i := 44) rfl)) (hw _ (List.mem_of_getElem? (i := 45) rfl)) eq4 c2_V_a1 V2 (us := [(.int x0)]) (Or.inl ⟨rfl, rfl⟩) (by decide) (by decide) (by decide) (by decide) (by decide) rfl (by decide) N4 g_b2 (g := (mkF m 28 #[.val (.ref a1), .val (.int (2 : Int32)), .val (.ref b2)] [(.int (1 : Int32)), (.int (0 : Int32)), (.ref b2), (.int (0 : Int32)), (.ref a1)])) rfl (by rw [hml]; rfl) (rest := []) rfl (hb hby d6_28) (by decide) (W := 0) (by show 2 * 0 + _ ≤ _; exact Nat.le_of_eq rfl) (by decide)
  have V5 : Arv Z h5 b2 k2 .int (2 : Int32) [(.int x0), (.int (0 : Int32))] (.int (0 : Int32)) := V5q
  have c5_V_a1 := c2_V_a1.keep K5q (fun q => ne_a1_b2 (List.mem_singleton.mp q))
  have K5 := K2.trans K5q (allS (Or.inr sz_b2) all0)
  refine own_go (B := T5.setTop (mkF m 31 #[.val (.ref a1), .val (.int (2 : Int32)), .val (.ref b2)] [])) (fun t k => st5 _ k) ?_
  obtain ⟨fs, hr, hrun, hended, hW, hsame⟩ := X5.leave (v := some (.ref b2)) (fun h => by rw [Bd.returns] at h; cases h)
  refine ⟨_, _, ?_, hrun, hended, _, _, rfl, ?_, ⟨_, rfl⟩, hW, hsame.mono (by decide) (by decide)⟩
  · show Steps p.tables e below (T5.setTop (mkF m 31 #[.val (.ref a1), .val (.int (2 : Int32)), .val (.ref b2)] [])) _
    refine XS.aloadN X5.here hx rfl (hb hby d6_31) rfl rfl ?_
    show Steps p.tables e below (T5.setTop (mkF m 32 #[.val (.ref a1), .val (.int (2 : Int32)), .val (.ref b2)] [(.ref b2)])) _
    jvm_step X5.here [X5.here.top, hx, (hb hby d6_32), X5.method', Bd.returns, Value.isRef, FieldType.isReference]
    first | (intro acts; rw [hr _ acts rfl rfl rfl]) | rw [hr _ _ rfl rfl rfl]
    exact Steps.refl _
  · show Q6_1 Z a1 ka x0 h0 n0 _ T5.heap _
    rw [e5]
    exact ⟨b2, k2, rfl, N5, K5, sz_b2, g_b2, V5⟩
def Q6_2 (Z : State) (a1 : Addr) (ka : ClassId) (x0 : Int32) (x1 : Int32) (h0 : Heap) (n0 : Nat) (v : Option Value) (h : Heap) (L : List Loc) : Prop := ∃ (b : Addr) (kb : ClassId), v = some (.ref b) ∧ Fr n0 L ∧ Keep h0 h [] ∧ h0.size ≤ b ∧ n0 ≤ b ∧ Arv Z h b kb .int (4 : Int32) [(.int x0), (.int x1), (.int (0 : Int32)), (.int (0 : Int32))] (.int (0 : Int32))
set_option maxRecDepth 65536 in
set_option maxHeartbeats 40000000 in
theorem rm6_2 (l : Launch) (Z : State) (a0 : Array Value) (hw : ∀ d ∈ tables_1, d.before a0 Z = true) (ws : List Jvm.Cond) (a1 : Addr) (ka : ClassId) (x0 : Int32) (x1 : Int32) (h0 : Heap) (n0 : Nat) (Z0 : n0 ≤ h0.size) (V_a : Arv Z h0 a1 ka .int (2 : Int32) [(.int x0), (.int x1)] (.int (0 : Int32))) :
    MetFree l (⟨"java/util/Arrays", "copyOf", "([II)[I"⟩ : MethodName) (head1 (Jvm.Cond.code (⟨"java/util/Arrays", "copyOf", "([II)[I"⟩ : MethodName) jdk_65_method_123_code 3 (some (.array .int)) :: ws) ({ frames := 1, cells := 1, slots := 4, locals := 40 } : Room)) (fun a U => a = #[(.ref a1), (.int (4 : Int32))] ∧ Z.Warmed39 U.vm ∧ U.heap = h0) (fun _ _ _ _ _ => True) (fun _ U o U' => ∃ v L, o = .returned v ∧ Q6_2 Z a1 ka x0 x1 h0 n0 v U'.heap L ∧ FrameEnd U o U' L ({ frames := 1, cells := 1, slots := 4, locals := 40 } : Room).cells ({ frames := 1, cells := 1, slots := 4, locals := 40 } : Room).slots) := by
  refine MetFree.of_bodySF (plainFor_of_name pn_6) hisR ?_
  intro p e s m args below meth c s₁ Bd hml0 hP hK
  obtain ⟨rfl, hZ, hh⟩ := hP
  have hx := Bd.exec
  have hby := Bd.bytes
  have hml : c.maxLocals = 3 := hml0
  have hown : s.vm.findClass "java/util/Arrays" = some m.cls := findClass_of_methodNamed Bd.named
  have hnm := (name_of_methodNamed Bd.named Bd.method).1
  have X0 : Stand p l e ({ frames := 1, cells := 1, slots := 4, locals := 40 } : Room) s m #[(.ref a1), (.int (4 : Int32))] below meth c s₁ [] 0 0 := Stand.of_body Bd
  have e0 : s₁.heap = h0 := by rw [← hh, Bd.state]; rfl
  have N0 := Fr.nil n0
  refine own_go (B := s₁.setTop (mkF m 0 #[.val (.ref a1), .val (.int (4 : Int32)), .unset] [])) (fun t k => castTop (ef_6 m a1 (4 : Int32)) k) ?_
  obtain ⟨cl1, Ar1, qk1, S1, M1, H1, G1⟩ := id V_a
  refine own_go (B := s₁.setTop (mkF m 15 #[.val (.ref a1), .val (.int (4 : Int32)), .unset] [(.int (4 : Int32))])) (fun t k => ?_) ?_
  · show Steps p.tables e below (s₁.setTop (mkF m 0 #[.val (.ref a1), .val (.int (4 : Int32)), .unset] [])) _
    refine XS.iloadN X0.here hx rfl (hb hby d6_0) rfl ?_
    show Steps p.tables e below (s₁.setTop (mkF m 1 #[.val (.ref a1), .val (.int (4 : Int32)), .unset] [(.int (4 : Int32))])) _
    refine XS.aloadN X0.here hx rfl (hb hby d6_1) rfl rfl ?_
    show Steps p.tables e below (s₁.setTop (mkF m 2 #[.val (.ref a1), .val (.int (4 : Int32)), .unset] [(.ref a1), (.int (4 : Int32))])) _
    refine X0.arraylength hx (by rw [e0]; exact Ar1.1) (State.isArrayOf_alike hZ.alike Ar1.2.1) (g := (mkF m 2 #[.val (.ref a1), .val (.int (4 : Int32)), .unset] [(.ref a1), (.int (4 : Int32))])) rfl rfl (hb hby d6_2) _ ?_
    rw [len_of S1 M1]
    show Steps p.tables e below (s₁.setTop (mkF m 3 #[.val (.ref a1), .val (.int (4 : Int32)), .unset] [(.int (2 : Int32)), (.int (4 : Int32))])) _
    refine XS.icmpYes X0.here hx rfl (pc0 := 3) (pc' := 14) rfl (hb hby d6_3) rfl (feq (by decide)).2 (by decide) (by decide) ?_
    show Steps p.tables e below (s₁.setTop (mkF m 14 #[.val (.ref a1), .val (.int (4 : Int32)), .unset] [])) _
    refine XS.iloadN X0.here hx rfl (hb hby d6_14) rfl ?_
    exact k
  obtain ⟨T2, h2, k2, X2, e2, E2, A2, st2⟩ := newP X0 hx hZ (hw _ (List.mem_of_getElem? (i := 12) rfl)) e0 (g := (mkF m 15 #[.val (.ref a1), .val (.int (4 : Int32)), .unset] [(.int (4 : Int32))])) rfl (hb hby d6_15) rfl (by decide) (cap := 4) (by decide) (by decide) (by decide) (by decide)
  obtain ⟨b2, g2⟩ : ∃ z, z = h0.size := ⟨_, rfl⟩
  rw [← g2] at A2 st2
  have g_b2 : n0 ≤ b2 := Nat.le_trans Z0 (Nat.le_of_eq g2.symm)
  have sz_b2 : h0.size ≤ b2 := Nat.le_trans (Keep.refl h0 []).1 (Nat.le_of_eq g2.symm)
  have ne_a1_b2 : a1 ≠ b2 := Nat.ne_of_lt (Nat.lt_of_lt_of_le V_a.lt (Nat.le_of_eq g2.symm))
  have c2_V_a1 := V_a.ext E2
  have K2 := (Keep.refl h0 []).ext E2
  have V2 : Arv Z h2 b2 k2 .int (4 : Int32) [(.int (0 : Int32)), (.int (0 : Int32)), (.int (0 : Int32)), (.int (0 : Int32))] (.int (0 : Int32)) := (Arv.new A2 (by decide)).pad (pad_rep [] (.int (0 : Int32)) 4)
  refine own_go (B := T2.setTop (mkF m 17 #[.val (.ref a1), .val (.int (4 : Int32)), .unset] [(.ref b2)])) (fun t k => st2 _ k) ?_
  obtain ⟨cl3, Ar3, qk3, S3, M3, H3, G3⟩ := id c2_V_a1
  refine own_go (B := T2.setTop (mkF m 25 #[.val (.ref a1), .val (.int (4 : Int32)), .val (.ref b2)] [(.int (4 : Int32)), (.int (2 : Int32)), (.int (0 : Int32)), (.ref b2), (.int (0 : Int32)), (.ref a1)])) (fun t k => ?_) ?_
  · show Steps p.tables e below (T2.setTop (mkF m 17 #[.val (.ref a1), .val (.int (4 : Int32)), .unset] [(.ref b2)])) _
    refine XS.astoreN X2.here hx rfl (hb hby d6_17) rfl rfl (l' := #[.val (.ref a1), .val (.int (4 : Int32)), .val (.ref b2)]) rfl ?_
    show Steps p.tables e below (T2.setTop (mkF m 18 #[.val (.ref a1), .val (.int (4 : Int32)), .val (.ref b2)] [])) _
    refine XS.aloadN X2.here hx rfl (hb hby d6_18) rfl rfl ?_
    show Steps p.tables e below (T2.setTop (mkF m 19 #[.val (.ref a1), .val (.int (4 : Int32)), .val (.ref b2)] [(.ref a1)])) _
    refine XS.iconst X2.here hx rfl (hb hby d6_19) ?_
    show Steps p.tables e below (T2.setTop (mkF m 20 #[.val (.ref a1), .val (.int (4 : Int32)), .val (.ref b2)] [(.int (0 : Int32)), (.ref a1)])) _
    refine XS.aloadN X2.here hx rfl (hb hby d6_20) rfl rfl ?_
    show Steps p.tables e below (T2.setTop (mkF m 21 #[.val (.ref a1), .val (.int (4 : Int32)), .val (.ref b2)] [(.ref b2), (.int (0 : Int32)), (.ref a1)])) _
    refine XS.iconst X2.here hx rfl (hb hby d6_21) ?_
    show Steps p.tables e below (T2.setTop (mkF m 22 #[.val (.ref a1), .val (.int (4 : Int32)), .val (.ref b2)] [(.int (0 : Int32)), (.ref b2), (.int (0 : Int32)), (.ref a1)])) _
    refine XS.aloadN X2.here hx rfl (hb hby d6_22) rfl rfl ?_
    show Steps p.tables e below (T2.setTop (mkF m 23 #[.val (.ref a1), .val (.int (4 : Int32)), .val (.ref b2)] [(.ref a1), (.int (0 : Int32)), (.ref b2), (.int (0 : Int32)), (.ref a1)])) _
    refine X2.arraylength hx (by rw [e2]; exact Ar3.1) (State.isArrayOf_alike hZ.alike Ar3.2.1) (g := (mkF m 23 #[.val (.ref a1), .val (.int (4 : Int32)), .val (.ref b2)] [(.ref a1), (.int (0 : Int32)), (.ref b2), (.int (0 : Int32)), (.ref a1)])) rfl rfl (hb hby d6_23) _ ?_
    rw [len_of S3 M3]
    show Steps p.tables e below (T2.setTop (mkF m 24 #[.val (.ref a1), .val (.int (4 : Int32)), .val (.ref b2)] [(.int (2 : Int32)), (.int (0 : Int32)), (.ref b2), (.int (0 : Int32)), (.ref a1)])) _
    refine XS.iloadN X2.here hx rfl (hb hby d6_24) rfl ?_
    exact k
  obtain ⟨_, _, ⟨T4, L4, k4, n4⟩, -, X4, ⟨Lc4, hQ4, l4, y4, z4⟩, st4⟩ := Jvm.LawKit.callS X2 hx (y := (⟨"java/lang/Math", "min", "(II)I"⟩ : MethodName)) hown (mvT hZ (hw _ (List.mem_of_getElem? (i := 39) rfl))) (mvT hZ (hw _ (List.mem_of_getElem? (i := 40) rfl))) (mvT hZ (hw _ (List.mem_of_getElem? (i := 41) rfl))) (mvT hZ (hw _ (List.mem_of_getElem? (i := 42) rfl))) (by decide) (backOf (W := 4) (rm7 l Z a0 hw [] (2 : Int32) (4 : Int32) (2 : Int32) h2 n0 (Nat.le_trans Z0 E2.1) (by decide)) hZ (hw _ (List.mem_of_getElem? (i := 42) rfl)) (hw _ (List.mem_of_getElem? (i := 41) rfl)) (by decide) (by decide)) (g := (mkF m 25 #[.val (.ref a1), .val (.int (4 : Int32)), .val (.ref b2)] [(.int (4 : Int32)), (.int (2 : Int32)), (.int (0 : Int32)), (.ref b2), (.int (0 : Int32)), (.ref a1)])) rfl (by rw [hml]; rfl) (argsL := [(.int (2 : Int32)), (.int (4 : Int32))]) (rest := [(.int (0 : Int32)), (.ref b2), (.int (0 : Int32)), (.ref a1)]) (lenOf own_pd0 rfl) rfl (by show 2 * 0 + _ ≤ _; exact Nat.le_of_eq rfl) (hb hby d6_25) (fun _ _ => ⟨rfl, e2, (by decide : 1 + 0 ≤ _), (by decide : 4 + 0 ≤ _)⟩)
  dsimp only [Pt.U, Pt.locs, Pt.cells, Pt.slots] at X4 l4 y4 z4 st4 hQ4
  subst l4 y4 z4
  obtain ⟨rfl, N4q, eq4⟩ := hQ4
  have N4 := Fr.app N0 N4q
  refine own_go (B := T4.setTop (mkF m 28 #[.val (.ref a1), .val (.int (4 : Int32)), .val (.ref b2)] [(.int (2 : Int32)), (.int (0 : Int32)), (.ref b2), (.int (0 : Int32)), (.ref a1)])) (fun t k => st4 _ k) ?_
  obtain ⟨T5, h5, L5, X5, e5, N5, K5q, V5q, st5⟩ := cpA X4 hx hZ hown (hw _ (List.mem_of_getElem? (i := 43) rfl)) (hw _ (List.mem_of_getElem? (i := 46) rfl)) (hw _ (List.mem_of_getElem? (i := 44) rfl)) (hw _ (List.mem_of_getElem? (i := 45) rfl)) eq4 c2_V_a1 V2 (us := [(.int x0), (.int x1)]) (Or.inl ⟨rfl, rfl⟩) (by decide) (by decide) (by decide) (by decide) (by decide) rfl (by decide) N4 g_b2 (g := (mkF m 28 #[.val (.ref a1), .val (.int (4 : Int32)), .val (.ref b2)] [(.int (2 : Int32)), (.int (0 : Int32)), (.ref b2), (.int (0 : Int32)), (.ref a1)])) rfl (by rw [hml]; rfl) (rest := []) rfl (hb hby d6_28) (by decide) (W := 0) (by show 2 * 0 + _ ≤ _; exact Nat.le_of_eq rfl) (by decide)
  have V5 : Arv Z h5 b2 k2 .int (4 : Int32) [(.int x0), (.int x1), (.int (0 : Int32)), (.int (0 : Int32))] (.int (0 : Int32)) := V5q
  have c5_V_a1 := c2_V_a1.keep K5q (fun q => ne_a1_b2 (List.mem_singleton.mp q))
  have K5 := K2.trans K5q (allS (Or.inr sz_b2) all0)
  refine own_go (B := T5.setTop (mkF m 31 #[.val (.ref a1), .val (.int (4 : Int32)), .val (.ref b2)] [])) (fun t k => st5 _ k) ?_
  obtain ⟨fs, hr, hrun, hended, hW, hsame⟩ := X5.leave (v := some (.ref b2)) (fun h => by rw [Bd.returns] at h; cases h)
  refine ⟨_, _, ?_, hrun, hended, _, _, rfl, ?_, ⟨_, rfl⟩, hW, hsame.mono (by decide) (by decide)⟩
  · show Steps p.tables e below (T5.setTop (mkF m 31 #[.val (.ref a1), .val (.int (4 : Int32)), .val (.ref b2)] [])) _
    refine XS.aloadN X5.here hx rfl (hb hby d6_31) rfl rfl ?_
    show Steps p.tables e below (T5.setTop (mkF m 32 #[.val (.ref a1), .val (.int (4 : Int32)), .val (.ref b2)] [(.ref b2)])) _
    jvm_step X5.here [X5.here.top, hx, (hb hby d6_32), X5.method', Bd.returns, Value.isRef, FieldType.isReference]
    first | (intro acts; rw [hr _ acts rfl rfl rfl]) | rw [hr _ _ rfl rfl rfl]
    exact Steps.refl _
  · show Q6_2 Z a1 ka x0 x1 h0 n0 _ T5.heap _
    rw [e5]
    exact ⟨b2, k2, rfl, N5, K5, sz_b2, g_b2, V5⟩
theorem pn_1 : plainName "com/example/libqlm/libqlm/Postings" = true := by first | (simp [plainName, overriddenIn]; done) | decide +kernel
theorem d1_0 : decode prog_92_method_2_code 0 = .ok (.aload_n 0, 1) := by decide +kernel
theorem d1_1 : decode prog_92_method_2_code 1 = .ok (.invokespecial 7, 3) := by decide +kernel
theorem d1_4 : decode prog_92_method_2_code 4 = .ok (.aload_n 0, 1) := by decide +kernel
theorem d1_5 : decode prog_92_method_2_code 5 = .ok (.iload_n 1, 1) := by decide +kernel
theorem d1_6 : decode prog_92_method_2_code 6 = .ok (.putfield 12, 3) := by decide +kernel
theorem d1_9 : decode prog_92_method_2_code 9 = .ok (.aload_n 0, 1) := by decide +kernel
theorem d1_10 : decode prog_92_method_2_code 10 = .ok (.iload_n 2, 1) := by decide +kernel
theorem d1_11 : decode prog_92_method_2_code 11 = .ok (.newarray .int, 2) := by decide +kernel
theorem d1_13 : decode prog_92_method_2_code 13 = .ok (.putfield 16, 3) := by decide +kernel
theorem d1_16 : decode prog_92_method_2_code 16 = .ok (.aload_n 0, 1) := by decide +kernel
theorem d1_17 : decode prog_92_method_2_code 17 = .ok (.iload_n 2, 1) := by decide +kernel
theorem d1_18 : decode prog_92_method_2_code 18 = .ok (.newarray .int, 2) := by decide +kernel
theorem d1_20 : decode prog_92_method_2_code 20 = .ok (.putfield 20, 3) := by decide +kernel
theorem d1_23 : decode prog_92_method_2_code 23 = .ok (.return_, 1) := by decide +kernel
theorem ef_1 (m : MethodId) (x0 : Addr) (x1 : Int32) (x2 : Int32) : entryFrame m #[(.ref x0), (.int x1), (.int x2)] 3 = mkF m 0 #[.val (.ref x0), .val (.int x1), .val (.int x2)] [] := by first | (simp [entryFrame, mkF, argsToLocals, Value.category]; done) | rfl
def Q1 (Z : State) (a1 : Addr) (p2 : Int32) (p3 : Int32) (h0 : Heap) (n0 : Nat) (v : Option Value) (h : Heap) (L : List Loc) : Prop := v = none ∧ Fr n0 L ∧ (∃ (d f : Addr) (kd kf : ClassId), Keep h0 h [a1] ∧ Exa Z h a1 "com/example/libqlm/libqlm/Postings" ∧ Fld Z h a1 "com/example/libqlm/libqlm/Postings" "size" "I" (.int (0 : Int32)) ∧ Fld Z h a1 "com/example/libqlm/libqlm/Postings" "documents" "[I" (.ref d) ∧ Fld Z h a1 "com/example/libqlm/libqlm/Postings" "frequencies" "[I" (.ref f) ∧ Fld Z h a1 "com/example/libqlm/libqlm/Postings" "collectionFrequency" "J" (.long (0 : Int64)) ∧ Arv Z h d kd .int p3 [] (.int (0 : Int32)) ∧ Arv Z h f kf .int p3 [] (.int (0 : Int32)) ∧ h0.size ≤ d ∧ h0.size ≤ f ∧ n0 ≤ d ∧ n0 ≤ f ∧ d ≠ f)
set_option maxRecDepth 65536 in
set_option maxHeartbeats 40000000 in
theorem rm1 (l : Launch) (Z : State) (a0 : Array Value) (hw : ∀ d ∈ tables_1, d.before a0 Z = true) (ws : List Jvm.Cond) (a1 : Addr) (p2 : Int32) (p3 : Int32) (h0 : Heap) (n0 : Nat) (Z0 : n0 ≤ h0.size) (E_a1 : Exa Z h0 a1 "com/example/libqlm/libqlm/Postings") (g_a1 : n0 ≤ a1) (F_term : Fld Z h0 a1 "com/example/libqlm/libqlm/Postings" "term" "I" (.int (0 : Int32))) (F_documents : Fld Z h0 a1 "com/example/libqlm/libqlm/Postings" "documents" "[I" .null) (F_frequencies : Fld Z h0 a1 "com/example/libqlm/libqlm/Postings" "frequencies" "[I" .null) (F_size : Fld Z h0 a1 "com/example/libqlm/libqlm/Postings" "size" "I" (.int (0 : Int32))) (F_collectionFrequency : Fld Z h0 a1 "com/example/libqlm/libqlm/Postings" "collectionFrequency" "J" (.long (0 : Int64))) (hcap : ¬ p3 < 0 ∧ p3.toNatClampNeg ≤ 4) :
    MetFree l (⟨"com/example/libqlm/libqlm/Postings", "<init>", "(II)V"⟩ : MethodName) (head1 (Jvm.Cond.code (⟨"com/example/libqlm/libqlm/Postings", "<init>", "(II)V"⟩ : MethodName) prog_92_method_2_code 3 none :: ws) ({ frames := 1, cells := 2, slots := 8, locals := 12 } : Room)) (fun a U => a = #[(.ref a1), (.int p2), (.int p3)] ∧ Z.Warmed39 U.vm ∧ U.heap = h0) (fun _ _ _ _ _ => True) (fun _ U o U' => ∃ v L, o = .returned v ∧ Q1 Z a1 p2 p3 h0 n0 v U'.heap L ∧ FrameEnd U o U' L ({ frames := 1, cells := 2, slots := 8, locals := 12 } : Room).cells ({ frames := 1, cells := 2, slots := 8, locals := 12 } : Room).slots) := by
  refine MetFree.of_bodySF (plainFor_of_name pn_1) hisR ?_
  intro p e s m args below meth c s₁ Bd hml0 hP hK
  obtain ⟨rfl, hZ, hh⟩ := hP
  have hx := Bd.exec
  have hby := Bd.bytes
  have hml : c.maxLocals = 3 := hml0
  have hown : s.vm.findClass "com/example/libqlm/libqlm/Postings" = some m.cls := findClass_of_methodNamed Bd.named
  have hnm := (name_of_methodNamed Bd.named Bd.method).1
  have X0 : Stand p l e ({ frames := 1, cells := 2, slots := 8, locals := 12 } : Room) s m #[(.ref a1), (.int p2), (.int p3)] below meth c s₁ [] 0 0 := Stand.of_body Bd
  have e0 : s₁.heap = h0 := by rw [← hh, Bd.state]; rfl
  have N0 := Fr.nil n0
  refine own_go (B := s₁.setTop (mkF m 0 #[.val (.ref a1), .val (.int p2), .val (.int p3)] [])) (fun t k => castTop (ef_1 m a1 p2 p3) k) ?_
  refine own_go (B := s₁.setTop (mkF m 1 #[.val (.ref a1), .val (.int p2), .val (.int p3)] [(.ref a1)])) (fun t k => ?_) ?_
  · show Steps p.tables e below (s₁.setTop (mkF m 0 #[.val (.ref a1), .val (.int p2), .val (.int p3)] [])) _
    refine XS.aloadN X0.here hx rfl (hb hby d1_0) rfl rfl ?_
    exact k
  obtain ⟨T1, X1, e1, st1⟩ := initO X0 hx hZ hown (hw _ (List.mem_of_getElem? (i := 7) rfl)) (hw _ (List.mem_of_getElem? (i := 8) rfl)) (hw _ (List.mem_of_getElem? (i := 9) rfl)) e0 (g := (mkF m 1 #[.val (.ref a1), .val (.int p2), .val (.int p3)] [(.ref a1)])) rfl (by rw [hml]; rfl) rfl (hb hby d1_1) (by decide) (W := 0) (by show 2 * 0 + _ ≤ _; exact Nat.le_of_eq rfl) (by decide)
  refine own_go (B := T1.setTop (mkF m 4 #[.val (.ref a1), .val (.int p2), .val (.int p3)] [])) (fun t k => st1 _ k) ?_
  refine own_go (B := T1.setTop (mkF m 6 #[.val (.ref a1), .val (.int p2), .val (.int p3)] [(.int p2), (.ref a1)])) (fun t k => ?_) ?_
  · show Steps p.tables e below (T1.setTop (mkF m 4 #[.val (.ref a1), .val (.int p2), .val (.int p3)] [])) _
    refine XS.aloadN X1.here hx rfl (hb hby d1_4) rfl rfl ?_
    show Steps p.tables e below (T1.setTop (mkF m 5 #[.val (.ref a1), .val (.int p2), .val (.int p3)] [(.ref a1)])) _
    refine XS.iloadN X1.here hx rfl (hb hby d1_5) rfl ?_
    exact k
  obtain ⟨T2, h2, X2, e2, W2, st2⟩ := putF X1 hx hZ hown (host := "") (Or.inl (hw _ (List.mem_of_getElem? (i := 10) rfl))) Via.refl e1 F_term E_a1 (Or.inr ⟨(hw _ (List.mem_of_getElem? (i := 11) rfl)), rfl, hnm⟩) (hw _ (List.mem_of_getElem? (i := 2) rfl)) (ty := .int) (by decide) rfl rfl (g := (mkF m 6 #[.val (.ref a1), .val (.int p2), .val (.int p3)] [(.int p2), (.ref a1)])) rfl rfl (hb hby d1_6)
  have c2_E_a1 := E_a1.wr W2
  have c2_F_a1_term := F_term.same W2
  have c2_F_a1_documents := F_documents.other W2 (Or.inr (slot_ne (Or.inl (hw _ (List.mem_of_getElem? (i := 14) rfl))) (Or.inr (hw _ (List.mem_of_getElem? (i := 11) rfl))) (by decide) (t := (.array .int)) (t' := .int) (by decide) (by decide)))
  have c2_F_a1_frequencies := F_frequencies.other W2 (Or.inr (slot_ne (Or.inl (hw _ (List.mem_of_getElem? (i := 16) rfl))) (Or.inr (hw _ (List.mem_of_getElem? (i := 11) rfl))) (by decide) (t := (.array .int)) (t' := .int) (by decide) (by decide)))
  have c2_F_a1_size := F_size.other W2 (Or.inr (slot_ne (Or.inl (hw _ (List.mem_of_getElem? (i := 23) rfl))) (Or.inr (hw _ (List.mem_of_getElem? (i := 11) rfl))) (by decide) (t := .int) (t' := .int) (by decide) (by decide)))
  have c2_F_a1_collectionFrequency := F_collectionFrequency.other W2 (Or.inr (slot_ne (Or.inl (hw _ (List.mem_of_getElem? (i := 34) rfl))) (Or.inr (hw _ (List.mem_of_getElem? (i := 11) rfl))) (by decide) (t := .long) (t' := .int) (by decide) (by decide)))
  have K2 := (Keep.refl h0 [a1]).wr W2 (Or.inl (List.mem_of_getElem? (i := 0) rfl))
  have N2 := Fr.snoc X2 N0 g_a1
  refine own_go (B := T2.setTop (mkF m 9 #[.val (.ref a1), .val (.int p2), .val (.int p3)] [])) (fun t k => st2 _ k) ?_
  refine own_go (B := T2.setTop (mkF m 11 #[.val (.ref a1), .val (.int p2), .val (.int p3)] [(.int p3), (.ref a1)])) (fun t k => ?_) ?_
  · show Steps p.tables e below (T2.setTop (mkF m 9 #[.val (.ref a1), .val (.int p2), .val (.int p3)] [])) _
    refine XS.aloadN X2.here hx rfl (hb hby d1_9) rfl rfl ?_
    show Steps p.tables e below (T2.setTop (mkF m 10 #[.val (.ref a1), .val (.int p2), .val (.int p3)] [(.ref a1)])) _
    refine XS.iloadN X2.here hx rfl (hb hby d1_10) rfl ?_
    exact k
  obtain ⟨T3, h3, k3, X3, e3, E3, A3, st3⟩ := newP X2 hx hZ (hw _ (List.mem_of_getElem? (i := 12) rfl)) e2 (g := (mkF m 11 #[.val (.ref a1), .val (.int p2), .val (.int p3)] [(.int p3), (.ref a1)])) rfl (hb hby d1_11) rfl hcap.1 (cap := 4) hcap.2 (by decide) (by decide) (by decide)
  obtain ⟨b3, g3⟩ : ∃ z, z = h2.size := ⟨_, rfl⟩
  rw [← g3] at A3 st3
  have g_b3 : n0 ≤ b3 := Nat.le_trans (Nat.le_trans Z0 (Keep.of_wr W2).1) (Nat.le_of_eq g3.symm)
  have sz_b3 : h0.size ≤ b3 := Nat.le_trans K2.1 (Nat.le_of_eq g3.symm)
  have ne_a1_b3 : a1 ≠ b3 := Nat.ne_of_lt (Nat.lt_of_lt_of_le c2_E_a1.lt (Nat.le_of_eq g3.symm))
  have c3_E_a1 := c2_E_a1.ext E3
  have c3_F_a1_term := c2_F_a1_term.ext E3
  have c3_F_a1_documents := c2_F_a1_documents.ext E3
  have c3_F_a1_frequencies := c2_F_a1_frequencies.ext E3
  have c3_F_a1_size := c2_F_a1_size.ext E3
  have c3_F_a1_collectionFrequency := c2_F_a1_collectionFrequency.ext E3
  have K3 := K2.ext E3
  have V3 : Arv Z h3 b3 k3 .int p3 [] (.int (0 : Int32)) := Arv.new A3 hcap.1
  refine own_go (B := T3.setTop (mkF m 13 #[.val (.ref a1), .val (.int p2), .val (.int p3)] [(.ref b3), (.ref a1)])) (fun t k => st3 _ k) ?_
  obtain ⟨T4, h4, X4, e4, W4, st4⟩ := putF X3 hx hZ hown (host := "") (Or.inl (hw _ (List.mem_of_getElem? (i := 13) rfl))) Via.refl e3 c3_F_a1_documents c3_E_a1 (Or.inl (hw _ (List.mem_of_getElem? (i := 14) rfl))) (hw _ (List.mem_of_getElem? (i := 2) rfl)) (ty := (.array .int)) (by decide) rfl rfl (g := (mkF m 13 #[.val (.ref a1), .val (.int p2), .val (.int p3)] [(.ref b3), (.ref a1)])) rfl rfl (hb hby d1_13)
  have c4_E_a1 := c3_E_a1.wr W4
  have c4_F_a1_term := c3_F_a1_term.other W4 (Or.inr (slot_ne (Or.inr (hw _ (List.mem_of_getElem? (i := 11) rfl))) (Or.inl (hw _ (List.mem_of_getElem? (i := 14) rfl))) (by decide) (t := .int) (t' := (.array .int)) (by decide) (by decide)))
  have c4_F_a1_documents := c3_F_a1_documents.same W4
  have c4_F_a1_frequencies := c3_F_a1_frequencies.other W4 (Or.inr (slot_ne (Or.inl (hw _ (List.mem_of_getElem? (i := 16) rfl))) (Or.inl (hw _ (List.mem_of_getElem? (i := 14) rfl))) (by decide) (t := (.array .int)) (t' := (.array .int)) (by decide) (by decide)))
  have c4_F_a1_size := c3_F_a1_size.other W4 (Or.inr (slot_ne (Or.inl (hw _ (List.mem_of_getElem? (i := 23) rfl))) (Or.inl (hw _ (List.mem_of_getElem? (i := 14) rfl))) (by decide) (t := .int) (t' := (.array .int)) (by decide) (by decide)))
  have c4_F_a1_collectionFrequency := c3_F_a1_collectionFrequency.other W4 (Or.inr (slot_ne (Or.inl (hw _ (List.mem_of_getElem? (i := 34) rfl))) (Or.inl (hw _ (List.mem_of_getElem? (i := 14) rfl))) (by decide) (t := .long) (t' := (.array .int)) (by decide) (by decide)))
  have c4_V_b3 := V3.other W4 (Ne.symm ne_a1_b3)
  have K4 := K3.wr W4 (Or.inl (List.mem_of_getElem? (i := 0) rfl))
  have N4 := Fr.snoc X4 N2 g_a1
  refine own_go (B := T4.setTop (mkF m 16 #[.val (.ref a1), .val (.int p2), .val (.int p3)] [])) (fun t k => st4 _ k) ?_
  refine own_go (B := T4.setTop (mkF m 18 #[.val (.ref a1), .val (.int p2), .val (.int p3)] [(.int p3), (.ref a1)])) (fun t k => ?_) ?_
  · show Steps p.tables e below (T4.setTop (mkF m 16 #[.val (.ref a1), .val (.int p2), .val (.int p3)] [])) _
    refine XS.aloadN X4.here hx rfl (hb hby d1_16) rfl rfl ?_
    show Steps p.tables e below (T4.setTop (mkF m 17 #[.val (.ref a1), .val (.int p2), .val (.int p3)] [(.ref a1)])) _
    refine XS.iloadN X4.here hx rfl (hb hby d1_17) rfl ?_
    exact k
  obtain ⟨T5, h5, k5, X5, e5, E5, A5, st5⟩ := newP X4 hx hZ (hw _ (List.mem_of_getElem? (i := 12) rfl)) e4 (g := (mkF m 18 #[.val (.ref a1), .val (.int p2), .val (.int p3)] [(.int p3), (.ref a1)])) rfl (hb hby d1_18) rfl hcap.1 (cap := 4) hcap.2 (by decide) (by decide) (by decide)
  obtain ⟨b5, g5⟩ : ∃ z, z = h4.size := ⟨_, rfl⟩
  rw [← g5] at A5 st5
  have g_b5 : n0 ≤ b5 := Nat.le_trans (Nat.le_trans (Nat.le_trans (Nat.le_trans Z0 (Keep.of_wr W2).1) E3.1) (Keep.of_wr W4).1) (Nat.le_of_eq g5.symm)
  have sz_b5 : h0.size ≤ b5 := Nat.le_trans K4.1 (Nat.le_of_eq g5.symm)
  have ne_a1_b5 : a1 ≠ b5 := Nat.ne_of_lt (Nat.lt_of_lt_of_le c4_E_a1.lt (Nat.le_of_eq g5.symm))
  have ne_b3_b5 : b3 ≠ b5 := Nat.ne_of_lt (Nat.lt_of_lt_of_le c4_V_b3.lt (Nat.le_of_eq g5.symm))
  have c5_E_a1 := c4_E_a1.ext E5
  have c5_F_a1_term := c4_F_a1_term.ext E5
  have c5_F_a1_documents := c4_F_a1_documents.ext E5
  have c5_F_a1_frequencies := c4_F_a1_frequencies.ext E5
  have c5_F_a1_size := c4_F_a1_size.ext E5
  have c5_F_a1_collectionFrequency := c4_F_a1_collectionFrequency.ext E5
  have c5_V_b3 := c4_V_b3.ext E5
  have K5 := K4.ext E5
  have V5 : Arv Z h5 b5 k5 .int p3 [] (.int (0 : Int32)) := Arv.new A5 hcap.1
  refine own_go (B := T5.setTop (mkF m 20 #[.val (.ref a1), .val (.int p2), .val (.int p3)] [(.ref b5), (.ref a1)])) (fun t k => st5 _ k) ?_
  obtain ⟨T6, h6, X6, e6, W6, st6⟩ := putF X5 hx hZ hown (host := "") (Or.inl (hw _ (List.mem_of_getElem? (i := 15) rfl))) Via.refl e5 c5_F_a1_frequencies c5_E_a1 (Or.inl (hw _ (List.mem_of_getElem? (i := 16) rfl))) (hw _ (List.mem_of_getElem? (i := 2) rfl)) (ty := (.array .int)) (by decide) rfl rfl (g := (mkF m 20 #[.val (.ref a1), .val (.int p2), .val (.int p3)] [(.ref b5), (.ref a1)])) rfl rfl (hb hby d1_20)
  have c6_E_a1 := c5_E_a1.wr W6
  have c6_F_a1_term := c5_F_a1_term.other W6 (Or.inr (slot_ne (Or.inr (hw _ (List.mem_of_getElem? (i := 11) rfl))) (Or.inl (hw _ (List.mem_of_getElem? (i := 16) rfl))) (by decide) (t := .int) (t' := (.array .int)) (by decide) (by decide)))
  have c6_F_a1_documents := c5_F_a1_documents.other W6 (Or.inr (slot_ne (Or.inl (hw _ (List.mem_of_getElem? (i := 14) rfl))) (Or.inl (hw _ (List.mem_of_getElem? (i := 16) rfl))) (by decide) (t := (.array .int)) (t' := (.array .int)) (by decide) (by decide)))
  have c6_F_a1_frequencies := c5_F_a1_frequencies.same W6
  have c6_F_a1_size := c5_F_a1_size.other W6 (Or.inr (slot_ne (Or.inl (hw _ (List.mem_of_getElem? (i := 23) rfl))) (Or.inl (hw _ (List.mem_of_getElem? (i := 16) rfl))) (by decide) (t := .int) (t' := (.array .int)) (by decide) (by decide)))
  have c6_F_a1_collectionFrequency := c5_F_a1_collectionFrequency.other W6 (Or.inr (slot_ne (Or.inl (hw _ (List.mem_of_getElem? (i := 34) rfl))) (Or.inl (hw _ (List.mem_of_getElem? (i := 16) rfl))) (by decide) (t := .long) (t' := (.array .int)) (by decide) (by decide)))
  have c6_V_b3 := c5_V_b3.other W6 (Ne.symm ne_a1_b3)
  have c6_V_b5 := V5.other W6 (Ne.symm ne_a1_b5)
  have K6 := K5.wr W6 (Or.inl (List.mem_of_getElem? (i := 0) rfl))
  have N6 := Fr.snoc X6 N4 g_a1
  refine own_go (B := T6.setTop (mkF m 23 #[.val (.ref a1), .val (.int p2), .val (.int p3)] [])) (fun t k => st6 _ k) ?_
  obtain ⟨fs, hr, hrun, hended, hW, hsame⟩ := X6.leave (v := none) (fun _ => rfl)
  refine ⟨_, _, ?_, hrun, hended, _, _, rfl, ?_, ⟨_, rfl⟩, hW, hsame.mono (by decide) (by decide)⟩
  · show Steps p.tables e below (T6.setTop (mkF m 23 #[.val (.ref a1), .val (.int p2), .val (.int p3)] [])) _
    exact X6.returnOut hx Bd.returns (hb hby d1_23) hr
  · show Q1 Z a1 p2 p3 h0 n0 _ T6.heap _
    rw [e6]
    exact ⟨rfl, N6, b3, b5, k3, k5, K6, c6_E_a1, c6_F_a1_size, c6_F_a1_documents, c6_F_a1_frequencies, c6_F_a1_collectionFrequency, c6_V_b3, c6_V_b5, sz_b3, sz_b5, g_b3, g_b5, ne_b3_b5⟩
theorem own_ne {a b : Int32} (h : a < b) : ¬ a = b := fun q => by rw [q, Int32.lt_iff_toInt_lt] at h; omega
theorem pn_5 : plainName "com/example/libqlm/libqlm/Postings" = true := by first | (simp [plainName, overriddenIn]; done) | decide +kernel
theorem d5_0 : decode prog_92_method_4_code 0 = .ok (.aload_n 0, 1) := by decide +kernel
theorem d5_1 : decode prog_92_method_4_code 1 = .ok (.getfield 23, 3) := by decide +kernel
theorem d5_4 : decode prog_92_method_4_code 4 = .ok (.aload_n 0, 1) := by decide +kernel
theorem d5_5 : decode prog_92_method_4_code 5 = .ok (.getfield 16, 3) := by decide +kernel
theorem d5_8 : decode prog_92_method_4_code 8 = .ok (.arraylength, 1) := by decide +kernel
theorem d5_9 : decode prog_92_method_4_code 9 = .ok (.if_icmp .ne 37, 3) := by decide +kernel
theorem d5_46 : decode prog_92_method_4_code 46 = .ok (.aload_n 0, 1) := by decide +kernel
theorem d5_47 : decode prog_92_method_4_code 47 = .ok (.getfield 16, 3) := by decide +kernel
theorem d5_50 : decode prog_92_method_4_code 50 = .ok (.aload_n 0, 1) := by decide +kernel
theorem d5_51 : decode prog_92_method_4_code 51 = .ok (.getfield 23, 3) := by decide +kernel
theorem d5_54 : decode prog_92_method_4_code 54 = .ok (.iload_n 1, 1) := by decide +kernel
theorem d5_55 : decode prog_92_method_4_code 55 = .ok (.iastore, 1) := by decide +kernel
theorem d5_56 : decode prog_92_method_4_code 56 = .ok (.aload_n 0, 1) := by decide +kernel
theorem d5_57 : decode prog_92_method_4_code 57 = .ok (.getfield 20, 3) := by decide +kernel
theorem d5_60 : decode prog_92_method_4_code 60 = .ok (.aload_n 0, 1) := by decide +kernel
theorem d5_61 : decode prog_92_method_4_code 61 = .ok (.getfield 23, 3) := by decide +kernel
theorem d5_64 : decode prog_92_method_4_code 64 = .ok (.iload_n 2, 1) := by decide +kernel
theorem d5_65 : decode prog_92_method_4_code 65 = .ok (.iastore, 1) := by decide +kernel
theorem d5_66 : decode prog_92_method_4_code 66 = .ok (.aload_n 0, 1) := by decide +kernel
theorem d5_67 : decode prog_92_method_4_code 67 = .ok (.dup, 1) := by decide +kernel
theorem d5_68 : decode prog_92_method_4_code 68 = .ok (.getfield 23, 3) := by decide +kernel
theorem d5_71 : decode prog_92_method_4_code 71 = .ok (.iconst 1, 1) := by decide +kernel
theorem d5_72 : decode prog_92_method_4_code 72 = .ok (.iadd, 1) := by decide +kernel
theorem d5_73 : decode prog_92_method_4_code 73 = .ok (.putfield 23, 3) := by decide +kernel
theorem d5_76 : decode prog_92_method_4_code 76 = .ok (.aload_n 0, 1) := by decide +kernel
theorem d5_77 : decode prog_92_method_4_code 77 = .ok (.dup, 1) := by decide +kernel
theorem d5_78 : decode prog_92_method_4_code 78 = .ok (.getfield 32, 3) := by decide +kernel
theorem d5_81 : decode prog_92_method_4_code 81 = .ok (.iload_n 2, 1) := by decide +kernel
theorem d5_82 : decode prog_92_method_4_code 82 = .ok (.i2l, 1) := by decide +kernel
theorem d5_83 : decode prog_92_method_4_code 83 = .ok (.ladd, 1) := by decide +kernel
theorem d5_84 : decode prog_92_method_4_code 84 = .ok (.putfield 32, 3) := by decide +kernel
theorem d5_87 : decode prog_92_method_4_code 87 = .ok (.return_, 1) := by decide +kernel
theorem ef_5 (m : MethodId) (x0 : Addr) (x1 : Int32) (x2 : Int32) : entryFrame m #[(.ref x0), (.int x1), (.int x2)] 3 = mkF m 0 #[.val (.ref x0), .val (.int x1), .val (.int x2)] [] := by first | (simp [entryFrame, mkF, argsToLocals, Value.category]; done) | rfl
def Q5_0 (Z : State) (a1 : Addr) (p2 : Int32) (p3 : Int32) (d1 : Addr) (f1 : Addr) (kd : ClassId) (kf : ClassId) (N1 : Int32) (cf : Int64) (h0 : Heap) (n0 : Nat) (v : Option Value) (h : Heap) (L : List Loc) : Prop := v = none ∧ Fr n0 L ∧ Keep h0 h [a1, d1, f1] ∧ Exa Z h a1 "com/example/libqlm/libqlm/Postings" ∧ Fld Z h a1 "com/example/libqlm/libqlm/Postings" "size" "I" (.int (1 : Int32)) ∧ Fld Z h a1 "com/example/libqlm/libqlm/Postings" "documents" "[I" (.ref d1) ∧ Fld Z h a1 "com/example/libqlm/libqlm/Postings" "frequencies" "[I" (.ref f1) ∧ Fld Z h a1 "com/example/libqlm/libqlm/Postings" "collectionFrequency" "J" (.long (cf + (p3.toInt64))) ∧ Arv Z h d1 kd .int N1 [(.int p2)] (.int (0 : Int32)) ∧ Arv Z h f1 kf .int N1 [(.int p3)] (.int (0 : Int32))
set_option maxRecDepth 65536 in
set_option maxHeartbeats 40000000 in
theorem rm5_0 (l : Launch) (Z : State) (a0 : Array Value) (hw : ∀ d ∈ tables_1, d.before a0 Z = true) (ws : List Jvm.Cond) (a1 : Addr) (p2 : Int32) (p3 : Int32) (d1 : Addr) (f1 : Addr) (kd : ClassId) (kf : ClassId) (N1 : Int32) (cf : Int64) (h0 : Heap) (n0 : Nat) (Z0 : n0 ≤ h0.size) (E_a1 : Exa Z h0 a1 "com/example/libqlm/libqlm/Postings") (g_a1 : n0 ≤ a1) (g_d1 : n0 ≤ d1) (g_f1 : n0 ≤ f1) (F_s : Fld Z h0 a1 "com/example/libqlm/libqlm/Postings" "size" "I" (.int (0 : Int32))) (F_d : Fld Z h0 a1 "com/example/libqlm/libqlm/Postings" "documents" "[I" (.ref d1)) (F_f : Fld Z h0 a1 "com/example/libqlm/libqlm/Postings" "frequencies" "[I" (.ref f1)) (F_c : Fld Z h0 a1 "com/example/libqlm/libqlm/Postings" "collectionFrequency" "J" (.long cf)) (V_d : Arv Z h0 d1 kd .int N1 [] (.int (0 : Int32))) (V_f : Arv Z h0 f1 kf .int N1 [] (.int (0 : Int32))) (n_ad : a1 ≠ d1) (n_af : a1 ≠ f1) (n_df : d1 ≠ f1) (hN : (0 : Int32) < N1) :
    MetFree l (⟨"com/example/libqlm/libqlm/Postings", "add", "(II)V"⟩ : MethodName) (head1 (Jvm.Cond.code (⟨"com/example/libqlm/libqlm/Postings", "add", "(II)V"⟩ : MethodName) prog_92_method_4_code 3 none :: ws) ({ frames := 0, cells := 0, slots := 0, locals := 0 } : Room)) (fun a U => a = #[(.ref a1), (.int p2), (.int p3)] ∧ Z.Warmed39 U.vm ∧ U.heap = h0) (fun _ _ _ _ _ => True) (fun _ U o U' => ∃ v L, o = .returned v ∧ Q5_0 Z a1 p2 p3 d1 f1 kd kf N1 cf h0 n0 v U'.heap L ∧ FrameEnd U o U' L ({ frames := 0, cells := 0, slots := 0, locals := 0 } : Room).cells ({ frames := 0, cells := 0, slots := 0, locals := 0 } : Room).slots) := by
  refine MetFree.of_bodySF (plainFor_of_name pn_5) hisR ?_
  intro p e s m args below meth c s₁ Bd hml0 hP hK
  obtain ⟨rfl, hZ, hh⟩ := hP
  have hx := Bd.exec
  have hby := Bd.bytes
  have hml : c.maxLocals = 3 := hml0
  have hown : s.vm.findClass "com/example/libqlm/libqlm/Postings" = some m.cls := findClass_of_methodNamed Bd.named
  have hnm := (name_of_methodNamed Bd.named Bd.method).1
  have X0 : Stand p l e ({ frames := 0, cells := 0, slots := 0, locals := 0 } : Room) s m #[(.ref a1), (.int p2), (.int p3)] below meth c s₁ [] 0 0 := Stand.of_body Bd
  have e0 : s₁.heap = h0 := by rw [← hh, Bd.state]; rfl
  have N0 := Fr.nil n0
  refine own_go (B := s₁.setTop (mkF m 0 #[.val (.ref a1), .val (.int p2), .val (.int p3)] [])) (fun t k => castTop (ef_5 m a1 p2 p3) k) ?_
  refine own_go (B := s₁.setTop (mkF m 1 #[.val (.ref a1), .val (.int p2), .val (.int p3)] [(.ref a1)])) (fun t k => ?_) ?_
  · show Steps p.tables e below (s₁.setTop (mkF m 0 #[.val (.ref a1), .val (.int p2), .val (.int p3)] [])) _
    refine XS.aloadN X0.here hx rfl (hb hby d5_0) rfl rfl ?_
    exact k
  obtain ⟨T1, X1, e1, st1⟩ := getF X0 hx hZ hown (host := "") (Or.inl (hw _ (List.mem_of_getElem? (i := 22) rfl))) Via.refl e0 F_s (g := (mkF m 1 #[.val (.ref a1), .val (.int p2), .val (.int p3)] [(.ref a1)])) rfl rfl (hb hby d5_1)
  refine own_go (B := T1.setTop (mkF m 4 #[.val (.ref a1), .val (.int p2), .val (.int p3)] [(.int (0 : Int32))])) (fun t k => st1 _ k) ?_
  refine own_go (B := T1.setTop (mkF m 5 #[.val (.ref a1), .val (.int p2), .val (.int p3)] [(.ref a1), (.int (0 : Int32))])) (fun t k => ?_) ?_
  · show Steps p.tables e below (T1.setTop (mkF m 4 #[.val (.ref a1), .val (.int p2), .val (.int p3)] [(.int (0 : Int32))])) _
    refine XS.aloadN X1.here hx rfl (hb hby d5_4) rfl rfl ?_
    exact k
  obtain ⟨T2, X2, e2, st2⟩ := getF X1 hx hZ hown (host := "") (Or.inl (hw _ (List.mem_of_getElem? (i := 13) rfl))) Via.refl e1 F_d (g := (mkF m 5 #[.val (.ref a1), .val (.int p2), .val (.int p3)] [(.ref a1), (.int (0 : Int32))])) rfl rfl (hb hby d5_5)
  refine own_go (B := T2.setTop (mkF m 8 #[.val (.ref a1), .val (.int p2), .val (.int p3)] [(.ref d1), (.int (0 : Int32))])) (fun t k => st2 _ k) ?_
  obtain ⟨cl3, Ar3, qk3, S3, M3, H3, G3⟩ := id V_d
  refine own_go (B := T2.setTop (mkF m 47 #[.val (.ref a1), .val (.int p2), .val (.int p3)] [(.ref a1)])) (fun t k => ?_) ?_
  · show Steps p.tables e below (T2.setTop (mkF m 8 #[.val (.ref a1), .val (.int p2), .val (.int p3)] [(.ref d1), (.int (0 : Int32))])) _
    refine X2.arraylength hx (by rw [e2]; exact Ar3.1) (State.isArrayOf_alike hZ.alike Ar3.2.1) (g := (mkF m 8 #[.val (.ref a1), .val (.int p2), .val (.int p3)] [(.ref d1), (.int (0 : Int32))])) rfl rfl (hb hby d5_8) _ ?_
    rw [len_of S3 M3]
    show Steps p.tables e below (T2.setTop (mkF m 9 #[.val (.ref a1), .val (.int p2), .val (.int p3)] [(.int N1), (.int (0 : Int32))])) _
    refine XS.icmpYes X2.here hx rfl (pc0 := 9) (pc' := 46) rfl (hb hby d5_9) rfl (feq (own_ne hN)).2 (by decide) (by decide) ?_
    show Steps p.tables e below (T2.setTop (mkF m 46 #[.val (.ref a1), .val (.int p2), .val (.int p3)] [])) _
    refine XS.aloadN X2.here hx rfl (hb hby d5_46) rfl rfl ?_
    exact k
  obtain ⟨T4, X4, e4, st4⟩ := getF X2 hx hZ hown (host := "") (Or.inl (hw _ (List.mem_of_getElem? (i := 13) rfl))) Via.refl e2 F_d (g := (mkF m 47 #[.val (.ref a1), .val (.int p2), .val (.int p3)] [(.ref a1)])) rfl rfl (hb hby d5_47)
  refine own_go (B := T4.setTop (mkF m 50 #[.val (.ref a1), .val (.int p2), .val (.int p3)] [(.ref d1)])) (fun t k => st4 _ k) ?_
  refine own_go (B := T4.setTop (mkF m 51 #[.val (.ref a1), .val (.int p2), .val (.int p3)] [(.ref a1), (.ref d1)])) (fun t k => ?_) ?_
  · show Steps p.tables e below (T4.setTop (mkF m 50 #[.val (.ref a1), .val (.int p2), .val (.int p3)] [(.ref d1)])) _
    refine XS.aloadN X4.here hx rfl (hb hby d5_50) rfl rfl ?_
    exact k
  obtain ⟨T5, X5, e5, st5⟩ := getF X4 hx hZ hown (host := "") (Or.inl (hw _ (List.mem_of_getElem? (i := 22) rfl))) Via.refl e4 F_s (g := (mkF m 51 #[.val (.ref a1), .val (.int p2), .val (.int p3)] [(.ref a1), (.ref d1)])) rfl rfl (hb hby d5_51)
  refine own_go (B := T5.setTop (mkF m 54 #[.val (.ref a1), .val (.int p2), .val (.int p3)] [(.int (0 : Int32)), (.ref d1)])) (fun t k => st5 _ k) ?_
  refine own_go (B := T5.setTop (mkF m 55 #[.val (.ref a1), .val (.int p2), .val (.int p3)] [(.int p2), (.int (0 : Int32)), (.ref d1)])) (fun t k => ?_) ?_
  · show Steps p.tables e below (T5.setTop (mkF m 54 #[.val (.ref a1), .val (.int p2), .val (.int p3)] [(.int (0 : Int32)), (.ref d1)])) _
    refine XS.iloadN X5.here hx rfl (hb hby d5_54) rfl ?_
    exact k
  have Vp6 : Arv Z h0 d1 kd .int N1 [(.int (0 : Int32))] (.int (0 : Int32)) := (V_d).pad (pad_rep [] (.int (0 : Int32)) 1)
  obtain ⟨cl6, Ar6, qk6, S6, M6, H6, G6⟩ := id Vp6
  obtain ⟨T6, h6, X6, e6, W6, st6⟩ := stI X5 hx hZ e5 Ar6 (j := (0 : Int32)) (inb_of S6 ⟨by decide, hN⟩) (g := (mkF m 55 #[.val (.ref a1), .val (.int p2), .val (.int p3)] [(.int p2), (.int (0 : Int32)), (.ref d1)])) rfl rfl (hb hby d5_55)
  have V6 : Arv Z h6 d1 kd .int N1 [(.int p2)] (.int (0 : Int32)) := Arv.set Ar6 qk6 S6 M6 H6 G6 rfl W6 0 rfl (Nat.le_of_ble_eq_true rfl)
  have c6_E_a1 := E_a1.wr W6
  have c6_F_a1_size := F_s.other W6 (Or.inl n_ad)
  have c6_F_a1_documents := F_d.other W6 (Or.inl n_ad)
  have c6_F_a1_frequencies := F_f.other W6 (Or.inl n_ad)
  have c6_F_a1_collectionFrequency := F_c.other W6 (Or.inl n_ad)
  have c6_V_f1 := V_f.other W6 (Ne.symm n_df)
  have K6 := (Keep.refl h0 [a1, d1, f1]).wr W6 (Or.inl (List.mem_of_getElem? (i := 1) rfl))
  have N6 := Fr.snoc X6 N0 g_d1
  refine own_go (B := T6.setTop (mkF m 56 #[.val (.ref a1), .val (.int p2), .val (.int p3)] [])) (fun t k => st6 _ k) ?_
  refine own_go (B := T6.setTop (mkF m 57 #[.val (.ref a1), .val (.int p2), .val (.int p3)] [(.ref a1)])) (fun t k => ?_) ?_
  · show Steps p.tables e below (T6.setTop (mkF m 56 #[.val (.ref a1), .val (.int p2), .val (.int p3)] [])) _
    refine XS.aloadN X6.here hx rfl (hb hby d5_56) rfl rfl ?_
    exact k
  obtain ⟨T7, X7, e7, st7⟩ := getF X6 hx hZ hown (host := "") (Or.inl (hw _ (List.mem_of_getElem? (i := 15) rfl))) Via.refl e6 c6_F_a1_frequencies (g := (mkF m 57 #[.val (.ref a1), .val (.int p2), .val (.int p3)] [(.ref a1)])) rfl rfl (hb hby d5_57)
  refine own_go (B := T7.setTop (mkF m 60 #[.val (.ref a1), .val (.int p2), .val (.int p3)] [(.ref f1)])) (fun t k => st7 _ k) ?_
  refine own_go (B := T7.setTop (mkF m 61 #[.val (.ref a1), .val (.int p2), .val (.int p3)] [(.ref a1), (.ref f1)])) (fun t k => ?_) ?_
  · show Steps p.tables e below (T7.setTop (mkF m 60 #[.val (.ref a1), .val (.int p2), .val (.int p3)] [(.ref f1)])) _
    refine XS.aloadN X7.here hx rfl (hb hby d5_60) rfl rfl ?_
    exact k
  obtain ⟨T8, X8, e8, st8⟩ := getF X7 hx hZ hown (host := "") (Or.inl (hw _ (List.mem_of_getElem? (i := 22) rfl))) Via.refl e7 c6_F_a1_size (g := (mkF m 61 #[.val (.ref a1), .val (.int p2), .val (.int p3)] [(.ref a1), (.ref f1)])) rfl rfl (hb hby d5_61)
  refine own_go (B := T8.setTop (mkF m 64 #[.val (.ref a1), .val (.int p2), .val (.int p3)] [(.int (0 : Int32)), (.ref f1)])) (fun t k => st8 _ k) ?_
  refine own_go (B := T8.setTop (mkF m 65 #[.val (.ref a1), .val (.int p2), .val (.int p3)] [(.int p3), (.int (0 : Int32)), (.ref f1)])) (fun t k => ?_) ?_
  · show Steps p.tables e below (T8.setTop (mkF m 64 #[.val (.ref a1), .val (.int p2), .val (.int p3)] [(.int (0 : Int32)), (.ref f1)])) _
    refine XS.iloadN X8.here hx rfl (hb hby d5_64) rfl ?_
    exact k
  have Vp9 : Arv Z h6 f1 kf .int N1 [(.int (0 : Int32))] (.int (0 : Int32)) := (c6_V_f1).pad (pad_rep [] (.int (0 : Int32)) 1)
  obtain ⟨cl9, Ar9, qk9, S9, M9, H9, G9⟩ := id Vp9
  obtain ⟨T9, h9, X9, e9, W9, st9⟩ := stI X8 hx hZ e8 Ar9 (j := (0 : Int32)) (inb_of S9 ⟨by decide, hN⟩) (g := (mkF m 65 #[.val (.ref a1), .val (.int p2), .val (.int p3)] [(.int p3), (.int (0 : Int32)), (.ref f1)])) rfl rfl (hb hby d5_65)
  have V9 : Arv Z h9 f1 kf .int N1 [(.int p3)] (.int (0 : Int32)) := Arv.set Ar9 qk9 S9 M9 H9 G9 rfl W9 0 rfl (Nat.le_of_ble_eq_true rfl)
  have c9_E_a1 := c6_E_a1.wr W9
  have c9_F_a1_size := c6_F_a1_size.other W9 (Or.inl n_af)
  have c9_F_a1_documents := c6_F_a1_documents.other W9 (Or.inl n_af)
  have c9_F_a1_frequencies := c6_F_a1_frequencies.other W9 (Or.inl n_af)
  have c9_F_a1_collectionFrequency := c6_F_a1_collectionFrequency.other W9 (Or.inl n_af)
  have c9_V_d1 := V6.other W9 n_df
  have K9 := K6.wr W9 (Or.inl (List.mem_of_getElem? (i := 2) rfl))
  have N9 := Fr.snoc X9 N6 g_f1
  refine own_go (B := T9.setTop (mkF m 66 #[.val (.ref a1), .val (.int p2), .val (.int p3)] [])) (fun t k => st9 _ k) ?_
  refine own_go (B := T9.setTop (mkF m 68 #[.val (.ref a1), .val (.int p2), .val (.int p3)] [(.ref a1), (.ref a1)])) (fun t k => ?_) ?_
  · show Steps p.tables e below (T9.setTop (mkF m 66 #[.val (.ref a1), .val (.int p2), .val (.int p3)] [])) _
    refine XS.aloadN X9.here hx rfl (hb hby d5_66) rfl rfl ?_
    show Steps p.tables e below (T9.setTop (mkF m 67 #[.val (.ref a1), .val (.int p2), .val (.int p3)] [(.ref a1)])) _
    refine XS.dup X9.here hx rfl (hb hby d5_67) rfl rfl ?_
    exact k
  obtain ⟨T10, X10, e10, st10⟩ := getF X9 hx hZ hown (host := "") (Or.inl (hw _ (List.mem_of_getElem? (i := 22) rfl))) Via.refl e9 c9_F_a1_size (g := (mkF m 68 #[.val (.ref a1), .val (.int p2), .val (.int p3)] [(.ref a1), (.ref a1)])) rfl rfl (hb hby d5_68)
  refine own_go (B := T10.setTop (mkF m 71 #[.val (.ref a1), .val (.int p2), .val (.int p3)] [(.int (0 : Int32)), (.ref a1)])) (fun t k => st10 _ k) ?_
  refine own_go (B := T10.setTop (mkF m 73 #[.val (.ref a1), .val (.int p2), .val (.int p3)] [(.int (1 : Int32)), (.ref a1)])) (fun t k => ?_) ?_
  · show Steps p.tables e below (T10.setTop (mkF m 71 #[.val (.ref a1), .val (.int p2), .val (.int p3)] [(.int (0 : Int32)), (.ref a1)])) _
    refine XS.iconst X10.here hx rfl (hb hby d5_71) ?_
    show Steps p.tables e below (T10.setTop (mkF m 72 #[.val (.ref a1), .val (.int p2), .val (.int p3)] [(.int (1 : Int32)), (.int (0 : Int32)), (.ref a1)])) _
    refine XS.iadd X10.here hx rfl (hb hby d5_72) rfl ?_
    exact k
  obtain ⟨T11, h11, X11, e11, W11, st11⟩ := putF X10 hx hZ hown (host := "") (Or.inl (hw _ (List.mem_of_getElem? (i := 22) rfl))) Via.refl e10 c9_F_a1_size c9_E_a1 (Or.inl (hw _ (List.mem_of_getElem? (i := 23) rfl))) (hw _ (List.mem_of_getElem? (i := 2) rfl)) (ty := .int) (by decide) rfl rfl (g := (mkF m 73 #[.val (.ref a1), .val (.int p2), .val (.int p3)] [(.int (1 : Int32)), (.ref a1)])) rfl rfl (hb hby d5_73)
  have c11_E_a1 := c9_E_a1.wr W11
  have c11_F_a1_size := c9_F_a1_size.same W11
  have c11_F_a1_documents := c9_F_a1_documents.other W11 (Or.inr (slot_ne (Or.inl (hw _ (List.mem_of_getElem? (i := 14) rfl))) (Or.inl (hw _ (List.mem_of_getElem? (i := 23) rfl))) (by decide) (t := (.array .int)) (t' := .int) (by decide) (by decide)))
  have c11_F_a1_frequencies := c9_F_a1_frequencies.other W11 (Or.inr (slot_ne (Or.inl (hw _ (List.mem_of_getElem? (i := 16) rfl))) (Or.inl (hw _ (List.mem_of_getElem? (i := 23) rfl))) (by decide) (t := (.array .int)) (t' := .int) (by decide) (by decide)))
  have c11_F_a1_collectionFrequency := c9_F_a1_collectionFrequency.other W11 (Or.inr (slot_ne (Or.inl (hw _ (List.mem_of_getElem? (i := 34) rfl))) (Or.inl (hw _ (List.mem_of_getElem? (i := 23) rfl))) (by decide) (t := .long) (t' := .int) (by decide) (by decide)))
  have c11_V_d1 := c9_V_d1.other W11 (Ne.symm n_ad)
  have c11_V_f1 := V9.other W11 (Ne.symm n_af)
  have K11 := K9.wr W11 (Or.inl (List.mem_of_getElem? (i := 0) rfl))
  have N11 := Fr.snoc X11 N9 g_a1
  refine own_go (B := T11.setTop (mkF m 76 #[.val (.ref a1), .val (.int p2), .val (.int p3)] [])) (fun t k => st11 _ k) ?_
  refine own_go (B := T11.setTop (mkF m 78 #[.val (.ref a1), .val (.int p2), .val (.int p3)] [(.ref a1), (.ref a1)])) (fun t k => ?_) ?_
  · show Steps p.tables e below (T11.setTop (mkF m 76 #[.val (.ref a1), .val (.int p2), .val (.int p3)] [])) _
    refine XS.aloadN X11.here hx rfl (hb hby d5_76) rfl rfl ?_
    show Steps p.tables e below (T11.setTop (mkF m 77 #[.val (.ref a1), .val (.int p2), .val (.int p3)] [(.ref a1)])) _
    refine XS.dup X11.here hx rfl (hb hby d5_77) rfl rfl ?_
    exact k
  obtain ⟨T12, X12, e12, st12⟩ := getF X11 hx hZ hown (host := "") (Or.inl (hw _ (List.mem_of_getElem? (i := 33) rfl))) Via.refl e11 c11_F_a1_collectionFrequency (g := (mkF m 78 #[.val (.ref a1), .val (.int p2), .val (.int p3)] [(.ref a1), (.ref a1)])) rfl rfl (hb hby d5_78)
  refine own_go (B := T12.setTop (mkF m 81 #[.val (.ref a1), .val (.int p2), .val (.int p3)] [(.long cf), (.ref a1)])) (fun t k => st12 _ k) ?_
  refine own_go (B := T12.setTop (mkF m 84 #[.val (.ref a1), .val (.int p2), .val (.int p3)] [(.long (cf + (p3.toInt64))), (.ref a1)])) (fun t k => ?_) ?_
  · show Steps p.tables e below (T12.setTop (mkF m 81 #[.val (.ref a1), .val (.int p2), .val (.int p3)] [(.long cf), (.ref a1)])) _
    refine XS.iloadN X12.here hx rfl (hb hby d5_81) rfl ?_
    show Steps p.tables e below (T12.setTop (mkF m 82 #[.val (.ref a1), .val (.int p2), .val (.int p3)] [(.int p3), (.long cf), (.ref a1)])) _
    refine XS.i2l X12.here hx rfl (hb hby d5_82) rfl ?_
    show Steps p.tables e below (T12.setTop (mkF m 83 #[.val (.ref a1), .val (.int p2), .val (.int p3)] [(.long (p3.toInt64)), (.long cf), (.ref a1)])) _
    refine XS.ladd X12.here hx rfl (hb hby d5_83) rfl ?_
    exact k
  obtain ⟨T13, h13, X13, e13, W13, st13⟩ := putF X12 hx hZ hown (host := "") (Or.inl (hw _ (List.mem_of_getElem? (i := 33) rfl))) Via.refl e12 c11_F_a1_collectionFrequency c11_E_a1 (Or.inl (hw _ (List.mem_of_getElem? (i := 34) rfl))) (hw _ (List.mem_of_getElem? (i := 2) rfl)) (ty := .long) (by decide) rfl rfl (g := (mkF m 84 #[.val (.ref a1), .val (.int p2), .val (.int p3)] [(.long (cf + (p3.toInt64))), (.ref a1)])) rfl rfl (hb hby d5_84)
  have c13_E_a1 := c11_E_a1.wr W13
  have c13_F_a1_size := c11_F_a1_size.other W13 (Or.inr (slot_ne (Or.inl (hw _ (List.mem_of_getElem? (i := 23) rfl))) (Or.inl (hw _ (List.mem_of_getElem? (i := 34) rfl))) (by decide) (t := .int) (t' := .long) (by decide) (by decide)))
  have c13_F_a1_documents := c11_F_a1_documents.other W13 (Or.inr (slot_ne (Or.inl (hw _ (List.mem_of_getElem? (i := 14) rfl))) (Or.inl (hw _ (List.mem_of_getElem? (i := 34) rfl))) (by decide) (t := (.array .int)) (t' := .long) (by decide) (by decide)))
  have c13_F_a1_frequencies := c11_F_a1_frequencies.other W13 (Or.inr (slot_ne (Or.inl (hw _ (List.mem_of_getElem? (i := 16) rfl))) (Or.inl (hw _ (List.mem_of_getElem? (i := 34) rfl))) (by decide) (t := (.array .int)) (t' := .long) (by decide) (by decide)))
  have c13_F_a1_collectionFrequency := c11_F_a1_collectionFrequency.same W13
  have c13_V_d1 := c11_V_d1.other W13 (Ne.symm n_ad)
  have c13_V_f1 := c11_V_f1.other W13 (Ne.symm n_af)
  have K13 := K11.wr W13 (Or.inl (List.mem_of_getElem? (i := 0) rfl))
  have N13 := Fr.snoc X13 N11 g_a1
  refine own_go (B := T13.setTop (mkF m 87 #[.val (.ref a1), .val (.int p2), .val (.int p3)] [])) (fun t k => st13 _ k) ?_
  obtain ⟨fs, hr, hrun, hended, hW, hsame⟩ := X13.leave (v := none) (fun _ => rfl)
  refine ⟨_, _, ?_, hrun, hended, _, _, rfl, ?_, ⟨_, rfl⟩, hW, hsame.mono (by decide) (by decide)⟩
  · show Steps p.tables e below (T13.setTop (mkF m 87 #[.val (.ref a1), .val (.int p2), .val (.int p3)] [])) _
    exact X13.returnOut hx Bd.returns (hb hby d5_87) hr
  · show Q5_0 Z a1 p2 p3 d1 f1 kd kf N1 cf h0 n0 _ T13.heap _
    rw [e13]
    exact ⟨rfl, N13, K13, c13_E_a1, c13_F_a1_size, c13_F_a1_documents, c13_F_a1_frequencies, c13_F_a1_collectionFrequency, c13_V_d1, c13_V_f1⟩
def Q5_1 (Z : State) (a1 : Addr) (p2 : Int32) (p3 : Int32) (d1 : Addr) (f1 : Addr) (kd : ClassId) (kf : ClassId) (N1 : Int32) (cf : Int64) (x0 : Int32) (y0 : Int32) (h0 : Heap) (n0 : Nat) (v : Option Value) (h : Heap) (L : List Loc) : Prop := v = none ∧ Fr n0 L ∧ Keep h0 h [a1, d1, f1] ∧ Exa Z h a1 "com/example/libqlm/libqlm/Postings" ∧ Fld Z h a1 "com/example/libqlm/libqlm/Postings" "size" "I" (.int (2 : Int32)) ∧ Fld Z h a1 "com/example/libqlm/libqlm/Postings" "documents" "[I" (.ref d1) ∧ Fld Z h a1 "com/example/libqlm/libqlm/Postings" "frequencies" "[I" (.ref f1) ∧ Fld Z h a1 "com/example/libqlm/libqlm/Postings" "collectionFrequency" "J" (.long (cf + (p3.toInt64))) ∧ Arv Z h d1 kd .int N1 [(.int x0), (.int p2)] (.int (0 : Int32)) ∧ Arv Z h f1 kf .int N1 [(.int y0), (.int p3)] (.int (0 : Int32))
set_option maxRecDepth 65536 in
set_option maxHeartbeats 40000000 in
theorem rm5_1 (l : Launch) (Z : State) (a0 : Array Value) (hw : ∀ d ∈ tables_1, d.before a0 Z = true) (ws : List Jvm.Cond) (a1 : Addr) (p2 : Int32) (p3 : Int32) (d1 : Addr) (f1 : Addr) (kd : ClassId) (kf : ClassId) (N1 : Int32) (cf : Int64) (x0 : Int32) (y0 : Int32) (h0 : Heap) (n0 : Nat) (Z0 : n0 ≤ h0.size) (E_a1 : Exa Z h0 a1 "com/example/libqlm/libqlm/Postings") (g_a1 : n0 ≤ a1) (g_d1 : n0 ≤ d1) (g_f1 : n0 ≤ f1) (F_s : Fld Z h0 a1 "com/example/libqlm/libqlm/Postings" "size" "I" (.int (1 : Int32))) (F_d : Fld Z h0 a1 "com/example/libqlm/libqlm/Postings" "documents" "[I" (.ref d1)) (F_f : Fld Z h0 a1 "com/example/libqlm/libqlm/Postings" "frequencies" "[I" (.ref f1)) (F_c : Fld Z h0 a1 "com/example/libqlm/libqlm/Postings" "collectionFrequency" "J" (.long cf)) (V_d : Arv Z h0 d1 kd .int N1 [(.int x0)] (.int (0 : Int32))) (V_f : Arv Z h0 f1 kf .int N1 [(.int y0)] (.int (0 : Int32))) (n_ad : a1 ≠ d1) (n_af : a1 ≠ f1) (n_df : d1 ≠ f1) (hN : (1 : Int32) < N1) :
    MetFree l (⟨"com/example/libqlm/libqlm/Postings", "add", "(II)V"⟩ : MethodName) (head1 (Jvm.Cond.code (⟨"com/example/libqlm/libqlm/Postings", "add", "(II)V"⟩ : MethodName) prog_92_method_4_code 3 none :: ws) ({ frames := 0, cells := 0, slots := 0, locals := 0 } : Room)) (fun a U => a = #[(.ref a1), (.int p2), (.int p3)] ∧ Z.Warmed39 U.vm ∧ U.heap = h0) (fun _ _ _ _ _ => True) (fun _ U o U' => ∃ v L, o = .returned v ∧ Q5_1 Z a1 p2 p3 d1 f1 kd kf N1 cf x0 y0 h0 n0 v U'.heap L ∧ FrameEnd U o U' L ({ frames := 0, cells := 0, slots := 0, locals := 0 } : Room).cells ({ frames := 0, cells := 0, slots := 0, locals := 0 } : Room).slots) := by
  refine MetFree.of_bodySF (plainFor_of_name pn_5) hisR ?_
  intro p e s m args below meth c s₁ Bd hml0 hP hK
  obtain ⟨rfl, hZ, hh⟩ := hP
  have hx := Bd.exec
  have hby := Bd.bytes
  have hml : c.maxLocals = 3 := hml0
  have hown : s.vm.findClass "com/example/libqlm/libqlm/Postings" = some m.cls := findClass_of_methodNamed Bd.named
  have hnm := (name_of_methodNamed Bd.named Bd.method).1
  have X0 : Stand p l e ({ frames := 0, cells := 0, slots := 0, locals := 0 } : Room) s m #[(.ref a1), (.int p2), (.int p3)] below meth c s₁ [] 0 0 := Stand.of_body Bd
  have e0 : s₁.heap = h0 := by rw [← hh, Bd.state]; rfl
  have N0 := Fr.nil n0
  refine own_go (B := s₁.setTop (mkF m 0 #[.val (.ref a1), .val (.int p2), .val (.int p3)] [])) (fun t k => castTop (ef_5 m a1 p2 p3) k) ?_
  refine own_go (B := s₁.setTop (mkF m 1 #[.val (.ref a1), .val (.int p2), .val (.int p3)] [(.ref a1)])) (fun t k => ?_) ?_
  · show Steps p.tables e below (s₁.setTop (mkF m 0 #[.val (.ref a1), .val (.int p2), .val (.int p3)] [])) _
    refine XS.aloadN X0.here hx rfl (hb hby d5_0) rfl rfl ?_
    exact k
  obtain ⟨T1, X1, e1, st1⟩ := getF X0 hx hZ hown (host := "") (Or.inl (hw _ (List.mem_of_getElem? (i := 22) rfl))) Via.refl e0 F_s (g := (mkF m 1 #[.val (.ref a1), .val (.int p2), .val (.int p3)] [(.ref a1)])) rfl rfl (hb hby d5_1)
  refine own_go (B := T1.setTop (mkF m 4 #[.val (.ref a1), .val (.int p2), .val (.int p3)] [(.int (1 : Int32))])) (fun t k => st1 _ k) ?_
  refine own_go (B := T1.setTop (mkF m 5 #[.val (.ref a1), .val (.int p2), .val (.int p3)] [(.ref a1), (.int (1 : Int32))])) (fun t k => ?_) ?_
  · show Steps p.tables e below (T1.setTop (mkF m 4 #[.val (.ref a1), .val (.int p2), .val (.int p3)] [(.int (1 : Int32))])) _
    refine XS.aloadN X1.here hx rfl (hb hby d5_4) rfl rfl ?_
    exact k
  obtain ⟨T2, X2, e2, st2⟩ := getF X1 hx hZ hown (host := "") (Or.inl (hw _ (List.mem_of_getElem? (i := 13) rfl))) Via.refl e1 F_d (g := (mkF m 5 #[.val (.ref a1), .val (.int p2), .val (.int p3)] [(.ref a1), (.int (1 : Int32))])) rfl rfl (hb hby d5_5)
  refine own_go (B := T2.setTop (mkF m 8 #[.val (.ref a1), .val (.int p2), .val (.int p3)] [(.ref d1), (.int (1 : Int32))])) (fun t k => st2 _ k) ?_
  obtain ⟨cl3, Ar3, qk3, S3, M3, H3, G3⟩ := id V_d
  refine own_go (B := T2.setTop (mkF m 47 #[.val (.ref a1), .val (.int p2), .val (.int p3)] [(.ref a1)])) (fun t k => ?_) ?_
  · show Steps p.tables e below (T2.setTop (mkF m 8 #[.val (.ref a1), .val (.int p2), .val (.int p3)] [(.ref d1), (.int (1 : Int32))])) _
    refine X2.arraylength hx (by rw [e2]; exact Ar3.1) (State.isArrayOf_alike hZ.alike Ar3.2.1) (g := (mkF m 8 #[.val (.ref a1), .val (.int p2), .val (.int p3)] [(.ref d1), (.int (1 : Int32))])) rfl rfl (hb hby d5_8) _ ?_
    rw [len_of S3 M3]
    show Steps p.tables e below (T2.setTop (mkF m 9 #[.val (.ref a1), .val (.int p2), .val (.int p3)] [(.int N1), (.int (1 : Int32))])) _
    refine XS.icmpYes X2.here hx rfl (pc0 := 9) (pc' := 46) rfl (hb hby d5_9) rfl (feq (own_ne hN)).2 (by decide) (by decide) ?_
    show Steps p.tables e below (T2.setTop (mkF m 46 #[.val (.ref a1), .val (.int p2), .val (.int p3)] [])) _
    refine XS.aloadN X2.here hx rfl (hb hby d5_46) rfl rfl ?_
    exact k
  obtain ⟨T4, X4, e4, st4⟩ := getF X2 hx hZ hown (host := "") (Or.inl (hw _ (List.mem_of_getElem? (i := 13) rfl))) Via.refl e2 F_d (g := (mkF m 47 #[.val (.ref a1), .val (.int p2), .val (.int p3)] [(.ref a1)])) rfl rfl (hb hby d5_47)
  refine own_go (B := T4.setTop (mkF m 50 #[.val (.ref a1), .val (.int p2), .val (.int p3)] [(.ref d1)])) (fun t k => st4 _ k) ?_
  refine own_go (B := T4.setTop (mkF m 51 #[.val (.ref a1), .val (.int p2), .val (.int p3)] [(.ref a1), (.ref d1)])) (fun t k => ?_) ?_
  · show Steps p.tables e below (T4.setTop (mkF m 50 #[.val (.ref a1), .val (.int p2), .val (.int p3)] [(.ref d1)])) _
    refine XS.aloadN X4.here hx rfl (hb hby d5_50) rfl rfl ?_
    exact k
  obtain ⟨T5, X5, e5, st5⟩ := getF X4 hx hZ hown (host := "") (Or.inl (hw _ (List.mem_of_getElem? (i := 22) rfl))) Via.refl e4 F_s (g := (mkF m 51 #[.val (.ref a1), .val (.int p2), .val (.int p3)] [(.ref a1), (.ref d1)])) rfl rfl (hb hby d5_51)
  refine own_go (B := T5.setTop (mkF m 54 #[.val (.ref a1), .val (.int p2), .val (.int p3)] [(.int (1 : Int32)), (.ref d1)])) (fun t k => st5 _ k) ?_
  refine own_go (B := T5.setTop (mkF m 55 #[.val (.ref a1), .val (.int p2), .val (.int p3)] [(.int p2), (.int (1 : Int32)), (.ref d1)])) (fun t k => ?_) ?_
  · show Steps p.tables e below (T5.setTop (mkF m 54 #[.val (.ref a1), .val (.int p2), .val (.int p3)] [(.int (1 : Int32)), (.ref d1)])) _
    refine XS.iloadN X5.here hx rfl (hb hby d5_54) rfl ?_
    exact k
  have Vp6 : Arv Z h0 d1 kd .int N1 [(.int x0), (.int (0 : Int32))] (.int (0 : Int32)) := (V_d).pad (pad_rep [(.int x0)] (.int (0 : Int32)) 1)
  obtain ⟨cl6, Ar6, qk6, S6, M6, H6, G6⟩ := id Vp6
  obtain ⟨T6, h6, X6, e6, W6, st6⟩ := stI X5 hx hZ e5 Ar6 (j := (1 : Int32)) (inb_of S6 ⟨by decide, hN⟩) (g := (mkF m 55 #[.val (.ref a1), .val (.int p2), .val (.int p3)] [(.int p2), (.int (1 : Int32)), (.ref d1)])) rfl rfl (hb hby d5_55)
  have V6 : Arv Z h6 d1 kd .int N1 [(.int x0), (.int p2)] (.int (0 : Int32)) := Arv.set Ar6 qk6 S6 M6 H6 G6 rfl W6 1 rfl (Nat.le_of_ble_eq_true rfl)
  have c6_E_a1 := E_a1.wr W6
  have c6_F_a1_size := F_s.other W6 (Or.inl n_ad)
  have c6_F_a1_documents := F_d.other W6 (Or.inl n_ad)
  have c6_F_a1_frequencies := F_f.other W6 (Or.inl n_ad)
  have c6_F_a1_collectionFrequency := F_c.other W6 (Or.inl n_ad)
  have c6_V_f1 := V_f.other W6 (Ne.symm n_df)
  have K6 := (Keep.refl h0 [a1, d1, f1]).wr W6 (Or.inl (List.mem_of_getElem? (i := 1) rfl))
  have N6 := Fr.snoc X6 N0 g_d1
  refine own_go (B := T6.setTop (mkF m 56 #[.val (.ref a1), .val (.int p2), .val (.int p3)] [])) (fun t k => st6 _ k) ?_
  refine own_go (B := T6.setTop (mkF m 57 #[.val (.ref a1), .val (.int p2), .val (.int p3)] [(.ref a1)])) (fun t k => ?_) ?_
  · show Steps p.tables e below (T6.setTop (mkF m 56 #[.val (.ref a1), .val (.int p2), .val (.int p3)] [])) _
    refine XS.aloadN X6.here hx rfl (hb hby d5_56) rfl rfl ?_
    exact k
  obtain ⟨T7, X7, e7, st7⟩ := getF X6 hx hZ hown (host := "") (Or.inl (hw _ (List.mem_of_getElem? (i := 15) rfl))) Via.refl e6 c6_F_a1_frequencies (g := (mkF m 57 #[.val (.ref a1), .val (.int p2), .val (.int p3)] [(.ref a1)])) rfl rfl (hb hby d5_57)
  refine own_go (B := T7.setTop (mkF m 60 #[.val (.ref a1), .val (.int p2), .val (.int p3)] [(.ref f1)])) (fun t k => st7 _ k) ?_
  refine own_go (B := T7.setTop (mkF m 61 #[.val (.ref a1), .val (.int p2), .val (.int p3)] [(.ref a1), (.ref f1)])) (fun t k => ?_) ?_
  · show Steps p.tables e below (T7.setTop (mkF m 60 #[.val (.ref a1), .val (.int p2), .val (.int p3)] [(.ref f1)])) _
    refine XS.aloadN X7.here hx rfl (hb hby d5_60) rfl rfl ?_
    exact k
  obtain ⟨T8, X8, e8, st8⟩ := getF X7 hx hZ hown (host := "") (Or.inl (hw _ (List.mem_of_getElem? (i := 22) rfl))) Via.refl e7 c6_F_a1_size (g := (mkF m 61 #[.val (.ref a1), .val (.int p2), .val (.int p3)] [(.ref a1), (.ref f1)])) rfl rfl (hb hby d5_61)
  refine own_go (B := T8.setTop (mkF m 64 #[.val (.ref a1), .val (.int p2), .val (.int p3)] [(.int (1 : Int32)), (.ref f1)])) (fun t k => st8 _ k) ?_
  refine own_go (B := T8.setTop (mkF m 65 #[.val (.ref a1), .val (.int p2), .val (.int p3)] [(.int p3), (.int (1 : Int32)), (.ref f1)])) (fun t k => ?_) ?_
  · show Steps p.tables e below (T8.setTop (mkF m 64 #[.val (.ref a1), .val (.int p2), .val (.int p3)] [(.int (1 : Int32)), (.ref f1)])) _
    refine XS.iloadN X8.here hx rfl (hb hby d5_64) rfl ?_
    exact k
  have Vp9 : Arv Z h6 f1 kf .int N1 [(.int y0), (.int (0 : Int32))] (.int (0 : Int32)) := (c6_V_f1).pad (pad_rep [(.int y0)] (.int (0 : Int32)) 1)
  obtain ⟨cl9, Ar9, qk9, S9, M9, H9, G9⟩ := id Vp9
  obtain ⟨T9, h9, X9, e9, W9, st9⟩ := stI X8 hx hZ e8 Ar9 (j := (1 : Int32)) (inb_of S9 ⟨by decide, hN⟩) (g := (mkF m 65 #[.val (.ref a1), .val (.int p2), .val (.int p3)] [(.int p3), (.int (1 : Int32)), (.ref f1)])) rfl rfl (hb hby d5_65)
  have V9 : Arv Z h9 f1 kf .int N1 [(.int y0), (.int p3)] (.int (0 : Int32)) := Arv.set Ar9 qk9 S9 M9 H9 G9 rfl W9 1 rfl (Nat.le_of_ble_eq_true rfl)
  have c9_E_a1 := c6_E_a1.wr W9
  have c9_F_a1_size := c6_F_a1_size.other W9 (Or.inl n_af)
  have c9_F_a1_documents := c6_F_a1_documents.other W9 (Or.inl n_af)
  have c9_F_a1_frequencies := c6_F_a1_frequencies.other W9 (Or.inl n_af)
  have c9_F_a1_collectionFrequency := c6_F_a1_collectionFrequency.other W9 (Or.inl n_af)
  have c9_V_d1 := V6.other W9 n_df
  have K9 := K6.wr W9 (Or.inl (List.mem_of_getElem? (i := 2) rfl))
  have N9 := Fr.snoc X9 N6 g_f1
  refine own_go (B := T9.setTop (mkF m 66 #[.val (.ref a1), .val (.int p2), .val (.int p3)] [])) (fun t k => st9 _ k) ?_
  refine own_go (B := T9.setTop (mkF m 68 #[.val (.ref a1), .val (.int p2), .val (.int p3)] [(.ref a1), (.ref a1)])) (fun t k => ?_) ?_
  · show Steps p.tables e below (T9.setTop (mkF m 66 #[.val (.ref a1), .val (.int p2), .val (.int p3)] [])) _
    refine XS.aloadN X9.here hx rfl (hb hby d5_66) rfl rfl ?_
    show Steps p.tables e below (T9.setTop (mkF m 67 #[.val (.ref a1), .val (.int p2), .val (.int p3)] [(.ref a1)])) _
    refine XS.dup X9.here hx rfl (hb hby d5_67) rfl rfl ?_
    exact k
  obtain ⟨T10, X10, e10, st10⟩ := getF X9 hx hZ hown (host := "") (Or.inl (hw _ (List.mem_of_getElem? (i := 22) rfl))) Via.refl e9 c9_F_a1_size (g := (mkF m 68 #[.val (.ref a1), .val (.int p2), .val (.int p3)] [(.ref a1), (.ref a1)])) rfl rfl (hb hby d5_68)
  refine own_go (B := T10.setTop (mkF m 71 #[.val (.ref a1), .val (.int p2), .val (.int p3)] [(.int (1 : Int32)), (.ref a1)])) (fun t k => st10 _ k) ?_
  refine own_go (B := T10.setTop (mkF m 73 #[.val (.ref a1), .val (.int p2), .val (.int p3)] [(.int (2 : Int32)), (.ref a1)])) (fun t k => ?_) ?_
  · show Steps p.tables e below (T10.setTop (mkF m 71 #[.val (.ref a1), .val (.int p2), .val (.int p3)] [(.int (1 : Int32)), (.ref a1)])) _
    refine XS.iconst X10.here hx rfl (hb hby d5_71) ?_
    show Steps p.tables e below (T10.setTop (mkF m 72 #[.val (.ref a1), .val (.int p2), .val (.int p3)] [(.int (1 : Int32)), (.int (1 : Int32)), (.ref a1)])) _
    refine XS.iadd X10.here hx rfl (hb hby d5_72) rfl ?_
    exact k
  obtain ⟨T11, h11, X11, e11, W11, st11⟩ := putF X10 hx hZ hown (host := "") (Or.inl (hw _ (List.mem_of_getElem? (i := 22) rfl))) Via.refl e10 c9_F_a1_size c9_E_a1 (Or.inl (hw _ (List.mem_of_getElem? (i := 23) rfl))) (hw _ (List.mem_of_getElem? (i := 2) rfl)) (ty := .int) (by decide) rfl rfl (g := (mkF m 73 #[.val (.ref a1), .val (.int p2), .val (.int p3)] [(.int (2 : Int32)), (.ref a1)])) rfl rfl (hb hby d5_73)
  have c11_E_a1 := c9_E_a1.wr W11
  have c11_F_a1_size := c9_F_a1_size.same W11
  have c11_F_a1_documents := c9_F_a1_documents.other W11 (Or.inr (slot_ne (Or.inl (hw _ (List.mem_of_getElem? (i := 14) rfl))) (Or.inl (hw _ (List.mem_of_getElem? (i := 23) rfl))) (by decide) (t := (.array .int)) (t' := .int) (by decide) (by decide)))
  have c11_F_a1_frequencies := c9_F_a1_frequencies.other W11 (Or.inr (slot_ne (Or.inl (hw _ (List.mem_of_getElem? (i := 16) rfl))) (Or.inl (hw _ (List.mem_of_getElem? (i := 23) rfl))) (by decide) (t := (.array .int)) (t' := .int) (by decide) (by decide)))
  have c11_F_a1_collectionFrequency := c9_F_a1_collectionFrequency.other W11 (Or.inr (slot_ne (Or.inl (hw _ (List.mem_of_getElem? (i := 34) rfl))) (Or.inl (hw _ (List.mem_of_getElem? (i := 23) rfl))) (by decide) (t := .long) (t' := .int) (by decide) (by decide)))
  have c11_V_d1 := c9_V_d1.other W11 (Ne.symm n_ad)
  have c11_V_f1 := V9.other W11 (Ne.symm n_af)
  have K11 := K9.wr W11 (Or.inl (List.mem_of_getElem? (i := 0) rfl))
  have N11 := Fr.snoc X11 N9 g_a1
  refine own_go (B := T11.setTop (mkF m 76 #[.val (.ref a1), .val (.int p2), .val (.int p3)] [])) (fun t k => st11 _ k) ?_
  refine own_go (B := T11.setTop (mkF m 78 #[.val (.ref a1), .val (.int p2), .val (.int p3)] [(.ref a1), (.ref a1)])) (fun t k => ?_) ?_
  · show Steps p.tables e below (T11.setTop (mkF m 76 #[.val (.ref a1), .val (.int p2), .val (.int p3)] [])) _
    refine XS.aloadN X11.here hx rfl (hb hby d5_76) rfl rfl ?_
    show Steps p.tables e below (T11.setTop (mkF m 77 #[.val (.ref a1), .val (.int p2), .val (.int p3)] [(.ref a1)])) _
    refine XS.dup X11.here hx rfl (hb hby d5_77) rfl rfl ?_
    exact k
  obtain ⟨T12, X12, e12, st12⟩ := getF X11 hx hZ hown (host := "") (Or.inl (hw _ (List.mem_of_getElem? (i := 33) rfl))) Via.refl e11 c11_F_a1_collectionFrequency (g := (mkF m 78 #[.val (.ref a1), .val (.int p2), .val (.int p3)] [(.ref a1), (.ref a1)])) rfl rfl (hb hby d5_78)
  refine own_go (B := T12.setTop (mkF m 81 #[.val (.ref a1), .val (.int p2), .val (.int p3)] [(.long cf), (.ref a1)])) (fun t k => st12 _ k) ?_
  refine own_go (B := T12.setTop (mkF m 84 #[.val (.ref a1), .val (.int p2), .val (.int p3)] [(.long (cf + (p3.toInt64))), (.ref a1)])) (fun t k => ?_) ?_
  · show Steps p.tables e below (T12.setTop (mkF m 81 #[.val (.ref a1), .val (.int p2), .val (.int p3)] [(.long cf), (.ref a1)])) _
    refine XS.iloadN X12.here hx rfl (hb hby d5_81) rfl ?_
    show Steps p.tables e below (T12.setTop (mkF m 82 #[.val (.ref a1), .val (.int p2), .val (.int p3)] [(.int p3), (.long cf), (.ref a1)])) _
    refine XS.i2l X12.here hx rfl (hb hby d5_82) rfl ?_
    show Steps p.tables e below (T12.setTop (mkF m 83 #[.val (.ref a1), .val (.int p2), .val (.int p3)] [(.long (p3.toInt64)), (.long cf), (.ref a1)])) _
    refine XS.ladd X12.here hx rfl (hb hby d5_83) rfl ?_
    exact k
  obtain ⟨T13, h13, X13, e13, W13, st13⟩ := putF X12 hx hZ hown (host := "") (Or.inl (hw _ (List.mem_of_getElem? (i := 33) rfl))) Via.refl e12 c11_F_a1_collectionFrequency c11_E_a1 (Or.inl (hw _ (List.mem_of_getElem? (i := 34) rfl))) (hw _ (List.mem_of_getElem? (i := 2) rfl)) (ty := .long) (by decide) rfl rfl (g := (mkF m 84 #[.val (.ref a1), .val (.int p2), .val (.int p3)] [(.long (cf + (p3.toInt64))), (.ref a1)])) rfl rfl (hb hby d5_84)
  have c13_E_a1 := c11_E_a1.wr W13
  have c13_F_a1_size := c11_F_a1_size.other W13 (Or.inr (slot_ne (Or.inl (hw _ (List.mem_of_getElem? (i := 23) rfl))) (Or.inl (hw _ (List.mem_of_getElem? (i := 34) rfl))) (by decide) (t := .int) (t' := .long) (by decide) (by decide)))
  have c13_F_a1_documents := c11_F_a1_documents.other W13 (Or.inr (slot_ne (Or.inl (hw _ (List.mem_of_getElem? (i := 14) rfl))) (Or.inl (hw _ (List.mem_of_getElem? (i := 34) rfl))) (by decide) (t := (.array .int)) (t' := .long) (by decide) (by decide)))
  have c13_F_a1_frequencies := c11_F_a1_frequencies.other W13 (Or.inr (slot_ne (Or.inl (hw _ (List.mem_of_getElem? (i := 16) rfl))) (Or.inl (hw _ (List.mem_of_getElem? (i := 34) rfl))) (by decide) (t := (.array .int)) (t' := .long) (by decide) (by decide)))
  have c13_F_a1_collectionFrequency := c11_F_a1_collectionFrequency.same W13
  have c13_V_d1 := c11_V_d1.other W13 (Ne.symm n_ad)
  have c13_V_f1 := c11_V_f1.other W13 (Ne.symm n_af)
  have K13 := K11.wr W13 (Or.inl (List.mem_of_getElem? (i := 0) rfl))
  have N13 := Fr.snoc X13 N11 g_a1
  refine own_go (B := T13.setTop (mkF m 87 #[.val (.ref a1), .val (.int p2), .val (.int p3)] [])) (fun t k => st13 _ k) ?_
  obtain ⟨fs, hr, hrun, hended, hW, hsame⟩ := X13.leave (v := none) (fun _ => rfl)
  refine ⟨_, _, ?_, hrun, hended, _, _, rfl, ?_, ⟨_, rfl⟩, hW, hsame.mono (by decide) (by decide)⟩
  · show Steps p.tables e below (T13.setTop (mkF m 87 #[.val (.ref a1), .val (.int p2), .val (.int p3)] [])) _
    exact X13.returnOut hx Bd.returns (hb hby d5_87) hr
  · show Q5_1 Z a1 p2 p3 d1 f1 kd kf N1 cf x0 y0 h0 n0 _ T13.heap _
    rw [e13]
    exact ⟨rfl, N13, K13, c13_E_a1, c13_F_a1_size, c13_F_a1_documents, c13_F_a1_frequencies, c13_F_a1_collectionFrequency, c13_V_d1, c13_V_f1⟩
theorem d5_12 : decode prog_92_method_4_code 12 = .ok (.aload_n 0, 1) := by decide +kernel
theorem d5_13 : decode prog_92_method_4_code 13 = .ok (.aload_n 0, 1) := by decide +kernel
theorem d5_14 : decode prog_92_method_4_code 14 = .ok (.getfield 16, 3) := by decide +kernel
theorem d5_17 : decode prog_92_method_4_code 17 = .ok (.aload_n 0, 1) := by decide +kernel
theorem d5_18 : decode prog_92_method_4_code 18 = .ok (.getfield 23, 3) := by decide +kernel
theorem d5_21 : decode prog_92_method_4_code 21 = .ok (.iconst 2, 1) := by decide +kernel
theorem d5_22 : decode prog_92_method_4_code 22 = .ok (.imul, 1) := by decide +kernel
theorem d5_23 : decode prog_92_method_4_code 23 = .ok (.invokestatic 26, 3) := by decide +kernel
theorem d5_26 : decode prog_92_method_4_code 26 = .ok (.putfield 16, 3) := by decide +kernel
theorem d5_29 : decode prog_92_method_4_code 29 = .ok (.aload_n 0, 1) := by decide +kernel
theorem d5_30 : decode prog_92_method_4_code 30 = .ok (.aload_n 0, 1) := by decide +kernel
theorem d5_31 : decode prog_92_method_4_code 31 = .ok (.getfield 20, 3) := by decide +kernel
theorem d5_34 : decode prog_92_method_4_code 34 = .ok (.aload_n 0, 1) := by decide +kernel
theorem d5_35 : decode prog_92_method_4_code 35 = .ok (.getfield 23, 3) := by decide +kernel
theorem d5_38 : decode prog_92_method_4_code 38 = .ok (.iconst 2, 1) := by decide +kernel
theorem d5_39 : decode prog_92_method_4_code 39 = .ok (.imul, 1) := by decide +kernel
theorem d5_40 : decode prog_92_method_4_code 40 = .ok (.invokestatic 26, 3) := by decide +kernel
theorem d5_43 : decode prog_92_method_4_code 43 = .ok (.putfield 20, 3) := by decide +kernel
def Q5_1g (Z : State) (a1 : Addr) (p2 : Int32) (p3 : Int32) (d1 : Addr) (f1 : Addr) (kd : ClassId) (kf : ClassId) (cf : Int64) (x0 : Int32) (y0 : Int32) (h0 : Heap) (n0 : Nat) (v : Option Value) (h : Heap) (L : List Loc) : Prop := v = none ∧ Fr n0 L ∧ (∃ (d f : Addr) (kd kf : ClassId), Keep h0 h [a1] ∧ Exa Z h a1 "com/example/libqlm/libqlm/Postings" ∧ Fld Z h a1 "com/example/libqlm/libqlm/Postings" "size" "I" (.int (2 : Int32)) ∧ Fld Z h a1 "com/example/libqlm/libqlm/Postings" "documents" "[I" (.ref d) ∧ Fld Z h a1 "com/example/libqlm/libqlm/Postings" "frequencies" "[I" (.ref f) ∧ Fld Z h a1 "com/example/libqlm/libqlm/Postings" "collectionFrequency" "J" (.long (cf + (p3.toInt64))) ∧ Arv Z h d kd .int (2 : Int32) [(.int x0), (.int p2)] (.int (0 : Int32)) ∧ Arv Z h f kf .int (2 : Int32) [(.int y0), (.int p3)] (.int (0 : Int32)) ∧ h0.size ≤ d ∧ h0.size ≤ f ∧ n0 ≤ d ∧ n0 ≤ f ∧ d ≠ f)
set_option maxRecDepth 65536 in
set_option maxHeartbeats 40000000 in
theorem rm5_1g (l : Launch) (Z : State) (a0 : Array Value) (hw : ∀ d ∈ tables_1, d.before a0 Z = true) (ws : List Jvm.Cond) (a1 : Addr) (p2 : Int32) (p3 : Int32) (d1 : Addr) (f1 : Addr) (kd : ClassId) (kf : ClassId) (cf : Int64) (x0 : Int32) (y0 : Int32) (h0 : Heap) (n0 : Nat) (Z0 : n0 ≤ h0.size) (E_a1 : Exa Z h0 a1 "com/example/libqlm/libqlm/Postings") (g_a1 : n0 ≤ a1) (g_d1 : n0 ≤ d1) (g_f1 : n0 ≤ f1) (F_s : Fld Z h0 a1 "com/example/libqlm/libqlm/Postings" "size" "I" (.int (1 : Int32))) (F_d : Fld Z h0 a1 "com/example/libqlm/libqlm/Postings" "documents" "[I" (.ref d1)) (F_f : Fld Z h0 a1 "com/example/libqlm/libqlm/Postings" "frequencies" "[I" (.ref f1)) (F_c : Fld Z h0 a1 "com/example/libqlm/libqlm/Postings" "collectionFrequency" "J" (.long cf)) (V_d : Arv Z h0 d1 kd .int (1 : Int32) [(.int x0)] (.int (0 : Int32))) (V_f : Arv Z h0 f1 kf .int (1 : Int32) [(.int y0)] (.int (0 : Int32))) (n_ad : a1 ≠ d1) (n_af : a1 ≠ f1) (n_df : d1 ≠ f1) :
    MetFree l (⟨"com/example/libqlm/libqlm/Postings", "add", "(II)V"⟩ : MethodName) (head1 (Jvm.Cond.code (⟨"com/example/libqlm/libqlm/Postings", "add", "(II)V"⟩ : MethodName) prog_92_method_4_code 3 none :: ws) ({ frames := 2, cells := 2, slots := 4, locals := 60 } : Room)) (fun a U => a = #[(.ref a1), (.int p2), (.int p3)] ∧ Z.Warmed39 U.vm ∧ U.heap = h0) (fun _ _ _ _ _ => True) (fun _ U o U' => ∃ v L, o = .returned v ∧ Q5_1g Z a1 p2 p3 d1 f1 kd kf cf x0 y0 h0 n0 v U'.heap L ∧ FrameEnd U o U' L ({ frames := 2, cells := 2, slots := 4, locals := 60 } : Room).cells ({ frames := 2, cells := 2, slots := 4, locals := 60 } : Room).slots) := by
  refine MetFree.of_bodySF (plainFor_of_name pn_5) hisR ?_
  intro p e s m args below meth c s₁ Bd hml0 hP hK
  obtain ⟨rfl, hZ, hh⟩ := hP
  have hx := Bd.exec
  have hby := Bd.bytes
  have hml : c.maxLocals = 3 := hml0
  have hown : s.vm.findClass "com/example/libqlm/libqlm/Postings" = some m.cls := findClass_of_methodNamed Bd.named
  have hnm := (name_of_methodNamed Bd.named Bd.method).1
  have X0 : Stand p l e ({ frames := 2, cells := 2, slots := 4, locals := 60 } : Room) s m #[(.ref a1), (.int p2), (.int p3)] below meth c s₁ [] 0 0 := Stand.of_body Bd
  have e0 : s₁.heap = h0 := by rw [← hh, Bd.state]; rfl
  have N0 := Fr.nil n0
  refine own_go (B := s₁.setTop (mkF m 0 #[.val (.ref a1), .val (.int p2), .val (.int p3)] [])) (fun t k => castTop (ef_5 m a1 p2 p3) k) ?_
  refine own_go (B := s₁.setTop (mkF m 1 #[.val (.ref a1), .val (.int p2), .val (.int p3)] [(.ref a1)])) (fun t k => ?_) ?_
  · show Steps p.tables e below (s₁.setTop (mkF m 0 #[.val (.ref a1), .val (.int p2), .val (.int p3)] [])) _
    refine XS.aloadN X0.here hx rfl (hb hby d5_0) rfl rfl ?_
    exact k
  obtain ⟨T1, X1, e1, st1⟩ := getF X0 hx hZ hown (host := "") (Or.inl (hw _ (List.mem_of_getElem? (i := 22) rfl))) Via.refl e0 F_s (g := (mkF m 1 #[.val (.ref a1), .val (.int p2), .val (.int p3)] [(.ref a1)])) rfl rfl (hb hby d5_1)
  refine own_go (B := T1.setTop (mkF m 4 #[.val (.ref a1), .val (.int p2), .val (.int p3)] [(.int (1 : Int32))])) (fun t k => st1 _ k) ?_
  refine own_go (B := T1.setTop (mkF m 5 #[.val (.ref a1), .val (.int p2), .val (.int p3)] [(.ref a1), (.int (1 : Int32))])) (fun t k => ?_) ?_
  · show Steps p.tables e below (T1.setTop (mkF m 4 #[.val (.ref a1), .val (.int p2), .val (.int p3)] [(.int (1 : Int32))])) _
    refine XS.aloadN X1.here hx rfl (hb hby d5_4) rfl rfl ?_
    exact k
  obtain ⟨T2, X2, e2, st2⟩ := getF X1 hx hZ hown (host := "") (Or.inl (hw _ (List.mem_of_getElem? (i := 13) rfl))) Via.refl e1 F_d (g := (mkF m 5 #[.val (.ref a1), .val (.int p2), .val (.int p3)] [(.ref a1), (.int (1 : Int32))])) rfl rfl (hb hby d5_5)
  refine own_go (B := T2.setTop (mkF m 8 #[.val (.ref a1), .val (.int p2), .val (.int p3)] [(.ref d1), (.int (1 : Int32))])) (fun t k => st2 _ k) ?_
  obtain ⟨cl3, Ar3, qk3, S3, M3, H3, G3⟩ := id V_d
  refine own_go (B := T2.setTop (mkF m 14 #[.val (.ref a1), .val (.int p2), .val (.int p3)] [(.ref a1), (.ref a1)])) (fun t k => ?_) ?_
  · show Steps p.tables e below (T2.setTop (mkF m 8 #[.val (.ref a1), .val (.int p2), .val (.int p3)] [(.ref d1), (.int (1 : Int32))])) _
    refine X2.arraylength hx (by rw [e2]; exact Ar3.1) (State.isArrayOf_alike hZ.alike Ar3.2.1) (g := (mkF m 8 #[.val (.ref a1), .val (.int p2), .val (.int p3)] [(.ref d1), (.int (1 : Int32))])) rfl rfl (hb hby d5_8) _ ?_
    rw [len_of S3 M3]
    show Steps p.tables e below (T2.setTop (mkF m 9 #[.val (.ref a1), .val (.int p2), .val (.int p3)] [(.int (1 : Int32)), (.int (1 : Int32))])) _
    refine XS.icmpNo X2.here hx rfl (hb hby d5_9) rfl (teq (by decide)).2 ?_
    show Steps p.tables e below (T2.setTop (mkF m 12 #[.val (.ref a1), .val (.int p2), .val (.int p3)] [])) _
    refine XS.aloadN X2.here hx rfl (hb hby d5_12) rfl rfl ?_
    show Steps p.tables e below (T2.setTop (mkF m 13 #[.val (.ref a1), .val (.int p2), .val (.int p3)] [(.ref a1)])) _
    refine XS.aloadN X2.here hx rfl (hb hby d5_13) rfl rfl ?_
    exact k
  obtain ⟨T4, X4, e4, st4⟩ := getF X2 hx hZ hown (host := "") (Or.inl (hw _ (List.mem_of_getElem? (i := 13) rfl))) Via.refl e2 F_d (g := (mkF m 14 #[.val (.ref a1), .val (.int p2), .val (.int p3)] [(.ref a1), (.ref a1)])) rfl rfl (hb hby d5_14)
  refine own_go (B := T4.setTop (mkF m 17 #[.val (.ref a1), .val (.int p2), .val (.int p3)] [(.ref d1), (.ref a1)])) (fun t k => st4 _ k) ?_
  refine own_go (B := T4.setTop (mkF m 18 #[.val (.ref a1), .val (.int p2), .val (.int p3)] [(.ref a1), (.ref d1), (.ref a1)])) (fun t k => ?_) ?_
  · show Steps p.tables e below (T4.setTop (mkF m 17 #[.val (.ref a1), .val (.int p2), .val (.int p3)] [(.ref d1), (.ref a1)])) _
    refine XS.aloadN X4.here hx rfl (hb hby d5_17) rfl rfl ?_
    exact k
  obtain ⟨T5, X5, e5, st5⟩ := getF X4 hx hZ hown (host := "") (Or.inl (hw _ (List.mem_of_getElem? (i := 22) rfl))) Via.refl e4 F_s (g := (mkF m 18 #[.val (.ref a1), .val (.int p2), .val (.int p3)] [(.ref a1), (.ref d1), (.ref a1)])) rfl rfl (hb hby d5_18)
  refine own_go (B := T5.setTop (mkF m 21 #[.val (.ref a1), .val (.int p2), .val (.int p3)] [(.int (1 : Int32)), (.ref d1), (.ref a1)])) (fun t k => st5 _ k) ?_
  refine own_go (B := T5.setTop (mkF m 23 #[.val (.ref a1), .val (.int p2), .val (.int p3)] [(.int (2 : Int32)), (.ref d1), (.ref a1)])) (fun t k => ?_) ?_
  · show Steps p.tables e below (T5.setTop (mkF m 21 #[.val (.ref a1), .val (.int p2), .val (.int p3)] [(.int (1 : Int32)), (.ref d1), (.ref a1)])) _
    refine XS.iconst X5.here hx rfl (hb hby d5_21) ?_
    show Steps p.tables e below (T5.setTop (mkF m 22 #[.val (.ref a1), .val (.int p2), .val (.int p3)] [(.int (2 : Int32)), (.int (1 : Int32)), (.ref d1), (.ref a1)])) _
    refine XS.imul X5.here hx rfl (hb hby d5_22) rfl ?_
    exact k
  obtain ⟨_, _, ⟨T6, L6, k6, n6⟩, -, X6, ⟨Lc6, hQ6, l6, y6, z6⟩, st6⟩ := Jvm.LawKit.callS X5 hx (y := (⟨"java/util/Arrays", "copyOf", "([II)[I"⟩ : MethodName)) hown (mvT hZ (hw _ (List.mem_of_getElem? (i := 35) rfl))) (mvT hZ (hw _ (List.mem_of_getElem? (i := 36) rfl))) (mvT hZ (hw _ (List.mem_of_getElem? (i := 37) rfl))) (mvT hZ (hw _ (List.mem_of_getElem? (i := 38) rfl))) (by decide) (backOf (W := 1) (rm6_1 l Z a0 hw [] d1 kd x0 h0 n0 Z0 V_d) hZ (hw _ (List.mem_of_getElem? (i := 38) rfl)) (hw _ (List.mem_of_getElem? (i := 37) rfl)) (by decide) (by decide)) (g := (mkF m 23 #[.val (.ref a1), .val (.int p2), .val (.int p3)] [(.int (2 : Int32)), (.ref d1), (.ref a1)])) rfl (by rw [hml]; rfl) (argsL := [(.ref d1), (.int (2 : Int32))]) (rest := [(.ref a1)]) (lenOf own_pd1 rfl) rfl (by show 2 * 0 + _ ≤ _; exact Nat.le_of_eq rfl) (hb hby d5_23) (fun _ _ => ⟨rfl, e5, (by decide : 0 + 1 ≤ _), (by decide : 0 + 2 ≤ _)⟩)
  dsimp only [Pt.U, Pt.locs, Pt.cells, Pt.slots] at X6 l6 y6 z6 st6 hQ6
  subst l6 y6 z6
  obtain ⟨bq6, kq6, rfl, N6q, K6q, q6z, q6g, V6q⟩ := hQ6
  have N6 := Fr.app N0 N6q
  have sz_bq6 : h0.size ≤ bq6 := Nat.le_trans (Keep.refl h0 [a1]).1 q6z
  have g_bq6 : n0 ≤ bq6 := q6g
  have ne_a1_bq6 : a1 ≠ bq6 := Nat.ne_of_lt (Nat.lt_of_lt_of_le E_a1.lt q6z)
  have ne_d1_bq6 : d1 ≠ bq6 := Nat.ne_of_lt (Nat.lt_of_lt_of_le V_d.lt q6z)
  have ne_f1_bq6 : f1 ≠ bq6 := Nat.ne_of_lt (Nat.lt_of_lt_of_le V_f.lt q6z)
  have c6_E_a1 := E_a1.keep K6q
  have c6_F_a1_size := F_s.keep K6q (List.not_mem_nil)
  have c6_F_a1_documents := F_d.keep K6q (List.not_mem_nil)
  have c6_F_a1_frequencies := F_f.keep K6q (List.not_mem_nil)
  have c6_F_a1_collectionFrequency := F_c.keep K6q (List.not_mem_nil)
  have c6_V_d1 := V_d.keep K6q (List.not_mem_nil)
  have c6_V_f1 := V_f.keep K6q (List.not_mem_nil)
  have K6 := (Keep.refl h0 [a1]).trans K6q all0
  refine own_go (B := T6.setTop (mkF m 26 #[.val (.ref a1), .val (.int p2), .val (.int p3)] [(.ref bq6), (.ref a1)])) (fun t k => st6 _ k) ?_
  obtain ⟨T7, h7, X7, e7, W7, st7⟩ := putF X6 hx hZ hown (host := "") (Or.inl (hw _ (List.mem_of_getElem? (i := 13) rfl))) Via.refl rfl c6_F_a1_documents c6_E_a1 (Or.inl (hw _ (List.mem_of_getElem? (i := 14) rfl))) (hw _ (List.mem_of_getElem? (i := 2) rfl)) (ty := (.array .int)) (by decide) rfl rfl (g := (mkF m 26 #[.val (.ref a1), .val (.int p2), .val (.int p3)] [(.ref bq6), (.ref a1)])) rfl rfl (hb hby d5_26)
  have c7_E_a1 := c6_E_a1.wr W7
  have c7_F_a1_size := c6_F_a1_size.other W7 (Or.inr (slot_ne (Or.inl (hw _ (List.mem_of_getElem? (i := 23) rfl))) (Or.inl (hw _ (List.mem_of_getElem? (i := 14) rfl))) (by decide) (t := .int) (t' := (.array .int)) (by decide) (by decide)))
  have c7_F_a1_documents := c6_F_a1_documents.same W7
  have c7_F_a1_frequencies := c6_F_a1_frequencies.other W7 (Or.inr (slot_ne (Or.inl (hw _ (List.mem_of_getElem? (i := 16) rfl))) (Or.inl (hw _ (List.mem_of_getElem? (i := 14) rfl))) (by decide) (t := (.array .int)) (t' := (.array .int)) (by decide) (by decide)))
  have c7_F_a1_collectionFrequency := c6_F_a1_collectionFrequency.other W7 (Or.inr (slot_ne (Or.inl (hw _ (List.mem_of_getElem? (i := 34) rfl))) (Or.inl (hw _ (List.mem_of_getElem? (i := 14) rfl))) (by decide) (t := .long) (t' := (.array .int)) (by decide) (by decide)))
  have c7_V_d1 := c6_V_d1.other W7 (Ne.symm n_ad)
  have c7_V_f1 := c6_V_f1.other W7 (Ne.symm n_af)
  have c7_V_bq6 := V6q.other W7 (Ne.symm ne_a1_bq6)
  have K7 := K6.wr W7 (Or.inl (List.mem_of_getElem? (i := 0) rfl))
  have N7 := Fr.snoc X7 N6 g_a1
  refine own_go (B := T7.setTop (mkF m 29 #[.val (.ref a1), .val (.int p2), .val (.int p3)] [])) (fun t k => st7 _ k) ?_
  refine own_go (B := T7.setTop (mkF m 31 #[.val (.ref a1), .val (.int p2), .val (.int p3)] [(.ref a1), (.ref a1)])) (fun t k => ?_) ?_
  · show Steps p.tables e below (T7.setTop (mkF m 29 #[.val (.ref a1), .val (.int p2), .val (.int p3)] [])) _
    refine XS.aloadN X7.here hx rfl (hb hby d5_29) rfl rfl ?_
    show Steps p.tables e below (T7.setTop (mkF m 30 #[.val (.ref a1), .val (.int p2), .val (.int p3)] [(.ref a1)])) _
    refine XS.aloadN X7.here hx rfl (hb hby d5_30) rfl rfl ?_
    exact k
  obtain ⟨T8, X8, e8, st8⟩ := getF X7 hx hZ hown (host := "") (Or.inl (hw _ (List.mem_of_getElem? (i := 15) rfl))) Via.refl e7 c7_F_a1_frequencies (g := (mkF m 31 #[.val (.ref a1), .val (.int p2), .val (.int p3)] [(.ref a1), (.ref a1)])) rfl rfl (hb hby d5_31)
  refine own_go (B := T8.setTop (mkF m 34 #[.val (.ref a1), .val (.int p2), .val (.int p3)] [(.ref f1), (.ref a1)])) (fun t k => st8 _ k) ?_
  refine own_go (B := T8.setTop (mkF m 35 #[.val (.ref a1), .val (.int p2), .val (.int p3)] [(.ref a1), (.ref f1), (.ref a1)])) (fun t k => ?_) ?_
  · show Steps p.tables e below (T8.setTop (mkF m 34 #[.val (.ref a1), .val (.int p2), .val (.int p3)] [(.ref f1), (.ref a1)])) _
    refine XS.aloadN X8.here hx rfl (hb hby d5_34) rfl rfl ?_
    exact k
  obtain ⟨T9, X9, e9, st9⟩ := getF X8 hx hZ hown (host := "") (Or.inl (hw _ (List.mem_of_getElem? (i := 22) rfl))) Via.refl e8 c7_F_a1_size (g := (mkF m 35 #[.val (.ref a1), .val (.int p2), .val (.int p3)] [(.ref a1), (.ref f1), (.ref a1)])) rfl rfl (hb hby d5_35)
  refine own_go (B := T9.setTop (mkF m 38 #[.val (.ref a1), .val (.int p2), .val (.int p3)] [(.int (1 : Int32)), (.ref f1), (.ref a1)])) (fun t k => st9 _ k) ?_
  refine own_go (B := T9.setTop (mkF m 40 #[.val (.ref a1), .val (.int p2), .val (.int p3)] [(.int (2 : Int32)), (.ref f1), (.ref a1)])) (fun t k => ?_) ?_
  · show Steps p.tables e below (T9.setTop (mkF m 38 #[.val (.ref a1), .val (.int p2), .val (.int p3)] [(.int (1 : Int32)), (.ref f1), (.ref a1)])) _
    refine XS.iconst X9.here hx rfl (hb hby d5_38) ?_
    show Steps p.tables e below (T9.setTop (mkF m 39 #[.val (.ref a1), .val (.int p2), .val (.int p3)] [(.int (2 : Int32)), (.int (1 : Int32)), (.ref f1), (.ref a1)])) _
    refine XS.imul X9.here hx rfl (hb hby d5_39) rfl ?_
    exact k
  obtain ⟨_, _, ⟨T10, L10, k10, n10⟩, -, X10, ⟨Lc10, hQ10, l10, y10, z10⟩, st10⟩ := Jvm.LawKit.callS X9 hx (y := (⟨"java/util/Arrays", "copyOf", "([II)[I"⟩ : MethodName)) hown (mvT hZ (hw _ (List.mem_of_getElem? (i := 35) rfl))) (mvT hZ (hw _ (List.mem_of_getElem? (i := 36) rfl))) (mvT hZ (hw _ (List.mem_of_getElem? (i := 37) rfl))) (mvT hZ (hw _ (List.mem_of_getElem? (i := 38) rfl))) (by decide) (backOf (W := 1) (rm6_1 l Z a0 hw [] f1 kf y0 h7 n0 (Nat.le_trans (Nat.le_trans Z0 K6q.1) (Keep.of_wr W7).1) c7_V_f1) hZ (hw _ (List.mem_of_getElem? (i := 38) rfl)) (hw _ (List.mem_of_getElem? (i := 37) rfl)) (by decide) (by decide)) (g := (mkF m 40 #[.val (.ref a1), .val (.int p2), .val (.int p3)] [(.int (2 : Int32)), (.ref f1), (.ref a1)])) rfl (by rw [hml]; rfl) (argsL := [(.ref f1), (.int (2 : Int32))]) (rest := [(.ref a1)]) (lenOf own_pd1 rfl) rfl (by show 2 * 0 + _ ≤ _; exact Nat.le_of_eq rfl) (hb hby d5_40) (fun _ _ => ⟨rfl, e9, (by decide : 1 + 1 ≤ _), (by decide : 2 + 2 ≤ _)⟩)
  dsimp only [Pt.U, Pt.locs, Pt.cells, Pt.slots] at X10 l10 y10 z10 st10 hQ10
  subst l10 y10 z10
  obtain ⟨bq10, kq10, rfl, N10q, K10q, q10z, q10g, V10q⟩ := hQ10
  have N10 := Fr.app N7 N10q
  have sz_bq10 : h0.size ≤ bq10 := Nat.le_trans K7.1 q10z
  have g_bq10 : n0 ≤ bq10 := q10g
  have ne_a1_bq10 : a1 ≠ bq10 := Nat.ne_of_lt (Nat.lt_of_lt_of_le c7_E_a1.lt q10z)
  have ne_d1_bq10 : d1 ≠ bq10 := Nat.ne_of_lt (Nat.lt_of_lt_of_le c7_V_d1.lt q10z)
  have ne_f1_bq10 : f1 ≠ bq10 := Nat.ne_of_lt (Nat.lt_of_lt_of_le c7_V_f1.lt q10z)
  have ne_bq6_bq10 : bq6 ≠ bq10 := Nat.ne_of_lt (Nat.lt_of_lt_of_le c7_V_bq6.lt q10z)
  have c10_E_a1 := c7_E_a1.keep K10q
  have c10_F_a1_size := c7_F_a1_size.keep K10q (List.not_mem_nil)
  have c10_F_a1_documents := c7_F_a1_documents.keep K10q (List.not_mem_nil)
  have c10_F_a1_frequencies := c7_F_a1_frequencies.keep K10q (List.not_mem_nil)
  have c10_F_a1_collectionFrequency := c7_F_a1_collectionFrequency.keep K10q (List.not_mem_nil)
  have c10_V_d1 := c7_V_d1.keep K10q (List.not_mem_nil)
  have c10_V_f1 := c7_V_f1.keep K10q (List.not_mem_nil)
  have c10_V_bq6 := c7_V_bq6.keep K10q (List.not_mem_nil)
  have K10 := K7.trans K10q all0
  refine own_go (B := T10.setTop (mkF m 43 #[.val (.ref a1), .val (.int p2), .val (.int p3)] [(.ref bq10), (.ref a1)])) (fun t k => st10 _ k) ?_
  obtain ⟨T11, h11, X11, e11, W11, st11⟩ := putF X10 hx hZ hown (host := "") (Or.inl (hw _ (List.mem_of_getElem? (i := 15) rfl))) Via.refl rfl c10_F_a1_frequencies c10_E_a1 (Or.inl (hw _ (List.mem_of_getElem? (i := 16) rfl))) (hw _ (List.mem_of_getElem? (i := 2) rfl)) (ty := (.array .int)) (by decide) rfl rfl (g := (mkF m 43 #[.val (.ref a1), .val (.int p2), .val (.int p3)] [(.ref bq10), (.ref a1)])) rfl rfl (hb hby d5_43)
  have c11_E_a1 := c10_E_a1.wr W11
  have c11_F_a1_size := c10_F_a1_size.other W11 (Or.inr (slot_ne (Or.inl (hw _ (List.mem_of_getElem? (i := 23) rfl))) (Or.inl (hw _ (List.mem_of_getElem? (i := 16) rfl))) (by decide) (t := .int) (t' := (.array .int)) (by decide) (by decide)))
  have c11_F_a1_documents := c10_F_a1_documents.other W11 (Or.inr (slot_ne (Or.inl (hw _ (List.mem_of_getElem? (i := 14) rfl))) (Or.inl (hw _ (List.mem_of_getElem? (i := 16) rfl))) (by decide) (t := (.array .int)) (t' := (.array .int)) (by decide) (by decide)))
  have c11_F_a1_frequencies := c10_F_a1_frequencies.same W11
  have c11_F_a1_collectionFrequency := c10_F_a1_collectionFrequency.other W11 (Or.inr (slot_ne (Or.inl (hw _ (List.mem_of_getElem? (i := 34) rfl))) (Or.inl (hw _ (List.mem_of_getElem? (i := 16) rfl))) (by decide) (t := .long) (t' := (.array .int)) (by decide) (by decide)))
  have c11_V_d1 := c10_V_d1.other W11 (Ne.symm n_ad)
  have c11_V_f1 := c10_V_f1.other W11 (Ne.symm n_af)
  have c11_V_bq6 := c10_V_bq6.other W11 (Ne.symm ne_a1_bq6)
  have c11_V_bq10 := V10q.other W11 (Ne.symm ne_a1_bq10)
  have K11 := K10.wr W11 (Or.inl (List.mem_of_getElem? (i := 0) rfl))
  have N11 := Fr.snoc X11 N10 g_a1
  refine own_go (B := T11.setTop (mkF m 46 #[.val (.ref a1), .val (.int p2), .val (.int p3)] [])) (fun t k => st11 _ k) ?_
  refine own_go (B := T11.setTop (mkF m 47 #[.val (.ref a1), .val (.int p2), .val (.int p3)] [(.ref a1)])) (fun t k => ?_) ?_
  · show Steps p.tables e below (T11.setTop (mkF m 46 #[.val (.ref a1), .val (.int p2), .val (.int p3)] [])) _
    refine XS.aloadN X11.here hx rfl (hb hby d5_46) rfl rfl ?_
    exact k
  obtain ⟨T12, X12, e12, st12⟩ := getF X11 hx hZ hown (host := "") (Or.inl (hw _ (List.mem_of_getElem? (i := 13) rfl))) Via.refl e11 c11_F_a1_documents (g := (mkF m 47 #[.val (.ref a1), .val (.int p2), .val (.int p3)] [(.ref a1)])) rfl rfl (hb hby d5_47)
  refine own_go (B := T12.setTop (mkF m 50 #[.val (.ref a1), .val (.int p2), .val (.int p3)] [(.ref bq6)])) (fun t k => st12 _ k) ?_
  refine own_go (B := T12.setTop (mkF m 51 #[.val (.ref a1), .val (.int p2), .val (.int p3)] [(.ref a1), (.ref bq6)])) (fun t k => ?_) ?_
  · show Steps p.tables e below (T12.setTop (mkF m 50 #[.val (.ref a1), .val (.int p2), .val (.int p3)] [(.ref bq6)])) _
    refine XS.aloadN X12.here hx rfl (hb hby d5_50) rfl rfl ?_
    exact k
  obtain ⟨T13, X13, e13, st13⟩ := getF X12 hx hZ hown (host := "") (Or.inl (hw _ (List.mem_of_getElem? (i := 22) rfl))) Via.refl e12 c11_F_a1_size (g := (mkF m 51 #[.val (.ref a1), .val (.int p2), .val (.int p3)] [(.ref a1), (.ref bq6)])) rfl rfl (hb hby d5_51)
  refine own_go (B := T13.setTop (mkF m 54 #[.val (.ref a1), .val (.int p2), .val (.int p3)] [(.int (1 : Int32)), (.ref bq6)])) (fun t k => st13 _ k) ?_
  refine own_go (B := T13.setTop (mkF m 55 #[.val (.ref a1), .val (.int p2), .val (.int p3)] [(.int p2), (.int (1 : Int32)), (.ref bq6)])) (fun t k => ?_) ?_
  · show Steps p.tables e below (T13.setTop (mkF m 54 #[.val (.ref a1), .val (.int p2), .val (.int p3)] [(.int (1 : Int32)), (.ref bq6)])) _
    refine XS.iloadN X13.here hx rfl (hb hby d5_54) rfl ?_
    exact k
  obtain ⟨cl14, Ar14, qk14, S14, M14, H14, G14⟩ := id c11_V_bq6
  obtain ⟨T14, h14, X14, e14, W14, st14⟩ := stI X13 hx hZ e13 Ar14 (j := (1 : Int32)) (inb_of S14 ⟨by decide, by decide⟩) (g := (mkF m 55 #[.val (.ref a1), .val (.int p2), .val (.int p3)] [(.int p2), (.int (1 : Int32)), (.ref bq6)])) rfl rfl (hb hby d5_55)
  have V14 : Arv Z h14 bq6 kq6 .int (2 : Int32) [(.int x0), (.int p2)] (.int (0 : Int32)) := Arv.set Ar14 qk14 S14 M14 H14 G14 rfl W14 1 rfl (Nat.le_of_ble_eq_true rfl)
  have c14_E_a1 := c11_E_a1.wr W14
  have c14_F_a1_size := c11_F_a1_size.other W14 (Or.inl ne_a1_bq6)
  have c14_F_a1_documents := c11_F_a1_documents.other W14 (Or.inl ne_a1_bq6)
  have c14_F_a1_frequencies := c11_F_a1_frequencies.other W14 (Or.inl ne_a1_bq6)
  have c14_F_a1_collectionFrequency := c11_F_a1_collectionFrequency.other W14 (Or.inl ne_a1_bq6)
  have c14_V_d1 := c11_V_d1.other W14 ne_d1_bq6
  have c14_V_f1 := c11_V_f1.other W14 ne_f1_bq6
  have c14_V_bq10 := c11_V_bq10.other W14 (Ne.symm ne_bq6_bq10)
  have K14 := K11.wr W14 (Or.inr sz_bq6)
  have N14 := Fr.snoc X14 N11 g_bq6
  refine own_go (B := T14.setTop (mkF m 56 #[.val (.ref a1), .val (.int p2), .val (.int p3)] [])) (fun t k => st14 _ k) ?_
  refine own_go (B := T14.setTop (mkF m 57 #[.val (.ref a1), .val (.int p2), .val (.int p3)] [(.ref a1)])) (fun t k => ?_) ?_
  · show Steps p.tables e below (T14.setTop (mkF m 56 #[.val (.ref a1), .val (.int p2), .val (.int p3)] [])) _
    refine XS.aloadN X14.here hx rfl (hb hby d5_56) rfl rfl ?_
    exact k
  obtain ⟨T15, X15, e15, st15⟩ := getF X14 hx hZ hown (host := "") (Or.inl (hw _ (List.mem_of_getElem? (i := 15) rfl))) Via.refl e14 c14_F_a1_frequencies (g := (mkF m 57 #[.val (.ref a1), .val (.int p2), .val (.int p3)] [(.ref a1)])) rfl rfl (hb hby d5_57)
  refine own_go (B := T15.setTop (mkF m 60 #[.val (.ref a1), .val (.int p2), .val (.int p3)] [(.ref bq10)])) (fun t k => st15 _ k) ?_
  refine own_go (B := T15.setTop (mkF m 61 #[.val (.ref a1), .val (.int p2), .val (.int p3)] [(.ref a1), (.ref bq10)])) (fun t k => ?_) ?_
  · show Steps p.tables e below (T15.setTop (mkF m 60 #[.val (.ref a1), .val (.int p2), .val (.int p3)] [(.ref bq10)])) _
    refine XS.aloadN X15.here hx rfl (hb hby d5_60) rfl rfl ?_
    exact k
  obtain ⟨T16, X16, e16, st16⟩ := getF X15 hx hZ hown (host := "") (Or.inl (hw _ (List.mem_of_getElem? (i := 22) rfl))) Via.refl e15 c14_F_a1_size (g := (mkF m 61 #[.val (.ref a1), .val (.int p2), .val (.int p3)] [(.ref a1), (.ref bq10)])) rfl rfl (hb hby d5_61)
  refine own_go (B := T16.setTop (mkF m 64 #[.val (.ref a1), .val (.int p2), .val (.int p3)] [(.int (1 : Int32)), (.ref bq10)])) (fun t k => st16 _ k) ?_
  refine own_go (B := T16.setTop (mkF m 65 #[.val (.ref a1), .val (.int p2), .val (.int p3)] [(.int p3), (.int (1 : Int32)), (.ref bq10)])) (fun t k => ?_) ?_
  · show Steps p.tables e below (T16.setTop (mkF m 64 #[.val (.ref a1), .val (.int p2), .val (.int p3)] [(.int (1 : Int32)), (.ref bq10)])) _
    refine XS.iloadN X16.here hx rfl (hb hby d5_64) rfl ?_
    exact k
  obtain ⟨cl17, Ar17, qk17, S17, M17, H17, G17⟩ := id c14_V_bq10
  obtain ⟨T17, h17, X17, e17, W17, st17⟩ := stI X16 hx hZ e16 Ar17 (j := (1 : Int32)) (inb_of S17 ⟨by decide, by decide⟩) (g := (mkF m 65 #[.val (.ref a1), .val (.int p2), .val (.int p3)] [(.int p3), (.int (1 : Int32)), (.ref bq10)])) rfl rfl (hb hby d5_65)
  have V17 : Arv Z h17 bq10 kq10 .int (2 : Int32) [(.int y0), (.int p3)] (.int (0 : Int32)) := Arv.set Ar17 qk17 S17 M17 H17 G17 rfl W17 1 rfl (Nat.le_of_ble_eq_true rfl)
  have c17_E_a1 := c14_E_a1.wr W17
  have c17_F_a1_size := c14_F_a1_size.other W17 (Or.inl ne_a1_bq10)
  have c17_F_a1_documents := c14_F_a1_documents.other W17 (Or.inl ne_a1_bq10)
  have c17_F_a1_frequencies := c14_F_a1_frequencies.other W17 (Or.inl ne_a1_bq10)
  have c17_F_a1_collectionFrequency := c14_F_a1_collectionFrequency.other W17 (Or.inl ne_a1_bq10)
  have c17_V_d1 := c14_V_d1.other W17 ne_d1_bq10
  have c17_V_f1 := c14_V_f1.other W17 ne_f1_bq10
  have c17_V_bq6 := V14.other W17 ne_bq6_bq10
  have K17 := K14.wr W17 (Or.inr sz_bq10)
  have N17 := Fr.snoc X17 N14 g_bq10
  refine own_go (B := T17.setTop (mkF m 66 #[.val (.ref a1), .val (.int p2), .val (.int p3)] [])) (fun t k => st17 _ k) ?_
  refine own_go (B := T17.setTop (mkF m 68 #[.val (.ref a1), .val (.int p2), .val (.int p3)] [(.ref a1), (.ref a1)])) (fun t k => ?_) ?_
  · show Steps p.tables e below (T17.setTop (mkF m 66 #[.val (.ref a1), .val (.int p2), .val (.int p3)] [])) _
    refine XS.aloadN X17.here hx rfl (hb hby d5_66) rfl rfl ?_
    show Steps p.tables e below (T17.setTop (mkF m 67 #[.val (.ref a1), .val (.int p2), .val (.int p3)] [(.ref a1)])) _
    refine XS.dup X17.here hx rfl (hb hby d5_67) rfl rfl ?_
    exact k
  obtain ⟨T18, X18, e18, st18⟩ := getF X17 hx hZ hown (host := "") (Or.inl (hw _ (List.mem_of_getElem? (i := 22) rfl))) Via.refl e17 c17_F_a1_size (g := (mkF m 68 #[.val (.ref a1), .val (.int p2), .val (.int p3)] [(.ref a1), (.ref a1)])) rfl rfl (hb hby d5_68)
  refine own_go (B := T18.setTop (mkF m 71 #[.val (.ref a1), .val (.int p2), .val (.int p3)] [(.int (1 : Int32)), (.ref a1)])) (fun t k => st18 _ k) ?_
  refine own_go (B := T18.setTop (mkF m 73 #[.val (.ref a1), .val (.int p2), .val (.int p3)] [(.int (2 : Int32)), (.ref a1)])) (fun t k => ?_) ?_
  · show Steps p.tables e below (T18.setTop (mkF m 71 #[.val (.ref a1), .val (.int p2), .val (.int p3)] [(.int (1 : Int32)), (.ref a1)])) _
    refine XS.iconst X18.here hx rfl (hb hby d5_71) ?_
    show Steps p.tables e below (T18.setTop (mkF m 72 #[.val (.ref a1), .val (.int p2), .val (.int p3)] [(.int (1 : Int32)), (.int (1 : Int32)), (.ref a1)])) _
    refine XS.iadd X18.here hx rfl (hb hby d5_72) rfl ?_
    exact k
  obtain ⟨T19, h19, X19, e19, W19, st19⟩ := putF X18 hx hZ hown (host := "") (Or.inl (hw _ (List.mem_of_getElem? (i := 22) rfl))) Via.refl e18 c17_F_a1_size c17_E_a1 (Or.inl (hw _ (List.mem_of_getElem? (i := 23) rfl))) (hw _ (List.mem_of_getElem? (i := 2) rfl)) (ty := .int) (by decide) rfl rfl (g := (mkF m 73 #[.val (.ref a1), .val (.int p2), .val (.int p3)] [(.int (2 : Int32)), (.ref a1)])) rfl rfl (hb hby d5_73)
  have c19_E_a1 := c17_E_a1.wr W19
  have c19_F_a1_size := c17_F_a1_size.same W19
  have c19_F_a1_documents := c17_F_a1_documents.other W19 (Or.inr (slot_ne (Or.inl (hw _ (List.mem_of_getElem? (i := 14) rfl))) (Or.inl (hw _ (List.mem_of_getElem? (i := 23) rfl))) (by decide) (t := (.array .int)) (t' := .int) (by decide) (by decide)))
  have c19_F_a1_frequencies := c17_F_a1_frequencies.other W19 (Or.inr (slot_ne (Or.inl (hw _ (List.mem_of_getElem? (i := 16) rfl))) (Or.inl (hw _ (List.mem_of_getElem? (i := 23) rfl))) (by decide) (t := (.array .int)) (t' := .int) (by decide) (by decide)))
  have c19_F_a1_collectionFrequency := c17_F_a1_collectionFrequency.other W19 (Or.inr (slot_ne (Or.inl (hw _ (List.mem_of_getElem? (i := 34) rfl))) (Or.inl (hw _ (List.mem_of_getElem? (i := 23) rfl))) (by decide) (t := .long) (t' := .int) (by decide) (by decide)))
  have c19_V_d1 := c17_V_d1.other W19 (Ne.symm n_ad)
  have c19_V_f1 := c17_V_f1.other W19 (Ne.symm n_af)
  have c19_V_bq6 := c17_V_bq6.other W19 (Ne.symm ne_a1_bq6)
  have c19_V_bq10 := V17.other W19 (Ne.symm ne_a1_bq10)
  have K19 := K17.wr W19 (Or.inl (List.mem_of_getElem? (i := 0) rfl))
  have N19 := Fr.snoc X19 N17 g_a1
  refine own_go (B := T19.setTop (mkF m 76 #[.val (.ref a1), .val (.int p2), .val (.int p3)] [])) (fun t k => st19 _ k) ?_
  refine own_go (B := T19.setTop (mkF m 78 #[.val (.ref a1), .val (.int p2), .val (.int p3)] [(.ref a1), (.ref a1)])) (fun t k => ?_) ?_
  · show Steps p.tables e below (T19.setTop (mkF m 76 #[.val (.ref a1), .val (.int p2), .val (.int p3)] [])) _
    refine XS.aloadN X19.here hx rfl (hb hby d5_76) rfl rfl ?_
    show Steps p.tables e below (T19.setTop (mkF m 77 #[.val (.ref a1), .val (.int p2), .val (.int p3)] [(.ref a1)])) _
    refine XS.dup X19.here hx rfl (hb hby d5_77) rfl rfl ?_
    exact k
  obtain ⟨T20, X20, e20, st20⟩ := getF X19 hx hZ hown (host := "") (Or.inl (hw _ (List.mem_of_getElem? (i := 33) rfl))) Via.refl e19 c19_F_a1_collectionFrequency (g := (mkF m 78 #[.val (.ref a1), .val (.int p2), .val (.int p3)] [(.ref a1), (.ref a1)])) rfl rfl (hb hby d5_78)
  refine own_go (B := T20.setTop (mkF m 81 #[.val (.ref a1), .val (.int p2), .val (.int p3)] [(.long cf), (.ref a1)])) (fun t k => st20 _ k) ?_
  refine own_go (B := T20.setTop (mkF m 84 #[.val (.ref a1), .val (.int p2), .val (.int p3)] [(.long (cf + (p3.toInt64))), (.ref a1)])) (fun t k => ?_) ?_
  · show Steps p.tables e below (T20.setTop (mkF m 81 #[.val (.ref a1), .val (.int p2), .val (.int p3)] [(.long cf), (.ref a1)])) _
    refine XS.iloadN X20.here hx rfl (hb hby d5_81) rfl ?_
    show Steps p.tables e below (T20.setTop (mkF m 82 #[.val (.ref a1), .val (.int p2), .val (.int p3)] [(.int p3), (.long cf), (.ref a1)])) _
    refine XS.i2l X20.here hx rfl (hb hby d5_82) rfl ?_
    show Steps p.tables e below (T20.setTop (mkF m 83 #[.val (.ref a1), .val (.int p2), .val (.int p3)] [(.long (p3.toInt64)), (.long cf), (.ref a1)])) _
    refine XS.ladd X20.here hx rfl (hb hby d5_83) rfl ?_
    exact k
  obtain ⟨T21, h21, X21, e21, W21, st21⟩ := putF X20 hx hZ hown (host := "") (Or.inl (hw _ (List.mem_of_getElem? (i := 33) rfl))) Via.refl e20 c19_F_a1_collectionFrequency c19_E_a1 (Or.inl (hw _ (List.mem_of_getElem? (i := 34) rfl))) (hw _ (List.mem_of_getElem? (i := 2) rfl)) (ty := .long) (by decide) rfl rfl (g := (mkF m 84 #[.val (.ref a1), .val (.int p2), .val (.int p3)] [(.long (cf + (p3.toInt64))), (.ref a1)])) rfl rfl (hb hby d5_84)
  have c21_E_a1 := c19_E_a1.wr W21
  have c21_F_a1_size := c19_F_a1_size.other W21 (Or.inr (slot_ne (Or.inl (hw _ (List.mem_of_getElem? (i := 23) rfl))) (Or.inl (hw _ (List.mem_of_getElem? (i := 34) rfl))) (by decide) (t := .int) (t' := .long) (by decide) (by decide)))
  have c21_F_a1_documents := c19_F_a1_documents.other W21 (Or.inr (slot_ne (Or.inl (hw _ (List.mem_of_getElem? (i := 14) rfl))) (Or.inl (hw _ (List.mem_of_getElem? (i := 34) rfl))) (by decide) (t := (.array .int)) (t' := .long) (by decide) (by decide)))
  have c21_F_a1_frequencies := c19_F_a1_frequencies.other W21 (Or.inr (slot_ne (Or.inl (hw _ (List.mem_of_getElem? (i := 16) rfl))) (Or.inl (hw _ (List.mem_of_getElem? (i := 34) rfl))) (by decide) (t := (.array .int)) (t' := .long) (by decide) (by decide)))
  have c21_F_a1_collectionFrequency := c19_F_a1_collectionFrequency.same W21
  have c21_V_d1 := c19_V_d1.other W21 (Ne.symm n_ad)
  have c21_V_f1 := c19_V_f1.other W21 (Ne.symm n_af)
  have c21_V_bq6 := c19_V_bq6.other W21 (Ne.symm ne_a1_bq6)
  have c21_V_bq10 := c19_V_bq10.other W21 (Ne.symm ne_a1_bq10)
  have K21 := K19.wr W21 (Or.inl (List.mem_of_getElem? (i := 0) rfl))
  have N21 := Fr.snoc X21 N19 g_a1
  refine own_go (B := T21.setTop (mkF m 87 #[.val (.ref a1), .val (.int p2), .val (.int p3)] [])) (fun t k => st21 _ k) ?_
  obtain ⟨fs, hr, hrun, hended, hW, hsame⟩ := X21.leave (v := none) (fun _ => rfl)
  refine ⟨_, _, ?_, hrun, hended, _, _, rfl, ?_, ⟨_, rfl⟩, hW, hsame.mono (by decide) (by decide)⟩
  · show Steps p.tables e below (T21.setTop (mkF m 87 #[.val (.ref a1), .val (.int p2), .val (.int p3)] [])) _
    exact X21.returnOut hx Bd.returns (hb hby d5_87) hr
  · show Q5_1g Z a1 p2 p3 d1 f1 kd kf cf x0 y0 h0 n0 _ T21.heap _
    rw [e21]
    exact ⟨rfl, N21, bq6, bq10, kq6, kq10, K21, c21_E_a1, c21_F_a1_size, c21_F_a1_documents, c21_F_a1_frequencies, c21_F_a1_collectionFrequency, c21_V_bq6, c21_V_bq10, sz_bq6, sz_bq10, g_bq6, g_bq10, ne_bq6_bq10⟩
def Q5_2 (Z : State) (a1 : Addr) (p2 : Int32) (p3 : Int32) (d1 : Addr) (f1 : Addr) (kd : ClassId) (kf : ClassId) (N1 : Int32) (cf : Int64) (x0 : Int32) (x1 : Int32) (y0 : Int32) (y1 : Int32) (h0 : Heap) (n0 : Nat) (v : Option Value) (h : Heap) (L : List Loc) : Prop := v = none ∧ Fr n0 L ∧ Keep h0 h [a1, d1, f1] ∧ Exa Z h a1 "com/example/libqlm/libqlm/Postings" ∧ Fld Z h a1 "com/example/libqlm/libqlm/Postings" "size" "I" (.int (3 : Int32)) ∧ Fld Z h a1 "com/example/libqlm/libqlm/Postings" "documents" "[I" (.ref d1) ∧ Fld Z h a1 "com/example/libqlm/libqlm/Postings" "frequencies" "[I" (.ref f1) ∧ Fld Z h a1 "com/example/libqlm/libqlm/Postings" "collectionFrequency" "J" (.long (cf + (p3.toInt64))) ∧ Arv Z h d1 kd .int N1 [(.int x0), (.int x1), (.int p2)] (.int (0 : Int32)) ∧ Arv Z h f1 kf .int N1 [(.int y0), (.int y1), (.int p3)] (.int (0 : Int32))
set_option maxRecDepth 65536 in
set_option maxHeartbeats 40000000 in
theorem rm5_2 (l : Launch) (Z : State) (a0 : Array Value) (hw : ∀ d ∈ tables_1, d.before a0 Z = true) (ws : List Jvm.Cond) (a1 : Addr) (p2 : Int32) (p3 : Int32) (d1 : Addr) (f1 : Addr) (kd : ClassId) (kf : ClassId) (N1 : Int32) (cf : Int64) (x0 : Int32) (x1 : Int32) (y0 : Int32) (y1 : Int32) (h0 : Heap) (n0 : Nat) (Z0 : n0 ≤ h0.size) (E_a1 : Exa Z h0 a1 "com/example/libqlm/libqlm/Postings") (g_a1 : n0 ≤ a1) (g_d1 : n0 ≤ d1) (g_f1 : n0 ≤ f1) (F_s : Fld Z h0 a1 "com/example/libqlm/libqlm/Postings" "size" "I" (.int (2 : Int32))) (F_d : Fld Z h0 a1 "com/example/libqlm/libqlm/Postings" "documents" "[I" (.ref d1)) (F_f : Fld Z h0 a1 "com/example/libqlm/libqlm/Postings" "frequencies" "[I" (.ref f1)) (F_c : Fld Z h0 a1 "com/example/libqlm/libqlm/Postings" "collectionFrequency" "J" (.long cf)) (V_d : Arv Z h0 d1 kd .int N1 [(.int x0), (.int x1)] (.int (0 : Int32))) (V_f : Arv Z h0 f1 kf .int N1 [(.int y0), (.int y1)] (.int (0 : Int32))) (n_ad : a1 ≠ d1) (n_af : a1 ≠ f1) (n_df : d1 ≠ f1) (hN : (2 : Int32) < N1) :
    MetFree l (⟨"com/example/libqlm/libqlm/Postings", "add", "(II)V"⟩ : MethodName) (head1 (Jvm.Cond.code (⟨"com/example/libqlm/libqlm/Postings", "add", "(II)V"⟩ : MethodName) prog_92_method_4_code 3 none :: ws) ({ frames := 0, cells := 0, slots := 0, locals := 0 } : Room)) (fun a U => a = #[(.ref a1), (.int p2), (.int p3)] ∧ Z.Warmed39 U.vm ∧ U.heap = h0) (fun _ _ _ _ _ => True) (fun _ U o U' => ∃ v L, o = .returned v ∧ Q5_2 Z a1 p2 p3 d1 f1 kd kf N1 cf x0 x1 y0 y1 h0 n0 v U'.heap L ∧ FrameEnd U o U' L ({ frames := 0, cells := 0, slots := 0, locals := 0 } : Room).cells ({ frames := 0, cells := 0, slots := 0, locals := 0 } : Room).slots) := by
  refine MetFree.of_bodySF (plainFor_of_name pn_5) hisR ?_
  intro p e s m args below meth c s₁ Bd hml0 hP hK
  obtain ⟨rfl, hZ, hh⟩ := hP
  have hx := Bd.exec
  have hby := Bd.bytes
  have hml : c.maxLocals = 3 := hml0
  have hown : s.vm.findClass "com/example/libqlm/libqlm/Postings" = some m.cls := findClass_of_methodNamed Bd.named
  have hnm := (name_of_methodNamed Bd.named Bd.method).1
  have X0 : Stand p l e ({ frames := 0, cells := 0, slots := 0, locals := 0 } : Room) s m #[(.ref a1), (.int p2), (.int p3)] below meth c s₁ [] 0 0 := Stand.of_body Bd
  have e0 : s₁.heap = h0 := by rw [← hh, Bd.state]; rfl
  have N0 := Fr.nil n0
  refine own_go (B := s₁.setTop (mkF m 0 #[.val (.ref a1), .val (.int p2), .val (.int p3)] [])) (fun t k => castTop (ef_5 m a1 p2 p3) k) ?_
  refine own_go (B := s₁.setTop (mkF m 1 #[.val (.ref a1), .val (.int p2), .val (.int p3)] [(.ref a1)])) (fun t k => ?_) ?_
  · show Steps p.tables e below (s₁.setTop (mkF m 0 #[.val (.ref a1), .val (.int p2), .val (.int p3)] [])) _
    refine XS.aloadN X0.here hx rfl (hb hby d5_0) rfl rfl ?_
    exact k
  obtain ⟨T1, X1, e1, st1⟩ := getF X0 hx hZ hown (host := "") (Or.inl (hw _ (List.mem_of_getElem? (i := 22) rfl))) Via.refl e0 F_s (g := (mkF m 1 #[.val (.ref a1), .val (.int p2), .val (.int p3)] [(.ref a1)])) rfl rfl (hb hby d5_1)
  refine own_go (B := T1.setTop (mkF m 4 #[.val (.ref a1), .val (.int p2), .val (.int p3)] [(.int (2 : Int32))])) (fun t k => st1 _ k) ?_
  refine own_go (B := T1.setTop (mkF m 5 #[.val (.ref a1), .val (.int p2), .val (.int p3)] [(.ref a1), (.int (2 : Int32))])) (fun t k => ?_) ?_
  · show Steps p.tables e below (T1.setTop (mkF m 4 #[.val (.ref a1), .val (.int p2), .val (.int p3)] [(.int (2 : Int32))])) _
    refine XS.aloadN X1.here hx rfl (hb hby d5_4) rfl rfl ?_
    exact k
  obtain ⟨T2, X2, e2, st2⟩ := getF X1 hx hZ hown (host := "") (Or.inl (hw _ (List.mem_of_getElem? (i := 13) rfl))) Via.refl e1 F_d (g := (mkF m 5 #[.val (.ref a1), .val (.int p2), .val (.int p3)] [(.ref a1), (.int (2 : Int32))])) rfl rfl (hb hby d5_5)
  refine own_go (B := T2.setTop (mkF m 8 #[.val (.ref a1), .val (.int p2), .val (.int p3)] [(.ref d1), (.int (2 : Int32))])) (fun t k => st2 _ k) ?_
  obtain ⟨cl3, Ar3, qk3, S3, M3, H3, G3⟩ := id V_d
  refine own_go (B := T2.setTop (mkF m 47 #[.val (.ref a1), .val (.int p2), .val (.int p3)] [(.ref a1)])) (fun t k => ?_) ?_
  · show Steps p.tables e below (T2.setTop (mkF m 8 #[.val (.ref a1), .val (.int p2), .val (.int p3)] [(.ref d1), (.int (2 : Int32))])) _
    refine X2.arraylength hx (by rw [e2]; exact Ar3.1) (State.isArrayOf_alike hZ.alike Ar3.2.1) (g := (mkF m 8 #[.val (.ref a1), .val (.int p2), .val (.int p3)] [(.ref d1), (.int (2 : Int32))])) rfl rfl (hb hby d5_8) _ ?_
    rw [len_of S3 M3]
    show Steps p.tables e below (T2.setTop (mkF m 9 #[.val (.ref a1), .val (.int p2), .val (.int p3)] [(.int N1), (.int (2 : Int32))])) _
    refine XS.icmpYes X2.here hx rfl (pc0 := 9) (pc' := 46) rfl (hb hby d5_9) rfl (feq (own_ne hN)).2 (by decide) (by decide) ?_
    show Steps p.tables e below (T2.setTop (mkF m 46 #[.val (.ref a1), .val (.int p2), .val (.int p3)] [])) _
    refine XS.aloadN X2.here hx rfl (hb hby d5_46) rfl rfl ?_
    exact k
  obtain ⟨T4, X4, e4, st4⟩ := getF X2 hx hZ hown (host := "") (Or.inl (hw _ (List.mem_of_getElem? (i := 13) rfl))) Via.refl e2 F_d (g := (mkF m 47 #[.val (.ref a1), .val (.int p2), .val (.int p3)] [(.ref a1)])) rfl rfl (hb hby d5_47)
  refine own_go (B := T4.setTop (mkF m 50 #[.val (.ref a1), .val (.int p2), .val (.int p3)] [(.ref d1)])) (fun t k => st4 _ k) ?_
  refine own_go (B := T4.setTop (mkF m 51 #[.val (.ref a1), .val (.int p2), .val (.int p3)] [(.ref a1), (.ref d1)])) (fun t k => ?_) ?_
  · show Steps p.tables e below (T4.setTop (mkF m 50 #[.val (.ref a1), .val (.int p2), .val (.int p3)] [(.ref d1)])) _
    refine XS.aloadN X4.here hx rfl (hb hby d5_50) rfl rfl ?_
    exact k
  obtain ⟨T5, X5, e5, st5⟩ := getF X4 hx hZ hown (host := "") (Or.inl (hw _ (List.mem_of_getElem? (i := 22) rfl))) Via.refl e4 F_s (g := (mkF m 51 #[.val (.ref a1), .val (.int p2), .val (.int p3)] [(.ref a1), (.ref d1)])) rfl rfl (hb hby d5_51)
  refine own_go (B := T5.setTop (mkF m 54 #[.val (.ref a1), .val (.int p2), .val (.int p3)] [(.int (2 : Int32)), (.ref d1)])) (fun t k => st5 _ k) ?_
  refine own_go (B := T5.setTop (mkF m 55 #[.val (.ref a1), .val (.int p2), .val (.int p3)] [(.int p2), (.int (2 : Int32)), (.ref d1)])) (fun t k => ?_) ?_
  · show Steps p.tables e below (T5.setTop (mkF m 54 #[.val (.ref a1), .val (.int p2), .val (.int p3)] [(.int (2 : Int32)), (.ref d1)])) _
    refine XS.iloadN X5.here hx rfl (hb hby d5_54) rfl ?_
    exact k
  have Vp6 : Arv Z h0 d1 kd .int N1 [(.int x0), (.int x1), (.int (0 : Int32))] (.int (0 : Int32)) := (V_d).pad (pad_rep [(.int x0), (.int x1)] (.int (0 : Int32)) 1)
  obtain ⟨cl6, Ar6, qk6, S6, M6, H6, G6⟩ := id Vp6
  obtain ⟨T6, h6, X6, e6, W6, st6⟩ := stI X5 hx hZ e5 Ar6 (j := (2 : Int32)) (inb_of S6 ⟨by decide, hN⟩) (g := (mkF m 55 #[.val (.ref a1), .val (.int p2), .val (.int p3)] [(.int p2), (.int (2 : Int32)), (.ref d1)])) rfl rfl (hb hby d5_55)
  have V6 : Arv Z h6 d1 kd .int N1 [(.int x0), (.int x1), (.int p2)] (.int (0 : Int32)) := Arv.set Ar6 qk6 S6 M6 H6 G6 rfl W6 2 rfl (Nat.le_of_ble_eq_true rfl)
  have c6_E_a1 := E_a1.wr W6
  have c6_F_a1_size := F_s.other W6 (Or.inl n_ad)
  have c6_F_a1_documents := F_d.other W6 (Or.inl n_ad)
  have c6_F_a1_frequencies := F_f.other W6 (Or.inl n_ad)
  have c6_F_a1_collectionFrequency := F_c.other W6 (Or.inl n_ad)
  have c6_V_f1 := V_f.other W6 (Ne.symm n_df)
  have K6 := (Keep.refl h0 [a1, d1, f1]).wr W6 (Or.inl (List.mem_of_getElem? (i := 1) rfl))
  have N6 := Fr.snoc X6 N0 g_d1
  refine own_go (B := T6.setTop (mkF m 56 #[.val (.ref a1), .val (.int p2), .val (.int p3)] [])) (fun t k => st6 _ k) ?_
  refine own_go (B := T6.setTop (mkF m 57 #[.val (.ref a1), .val (.int p2), .val (.int p3)] [(.ref a1)])) (fun t k => ?_) ?_
  · show Steps p.tables e below (T6.setTop (mkF m 56 #[.val (.ref a1), .val (.int p2), .val (.int p3)] [])) _
    refine XS.aloadN X6.here hx rfl (hb hby d5_56) rfl rfl ?_
    exact k
  obtain ⟨T7, X7, e7, st7⟩ := getF X6 hx hZ hown (host := "") (Or.inl (hw _ (List.mem_of_getElem? (i := 15) rfl))) Via.refl e6 c6_F_a1_frequencies (g := (mkF m 57 #[.val (.ref a1), .val (.int p2), .val (.int p3)] [(.ref a1)])) rfl rfl (hb hby d5_57)
  refine own_go (B := T7.setTop (mkF m 60 #[.val (.ref a1), .val (.int p2), .val (.int p3)] [(.ref f1)])) (fun t k => st7 _ k) ?_
  refine own_go (B := T7.setTop (mkF m 61 #[.val (.ref a1), .val (.int p2), .val (.int p3)] [(.ref a1), (.ref f1)])) (fun t k => ?_) ?_
  · show Steps p.tables e below (T7.setTop (mkF m 60 #[.val (.ref a1), .val (.int p2), .val (.int p3)] [(.ref f1)])) _
    refine XS.aloadN X7.here hx rfl (hb hby d5_60) rfl rfl ?_
    exact k
  obtain ⟨T8, X8, e8, st8⟩ := getF X7 hx hZ hown (host := "") (Or.inl (hw _ (List.mem_of_getElem? (i := 22) rfl))) Via.refl e7 c6_F_a1_size (g := (mkF m 61 #[.val (.ref a1), .val (.int p2), .val (.int p3)] [(.ref a1), (.ref f1)])) rfl rfl (hb hby d5_61)
  refine own_go (B := T8.setTop (mkF m 64 #[.val (.ref a1), .val (.int p2), .val (.int p3)] [(.int (2 : Int32)), (.ref f1)])) (fun t k => st8 _ k) ?_
  refine own_go (B := T8.setTop (mkF m 65 #[.val (.ref a1), .val (.int p2), .val (.int p3)] [(.int p3), (.int (2 : Int32)), (.ref f1)])) (fun t k => ?_) ?_
  · show Steps p.tables e below (T8.setTop (mkF m 64 #[.val (.ref a1), .val (.int p2), .val (.int p3)] [(.int (2 : Int32)), (.ref f1)])) _
    refine XS.iloadN X8.here hx rfl (hb hby d5_64) rfl ?_
    exact k
  have Vp9 : Arv Z h6 f1 kf .int N1 [(.int y0), (.int y1), (.int (0 : Int32))] (.int (0 : Int32)) := (c6_V_f1).pad (pad_rep [(.int y0), (.int y1)] (.int (0 : Int32)) 1)
  obtain ⟨cl9, Ar9, qk9, S9, M9, H9, G9⟩ := id Vp9
  obtain ⟨T9, h9, X9, e9, W9, st9⟩ := stI X8 hx hZ e8 Ar9 (j := (2 : Int32)) (inb_of S9 ⟨by decide, hN⟩) (g := (mkF m 65 #[.val (.ref a1), .val (.int p2), .val (.int p3)] [(.int p3), (.int (2 : Int32)), (.ref f1)])) rfl rfl (hb hby d5_65)
  have V9 : Arv Z h9 f1 kf .int N1 [(.int y0), (.int y1), (.int p3)] (.int (0 : Int32)) := Arv.set Ar9 qk9 S9 M9 H9 G9 rfl W9 2 rfl (Nat.le_of_ble_eq_true rfl)
  have c9_E_a1 := c6_E_a1.wr W9
  have c9_F_a1_size := c6_F_a1_size.other W9 (Or.inl n_af)
  have c9_F_a1_documents := c6_F_a1_documents.other W9 (Or.inl n_af)
  have c9_F_a1_frequencies := c6_F_a1_frequencies.other W9 (Or.inl n_af)
  have c9_F_a1_collectionFrequency := c6_F_a1_collectionFrequency.other W9 (Or.inl n_af)
  have c9_V_d1 := V6.other W9 n_df
  have K9 := K6.wr W9 (Or.inl (List.mem_of_getElem? (i := 2) rfl))
  have N9 := Fr.snoc X9 N6 g_f1
  refine own_go (B := T9.setTop (mkF m 66 #[.val (.ref a1), .val (.int p2), .val (.int p3)] [])) (fun t k => st9 _ k) ?_
  refine own_go (B := T9.setTop (mkF m 68 #[.val (.ref a1), .val (.int p2), .val (.int p3)] [(.ref a1), (.ref a1)])) (fun t k => ?_) ?_
  · show Steps p.tables e below (T9.setTop (mkF m 66 #[.val (.ref a1), .val (.int p2), .val (.int p3)] [])) _
    refine XS.aloadN X9.here hx rfl (hb hby d5_66) rfl rfl ?_
    show Steps p.tables e below (T9.setTop (mkF m 67 #[.val (.ref a1), .val (.int p2), .val (.int p3)] [(.ref a1)])) _
    refine XS.dup X9.here hx rfl (hb hby d5_67) rfl rfl ?_
    exact k
  obtain ⟨T10, X10, e10, st10⟩ := getF X9 hx hZ hown (host := "") (Or.inl (hw _ (List.mem_of_getElem? (i := 22) rfl))) Via.refl e9 c9_F_a1_size (g := (mkF m 68 #[.val (.ref a1), .val (.int p2), .val (.int p3)] [(.ref a1), (.ref a1)])) rfl rfl (hb hby d5_68)
  refine own_go (B := T10.setTop (mkF m 71 #[.val (.ref a1), .val (.int p2), .val (.int p3)] [(.int (2 : Int32)), (.ref a1)])) (fun t k => st10 _ k) ?_
  refine own_go (B := T10.setTop (mkF m 73 #[.val (.ref a1), .val (.int p2), .val (.int p3)] [(.int (3 : Int32)), (.ref a1)])) (fun t k => ?_) ?_
  · show Steps p.tables e below (T10.setTop (mkF m 71 #[.val (.ref a1), .val (.int p2), .val (.int p3)] [(.int (2 : Int32)), (.ref a1)])) _
    refine XS.iconst X10.here hx rfl (hb hby d5_71) ?_
    show Steps p.tables e below (T10.setTop (mkF m 72 #[.val (.ref a1), .val (.int p2), .val (.int p3)] [(.int (1 : Int32)), (.int (2 : Int32)), (.ref a1)])) _
    refine XS.iadd X10.here hx rfl (hb hby d5_72) rfl ?_
    exact k
  obtain ⟨T11, h11, X11, e11, W11, st11⟩ := putF X10 hx hZ hown (host := "") (Or.inl (hw _ (List.mem_of_getElem? (i := 22) rfl))) Via.refl e10 c9_F_a1_size c9_E_a1 (Or.inl (hw _ (List.mem_of_getElem? (i := 23) rfl))) (hw _ (List.mem_of_getElem? (i := 2) rfl)) (ty := .int) (by decide) rfl rfl (g := (mkF m 73 #[.val (.ref a1), .val (.int p2), .val (.int p3)] [(.int (3 : Int32)), (.ref a1)])) rfl rfl (hb hby d5_73)
  have c11_E_a1 := c9_E_a1.wr W11
  have c11_F_a1_size := c9_F_a1_size.same W11
  have c11_F_a1_documents := c9_F_a1_documents.other W11 (Or.inr (slot_ne (Or.inl (hw _ (List.mem_of_getElem? (i := 14) rfl))) (Or.inl (hw _ (List.mem_of_getElem? (i := 23) rfl))) (by decide) (t := (.array .int)) (t' := .int) (by decide) (by decide)))
  have c11_F_a1_frequencies := c9_F_a1_frequencies.other W11 (Or.inr (slot_ne (Or.inl (hw _ (List.mem_of_getElem? (i := 16) rfl))) (Or.inl (hw _ (List.mem_of_getElem? (i := 23) rfl))) (by decide) (t := (.array .int)) (t' := .int) (by decide) (by decide)))
  have c11_F_a1_collectionFrequency := c9_F_a1_collectionFrequency.other W11 (Or.inr (slot_ne (Or.inl (hw _ (List.mem_of_getElem? (i := 34) rfl))) (Or.inl (hw _ (List.mem_of_getElem? (i := 23) rfl))) (by decide) (t := .long) (t' := .int) (by decide) (by decide)))
  have c11_V_d1 := c9_V_d1.other W11 (Ne.symm n_ad)
  have c11_V_f1 := V9.other W11 (Ne.symm n_af)
  have K11 := K9.wr W11 (Or.inl (List.mem_of_getElem? (i := 0) rfl))
  have N11 := Fr.snoc X11 N9 g_a1
  refine own_go (B := T11.setTop (mkF m 76 #[.val (.ref a1), .val (.int p2), .val (.int p3)] [])) (fun t k => st11 _ k) ?_
  refine own_go (B := T11.setTop (mkF m 78 #[.val (.ref a1), .val (.int p2), .val (.int p3)] [(.ref a1), (.ref a1)])) (fun t k => ?_) ?_
  · show Steps p.tables e below (T11.setTop (mkF m 76 #[.val (.ref a1), .val (.int p2), .val (.int p3)] [])) _
    refine XS.aloadN X11.here hx rfl (hb hby d5_76) rfl rfl ?_
    show Steps p.tables e below (T11.setTop (mkF m 77 #[.val (.ref a1), .val (.int p2), .val (.int p3)] [(.ref a1)])) _
    refine XS.dup X11.here hx rfl (hb hby d5_77) rfl rfl ?_
    exact k
  obtain ⟨T12, X12, e12, st12⟩ := getF X11 hx hZ hown (host := "") (Or.inl (hw _ (List.mem_of_getElem? (i := 33) rfl))) Via.refl e11 c11_F_a1_collectionFrequency (g := (mkF m 78 #[.val (.ref a1), .val (.int p2), .val (.int p3)] [(.ref a1), (.ref a1)])) rfl rfl (hb hby d5_78)
  refine own_go (B := T12.setTop (mkF m 81 #[.val (.ref a1), .val (.int p2), .val (.int p3)] [(.long cf), (.ref a1)])) (fun t k => st12 _ k) ?_
  refine own_go (B := T12.setTop (mkF m 84 #[.val (.ref a1), .val (.int p2), .val (.int p3)] [(.long (cf + (p3.toInt64))), (.ref a1)])) (fun t k => ?_) ?_
  · show Steps p.tables e below (T12.setTop (mkF m 81 #[.val (.ref a1), .val (.int p2), .val (.int p3)] [(.long cf), (.ref a1)])) _
    refine XS.iloadN X12.here hx rfl (hb hby d5_81) rfl ?_
    show Steps p.tables e below (T12.setTop (mkF m 82 #[.val (.ref a1), .val (.int p2), .val (.int p3)] [(.int p3), (.long cf), (.ref a1)])) _
    refine XS.i2l X12.here hx rfl (hb hby d5_82) rfl ?_
    show Steps p.tables e below (T12.setTop (mkF m 83 #[.val (.ref a1), .val (.int p2), .val (.int p3)] [(.long (p3.toInt64)), (.long cf), (.ref a1)])) _
    refine XS.ladd X12.here hx rfl (hb hby d5_83) rfl ?_
    exact k
  obtain ⟨T13, h13, X13, e13, W13, st13⟩ := putF X12 hx hZ hown (host := "") (Or.inl (hw _ (List.mem_of_getElem? (i := 33) rfl))) Via.refl e12 c11_F_a1_collectionFrequency c11_E_a1 (Or.inl (hw _ (List.mem_of_getElem? (i := 34) rfl))) (hw _ (List.mem_of_getElem? (i := 2) rfl)) (ty := .long) (by decide) rfl rfl (g := (mkF m 84 #[.val (.ref a1), .val (.int p2), .val (.int p3)] [(.long (cf + (p3.toInt64))), (.ref a1)])) rfl rfl (hb hby d5_84)
  have c13_E_a1 := c11_E_a1.wr W13
  have c13_F_a1_size := c11_F_a1_size.other W13 (Or.inr (slot_ne (Or.inl (hw _ (List.mem_of_getElem? (i := 23) rfl))) (Or.inl (hw _ (List.mem_of_getElem? (i := 34) rfl))) (by decide) (t := .int) (t' := .long) (by decide) (by decide)))
  have c13_F_a1_documents := c11_F_a1_documents.other W13 (Or.inr (slot_ne (Or.inl (hw _ (List.mem_of_getElem? (i := 14) rfl))) (Or.inl (hw _ (List.mem_of_getElem? (i := 34) rfl))) (by decide) (t := (.array .int)) (t' := .long) (by decide) (by decide)))
  have c13_F_a1_frequencies := c11_F_a1_frequencies.other W13 (Or.inr (slot_ne (Or.inl (hw _ (List.mem_of_getElem? (i := 16) rfl))) (Or.inl (hw _ (List.mem_of_getElem? (i := 34) rfl))) (by decide) (t := (.array .int)) (t' := .long) (by decide) (by decide)))
  have c13_F_a1_collectionFrequency := c11_F_a1_collectionFrequency.same W13
  have c13_V_d1 := c11_V_d1.other W13 (Ne.symm n_ad)
  have c13_V_f1 := c11_V_f1.other W13 (Ne.symm n_af)
  have K13 := K11.wr W13 (Or.inl (List.mem_of_getElem? (i := 0) rfl))
  have N13 := Fr.snoc X13 N11 g_a1
  refine own_go (B := T13.setTop (mkF m 87 #[.val (.ref a1), .val (.int p2), .val (.int p3)] [])) (fun t k => st13 _ k) ?_
  obtain ⟨fs, hr, hrun, hended, hW, hsame⟩ := X13.leave (v := none) (fun _ => rfl)
  refine ⟨_, _, ?_, hrun, hended, _, _, rfl, ?_, ⟨_, rfl⟩, hW, hsame.mono (by decide) (by decide)⟩
  · show Steps p.tables e below (T13.setTop (mkF m 87 #[.val (.ref a1), .val (.int p2), .val (.int p3)] [])) _
    exact X13.returnOut hx Bd.returns (hb hby d5_87) hr
  · show Q5_2 Z a1 p2 p3 d1 f1 kd kf N1 cf x0 x1 y0 y1 h0 n0 _ T13.heap _
    rw [e13]
    exact ⟨rfl, N13, K13, c13_E_a1, c13_F_a1_size, c13_F_a1_documents, c13_F_a1_frequencies, c13_F_a1_collectionFrequency, c13_V_d1, c13_V_f1⟩
def Q5_2g (Z : State) (a1 : Addr) (p2 : Int32) (p3 : Int32) (d1 : Addr) (f1 : Addr) (kd : ClassId) (kf : ClassId) (cf : Int64) (x0 : Int32) (x1 : Int32) (y0 : Int32) (y1 : Int32) (h0 : Heap) (n0 : Nat) (v : Option Value) (h : Heap) (L : List Loc) : Prop := v = none ∧ Fr n0 L ∧ (∃ (d f : Addr) (kd kf : ClassId), Keep h0 h [a1] ∧ Exa Z h a1 "com/example/libqlm/libqlm/Postings" ∧ Fld Z h a1 "com/example/libqlm/libqlm/Postings" "size" "I" (.int (3 : Int32)) ∧ Fld Z h a1 "com/example/libqlm/libqlm/Postings" "documents" "[I" (.ref d) ∧ Fld Z h a1 "com/example/libqlm/libqlm/Postings" "frequencies" "[I" (.ref f) ∧ Fld Z h a1 "com/example/libqlm/libqlm/Postings" "collectionFrequency" "J" (.long (cf + (p3.toInt64))) ∧ Arv Z h d kd .int (4 : Int32) [(.int x0), (.int x1), (.int p2), (.int (0 : Int32))] (.int (0 : Int32)) ∧ Arv Z h f kf .int (4 : Int32) [(.int y0), (.int y1), (.int p3), (.int (0 : Int32))] (.int (0 : Int32)) ∧ h0.size ≤ d ∧ h0.size ≤ f ∧ n0 ≤ d ∧ n0 ≤ f ∧ d ≠ f)
set_option maxRecDepth 65536 in
set_option maxHeartbeats 40000000 in
theorem rm5_2g (l : Launch) (Z : State) (a0 : Array Value) (hw : ∀ d ∈ tables_1, d.before a0 Z = true) (ws : List Jvm.Cond) (a1 : Addr) (p2 : Int32) (p3 : Int32) (d1 : Addr) (f1 : Addr) (kd : ClassId) (kf : ClassId) (cf : Int64) (x0 : Int32) (x1 : Int32) (y0 : Int32) (y1 : Int32) (h0 : Heap) (n0 : Nat) (Z0 : n0 ≤ h0.size) (E_a1 : Exa Z h0 a1 "com/example/libqlm/libqlm/Postings") (g_a1 : n0 ≤ a1) (g_d1 : n0 ≤ d1) (g_f1 : n0 ≤ f1) (F_s : Fld Z h0 a1 "com/example/libqlm/libqlm/Postings" "size" "I" (.int (2 : Int32))) (F_d : Fld Z h0 a1 "com/example/libqlm/libqlm/Postings" "documents" "[I" (.ref d1)) (F_f : Fld Z h0 a1 "com/example/libqlm/libqlm/Postings" "frequencies" "[I" (.ref f1)) (F_c : Fld Z h0 a1 "com/example/libqlm/libqlm/Postings" "collectionFrequency" "J" (.long cf)) (V_d : Arv Z h0 d1 kd .int (2 : Int32) [(.int x0), (.int x1)] (.int (0 : Int32))) (V_f : Arv Z h0 f1 kf .int (2 : Int32) [(.int y0), (.int y1)] (.int (0 : Int32))) (n_ad : a1 ≠ d1) (n_af : a1 ≠ f1) (n_df : d1 ≠ f1) :
    MetFree l (⟨"com/example/libqlm/libqlm/Postings", "add", "(II)V"⟩ : MethodName) (head1 (Jvm.Cond.code (⟨"com/example/libqlm/libqlm/Postings", "add", "(II)V"⟩ : MethodName) prog_92_method_4_code 3 none :: ws) ({ frames := 2, cells := 2, slots := 8, locals := 60 } : Room)) (fun a U => a = #[(.ref a1), (.int p2), (.int p3)] ∧ Z.Warmed39 U.vm ∧ U.heap = h0) (fun _ _ _ _ _ => True) (fun _ U o U' => ∃ v L, o = .returned v ∧ Q5_2g Z a1 p2 p3 d1 f1 kd kf cf x0 x1 y0 y1 h0 n0 v U'.heap L ∧ FrameEnd U o U' L ({ frames := 2, cells := 2, slots := 8, locals := 60 } : Room).cells ({ frames := 2, cells := 2, slots := 8, locals := 60 } : Room).slots) := by
  refine MetFree.of_bodySF (plainFor_of_name pn_5) hisR ?_
  intro p e s m args below meth c s₁ Bd hml0 hP hK
  obtain ⟨rfl, hZ, hh⟩ := hP
  have hx := Bd.exec
  have hby := Bd.bytes
  have hml : c.maxLocals = 3 := hml0
  have hown : s.vm.findClass "com/example/libqlm/libqlm/Postings" = some m.cls := findClass_of_methodNamed Bd.named
  have hnm := (name_of_methodNamed Bd.named Bd.method).1
  have X0 : Stand p l e ({ frames := 2, cells := 2, slots := 8, locals := 60 } : Room) s m #[(.ref a1), (.int p2), (.int p3)] below meth c s₁ [] 0 0 := Stand.of_body Bd
  have e0 : s₁.heap = h0 := by rw [← hh, Bd.state]; rfl
  have N0 := Fr.nil n0
  refine own_go (B := s₁.setTop (mkF m 0 #[.val (.ref a1), .val (.int p2), .val (.int p3)] [])) (fun t k => castTop (ef_5 m a1 p2 p3) k) ?_
  refine own_go (B := s₁.setTop (mkF m 1 #[.val (.ref a1), .val (.int p2), .val (.int p3)] [(.ref a1)])) (fun t k => ?_) ?_
  · show Steps p.tables e below (s₁.setTop (mkF m 0 #[.val (.ref a1), .val (.int p2), .val (.int p3)] [])) _
    refine XS.aloadN X0.here hx rfl (hb hby d5_0) rfl rfl ?_
    exact k
  obtain ⟨T1, X1, e1, st1⟩ := getF X0 hx hZ hown (host := "") (Or.inl (hw _ (List.mem_of_getElem? (i := 22) rfl))) Via.refl e0 F_s (g := (mkF m 1 #[.val (.ref a1), .val (.int p2), .val (.int p3)] [(.ref a1)])) rfl rfl (hb hby d5_1)
  refine own_go (B := T1.setTop (mkF m 4 #[.val (.ref a1), .val (.int p2), .val (.int p3)] [(.int (2 : Int32))])) (fun t k => st1 _ k) ?_
  refine own_go (B := T1.setTop (mkF m 5 #[.val (.ref a1), .val (.int p2), .val (.int p3)] [(.ref a1), (.int (2 : Int32))])) (fun t k => ?_) ?_
  · show Steps p.tables e below (T1.setTop (mkF m 4 #[.val (.ref a1), .val (.int p2), .val (.int p3)] [(.int (2 : Int32))])) _
    refine XS.aloadN X1.here hx rfl (hb hby d5_4) rfl rfl ?_
    exact k
  obtain ⟨T2, X2, e2, st2⟩ := getF X1 hx hZ hown (host := "") (Or.inl (hw _ (List.mem_of_getElem? (i := 13) rfl))) Via.refl e1 F_d (g := (mkF m 5 #[.val (.ref a1), .val (.int p2), .val (.int p3)] [(.ref a1), (.int (2 : Int32))])) rfl rfl (hb hby d5_5)
  refine own_go (B := T2.setTop (mkF m 8 #[.val (.ref a1), .val (.int p2), .val (.int p3)] [(.ref d1), (.int (2 : Int32))])) (fun t k => st2 _ k) ?_
  obtain ⟨cl3, Ar3, qk3, S3, M3, H3, G3⟩ := id V_d
  refine own_go (B := T2.setTop (mkF m 14 #[.val (.ref a1), .val (.int p2), .val (.int p3)] [(.ref a1), (.ref a1)])) (fun t k => ?_) ?_
  · show Steps p.tables e below (T2.setTop (mkF m 8 #[.val (.ref a1), .val (.int p2), .val (.int p3)] [(.ref d1), (.int (2 : Int32))])) _
    refine X2.arraylength hx (by rw [e2]; exact Ar3.1) (State.isArrayOf_alike hZ.alike Ar3.2.1) (g := (mkF m 8 #[.val (.ref a1), .val (.int p2), .val (.int p3)] [(.ref d1), (.int (2 : Int32))])) rfl rfl (hb hby d5_8) _ ?_
    rw [len_of S3 M3]
    show Steps p.tables e below (T2.setTop (mkF m 9 #[.val (.ref a1), .val (.int p2), .val (.int p3)] [(.int (2 : Int32)), (.int (2 : Int32))])) _
    refine XS.icmpNo X2.here hx rfl (hb hby d5_9) rfl (teq (by decide)).2 ?_
    show Steps p.tables e below (T2.setTop (mkF m 12 #[.val (.ref a1), .val (.int p2), .val (.int p3)] [])) _
    refine XS.aloadN X2.here hx rfl (hb hby d5_12) rfl rfl ?_
    show Steps p.tables e below (T2.setTop (mkF m 13 #[.val (.ref a1), .val (.int p2), .val (.int p3)] [(.ref a1)])) _
    refine XS.aloadN X2.here hx rfl (hb hby d5_13) rfl rfl ?_
    exact k
  obtain ⟨T4, X4, e4, st4⟩ := getF X2 hx hZ hown (host := "") (Or.inl (hw _ (List.mem_of_getElem? (i := 13) rfl))) Via.refl e2 F_d (g := (mkF m 14 #[.val (.ref a1), .val (.int p2), .val (.int p3)] [(.ref a1), (.ref a1)])) rfl rfl (hb hby d5_14)
  refine own_go (B := T4.setTop (mkF m 17 #[.val (.ref a1), .val (.int p2), .val (.int p3)] [(.ref d1), (.ref a1)])) (fun t k => st4 _ k) ?_
  refine own_go (B := T4.setTop (mkF m 18 #[.val (.ref a1), .val (.int p2), .val (.int p3)] [(.ref a1), (.ref d1), (.ref a1)])) (fun t k => ?_) ?_
  · show Steps p.tables e below (T4.setTop (mkF m 17 #[.val (.ref a1), .val (.int p2), .val (.int p3)] [(.ref d1), (.ref a1)])) _
    refine XS.aloadN X4.here hx rfl (hb hby d5_17) rfl rfl ?_
    exact k
  obtain ⟨T5, X5, e5, st5⟩ := getF X4 hx hZ hown (host := "") (Or.inl (hw _ (List.mem_of_getElem? (i := 22) rfl))) Via.refl e4 F_s (g := (mkF m 18 #[.val (.ref a1), .val (.int p2), .val (.int p3)] [(.ref a1), (.ref d1), (.ref a1)])) rfl rfl (hb hby d5_18)
  refine own_go (B := T5.setTop (mkF m 21 #[.val (.ref a1), .val (.int p2), .val (.int p3)] [(.int (2 : Int32)), (.ref d1), (.ref a1)])) (fun t k => st5 _ k) ?_
  refine own_go (B := T5.setTop (mkF m 23 #[.val (.ref a1), .val (.int p2), .val (.int p3)] [(.int (4 : Int32)), (.ref d1), (.ref a1)])) (fun t k => ?_) ?_
  · show Steps p.tables e below (T5.setTop (mkF m 21 #[.val (.ref a1), .val (.int p2), .val (.int p3)] [(.int (2 : Int32)), (.ref d1), (.ref a1)])) _
    refine XS.iconst X5.here hx rfl (hb hby d5_21) ?_
    show Steps p.tables e below (T5.setTop (mkF m 22 #[.val (.ref a1), .val (.int p2), .val (.int p3)] [(.int (2 : Int32)), (.int (2 : Int32)), (.ref d1), (.ref a1)])) _
    refine XS.imul X5.here hx rfl (hb hby d5_22) rfl ?_
    exact k
  obtain ⟨_, _, ⟨T6, L6, k6, n6⟩, -, X6, ⟨Lc6, hQ6, l6, y6, z6⟩, st6⟩ := Jvm.LawKit.callS X5 hx (y := (⟨"java/util/Arrays", "copyOf", "([II)[I"⟩ : MethodName)) hown (mvT hZ (hw _ (List.mem_of_getElem? (i := 35) rfl))) (mvT hZ (hw _ (List.mem_of_getElem? (i := 36) rfl))) (mvT hZ (hw _ (List.mem_of_getElem? (i := 37) rfl))) (mvT hZ (hw _ (List.mem_of_getElem? (i := 38) rfl))) (by decide) (backOf (W := 1) (rm6_2 l Z a0 hw [] d1 kd x0 x1 h0 n0 Z0 V_d) hZ (hw _ (List.mem_of_getElem? (i := 38) rfl)) (hw _ (List.mem_of_getElem? (i := 37) rfl)) (by decide) (by decide)) (g := (mkF m 23 #[.val (.ref a1), .val (.int p2), .val (.int p3)] [(.int (4 : Int32)), (.ref d1), (.ref a1)])) rfl (by rw [hml]; rfl) (argsL := [(.ref d1), (.int (4 : Int32))]) (rest := [(.ref a1)]) (lenOf own_pd1 rfl) rfl (by show 2 * 0 + _ ≤ _; exact Nat.le_of_eq rfl) (hb hby d5_23) (fun _ _ => ⟨rfl, e5, (by decide : 0 + 1 ≤ _), (by decide : 0 + 4 ≤ _)⟩)
  dsimp only [Pt.U, Pt.locs, Pt.cells, Pt.slots] at X6 l6 y6 z6 st6 hQ6
  subst l6 y6 z6
  obtain ⟨bq6, kq6, rfl, N6q, K6q, q6z, q6g, V6q⟩ := hQ6
  have N6 := Fr.app N0 N6q
  have sz_bq6 : h0.size ≤ bq6 := Nat.le_trans (Keep.refl h0 [a1]).1 q6z
  have g_bq6 : n0 ≤ bq6 := q6g
  have ne_a1_bq6 : a1 ≠ bq6 := Nat.ne_of_lt (Nat.lt_of_lt_of_le E_a1.lt q6z)
  have ne_d1_bq6 : d1 ≠ bq6 := Nat.ne_of_lt (Nat.lt_of_lt_of_le V_d.lt q6z)
  have ne_f1_bq6 : f1 ≠ bq6 := Nat.ne_of_lt (Nat.lt_of_lt_of_le V_f.lt q6z)
  have c6_E_a1 := E_a1.keep K6q
  have c6_F_a1_size := F_s.keep K6q (List.not_mem_nil)
  have c6_F_a1_documents := F_d.keep K6q (List.not_mem_nil)
  have c6_F_a1_frequencies := F_f.keep K6q (List.not_mem_nil)
  have c6_F_a1_collectionFrequency := F_c.keep K6q (List.not_mem_nil)
  have c6_V_d1 := V_d.keep K6q (List.not_mem_nil)
  have c6_V_f1 := V_f.keep K6q (List.not_mem_nil)
  have K6 := (Keep.refl h0 [a1]).trans K6q all0
  refine own_go (B := T6.setTop (mkF m 26 #[.val (.ref a1), .val (.int p2), .val (.int p3)] [(.ref bq6), (.ref a1)])) (fun t k => st6 _ k) ?_
  obtain ⟨T7, h7, X7, e7, W7, st7⟩ := putF X6 hx hZ hown (host := "") (Or.inl (hw _ (List.mem_of_getElem? (i := 13) rfl))) Via.refl rfl c6_F_a1_documents c6_E_a1 (Or.inl (hw _ (List.mem_of_getElem? (i := 14) rfl))) (hw _ (List.mem_of_getElem? (i := 2) rfl)) (ty := (.array .int)) (by decide) rfl rfl (g := (mkF m 26 #[.val (.ref a1), .val (.int p2), .val (.int p3)] [(.ref bq6), (.ref a1)])) rfl rfl (hb hby d5_26)
  have c7_E_a1 := c6_E_a1.wr W7
  have c7_F_a1_size := c6_F_a1_size.other W7 (Or.inr (slot_ne (Or.inl (hw _ (List.mem_of_getElem? (i := 23) rfl))) (Or.inl (hw _ (List.mem_of_getElem? (i := 14) rfl))) (by decide) (t := .int) (t' := (.array .int)) (by decide) (by decide)))
  have c7_F_a1_documents := c6_F_a1_documents.same W7
  have c7_F_a1_frequencies := c6_F_a1_frequencies.other W7 (Or.inr (slot_ne (Or.inl (hw _ (List.mem_of_getElem? (i := 16) rfl))) (Or.inl (hw _ (List.mem_of_getElem? (i := 14) rfl))) (by decide) (t := (.array .int)) (t' := (.array .int)) (by decide) (by decide)))
  have c7_F_a1_collectionFrequency := c6_F_a1_collectionFrequency.other W7 (Or.inr (slot_ne (Or.inl (hw _ (List.mem_of_getElem? (i := 34) rfl))) (Or.inl (hw _ (List.mem_of_getElem? (i := 14) rfl))) (by decide) (t := .long) (t' := (.array .int)) (by decide) (by decide)))
  have c7_V_d1 := c6_V_d1.other W7 (Ne.symm n_ad)
  have c7_V_f1 := c6_V_f1.other W7 (Ne.symm n_af)
  have c7_V_bq6 := V6q.other W7 (Ne.symm ne_a1_bq6)
  have K7 := K6.wr W7 (Or.inl (List.mem_of_getElem? (i := 0) rfl))
  have N7 := Fr.snoc X7 N6 g_a1
  refine own_go (B := T7.setTop (mkF m 29 #[.val (.ref a1), .val (.int p2), .val (.int p3)] [])) (fun t k => st7 _ k) ?_
  refine own_go (B := T7.setTop (mkF m 31 #[.val (.ref a1), .val (.int p2), .val (.int p3)] [(.ref a1), (.ref a1)])) (fun t k => ?_) ?_
  · show Steps p.tables e below (T7.setTop (mkF m 29 #[.val (.ref a1), .val (.int p2), .val (.int p3)] [])) _
    refine XS.aloadN X7.here hx rfl (hb hby d5_29) rfl rfl ?_
    show Steps p.tables e below (T7.setTop (mkF m 30 #[.val (.ref a1), .val (.int p2), .val (.int p3)] [(.ref a1)])) _
    refine XS.aloadN X7.here hx rfl (hb hby d5_30) rfl rfl ?_
    exact k
  obtain ⟨T8, X8, e8, st8⟩ := getF X7 hx hZ hown (host := "") (Or.inl (hw _ (List.mem_of_getElem? (i := 15) rfl))) Via.refl e7 c7_F_a1_frequencies (g := (mkF m 31 #[.val (.ref a1), .val (.int p2), .val (.int p3)] [(.ref a1), (.ref a1)])) rfl rfl (hb hby d5_31)
  refine own_go (B := T8.setTop (mkF m 34 #[.val (.ref a1), .val (.int p2), .val (.int p3)] [(.ref f1), (.ref a1)])) (fun t k => st8 _ k) ?_
  refine own_go (B := T8.setTop (mkF m 35 #[.val (.ref a1), .val (.int p2), .val (.int p3)] [(.ref a1), (.ref f1), (.ref a1)])) (fun t k => ?_) ?_
  · show Steps p.tables e below (T8.setTop (mkF m 34 #[.val (.ref a1), .val (.int p2), .val (.int p3)] [(.ref f1), (.ref a1)])) _
    refine XS.aloadN X8.here hx rfl (hb hby d5_34) rfl rfl ?_
    exact k
  obtain ⟨T9, X9, e9, st9⟩ := getF X8 hx hZ hown (host := "") (Or.inl (hw _ (List.mem_of_getElem? (i := 22) rfl))) Via.refl e8 c7_F_a1_size (g := (mkF m 35 #[.val (.ref a1), .val (.int p2), .val (.int p3)] [(.ref a1), (.ref f1), (.ref a1)])) rfl rfl (hb hby d5_35)
  refine own_go (B := T9.setTop (mkF m 38 #[.val (.ref a1), .val (.int p2), .val (.int p3)] [(.int (2 : Int32)), (.ref f1), (.ref a1)])) (fun t k => st9 _ k) ?_
  refine own_go (B := T9.setTop (mkF m 40 #[.val (.ref a1), .val (.int p2), .val (.int p3)] [(.int (4 : Int32)), (.ref f1), (.ref a1)])) (fun t k => ?_) ?_
  · show Steps p.tables e below (T9.setTop (mkF m 38 #[.val (.ref a1), .val (.int p2), .val (.int p3)] [(.int (2 : Int32)), (.ref f1), (.ref a1)])) _
    refine XS.iconst X9.here hx rfl (hb hby d5_38) ?_
    show Steps p.tables e below (T9.setTop (mkF m 39 #[.val (.ref a1), .val (.int p2), .val (.int p3)] [(.int (2 : Int32)), (.int (2 : Int32)), (.ref f1), (.ref a1)])) _
    refine XS.imul X9.here hx rfl (hb hby d5_39) rfl ?_
    exact k
  obtain ⟨_, _, ⟨T10, L10, k10, n10⟩, -, X10, ⟨Lc10, hQ10, l10, y10, z10⟩, st10⟩ := Jvm.LawKit.callS X9 hx (y := (⟨"java/util/Arrays", "copyOf", "([II)[I"⟩ : MethodName)) hown (mvT hZ (hw _ (List.mem_of_getElem? (i := 35) rfl))) (mvT hZ (hw _ (List.mem_of_getElem? (i := 36) rfl))) (mvT hZ (hw _ (List.mem_of_getElem? (i := 37) rfl))) (mvT hZ (hw _ (List.mem_of_getElem? (i := 38) rfl))) (by decide) (backOf (W := 1) (rm6_2 l Z a0 hw [] f1 kf y0 y1 h7 n0 (Nat.le_trans (Nat.le_trans Z0 K6q.1) (Keep.of_wr W7).1) c7_V_f1) hZ (hw _ (List.mem_of_getElem? (i := 38) rfl)) (hw _ (List.mem_of_getElem? (i := 37) rfl)) (by decide) (by decide)) (g := (mkF m 40 #[.val (.ref a1), .val (.int p2), .val (.int p3)] [(.int (4 : Int32)), (.ref f1), (.ref a1)])) rfl (by rw [hml]; rfl) (argsL := [(.ref f1), (.int (4 : Int32))]) (rest := [(.ref a1)]) (lenOf own_pd1 rfl) rfl (by show 2 * 0 + _ ≤ _; exact Nat.le_of_eq rfl) (hb hby d5_40) (fun _ _ => ⟨rfl, e9, (by decide : 1 + 1 ≤ _), (by decide : 4 + 4 ≤ _)⟩)
  dsimp only [Pt.U, Pt.locs, Pt.cells, Pt.slots] at X10 l10 y10 z10 st10 hQ10
  subst l10 y10 z10
  obtain ⟨bq10, kq10, rfl, N10q, K10q, q10z, q10g, V10q⟩ := hQ10
  have N10 := Fr.app N7 N10q
  have sz_bq10 : h0.size ≤ bq10 := Nat.le_trans K7.1 q10z
  have g_bq10 : n0 ≤ bq10 := q10g
  have ne_a1_bq10 : a1 ≠ bq10 := Nat.ne_of_lt (Nat.lt_of_lt_of_le c7_E_a1.lt q10z)
  have ne_d1_bq10 : d1 ≠ bq10 := Nat.ne_of_lt (Nat.lt_of_lt_of_le c7_V_d1.lt q10z)
  have ne_f1_bq10 : f1 ≠ bq10 := Nat.ne_of_lt (Nat.lt_of_lt_of_le c7_V_f1.lt q10z)
  have ne_bq6_bq10 : bq6 ≠ bq10 := Nat.ne_of_lt (Nat.lt_of_lt_of_le c7_V_bq6.lt q10z)
  have c10_E_a1 := c7_E_a1.keep K10q
  have c10_F_a1_size := c7_F_a1_size.keep K10q (List.not_mem_nil)
  have c10_F_a1_documents := c7_F_a1_documents.keep K10q (List.not_mem_nil)
  have c10_F_a1_frequencies := c7_F_a1_frequencies.keep K10q (List.not_mem_nil)
  have c10_F_a1_collectionFrequency := c7_F_a1_collectionFrequency.keep K10q (List.not_mem_nil)
  have c10_V_d1 := c7_V_d1.keep K10q (List.not_mem_nil)
  have c10_V_f1 := c7_V_f1.keep K10q (List.not_mem_nil)
  have c10_V_bq6 := c7_V_bq6.keep K10q (List.not_mem_nil)
  have K10 := K7.trans K10q all0
  refine own_go (B := T10.setTop (mkF m 43 #[.val (.ref a1), .val (.int p2), .val (.int p3)] [(.ref bq10), (.ref a1)])) (fun t k => st10 _ k) ?_
  obtain ⟨T11, h11, X11, e11, W11, st11⟩ := putF X10 hx hZ hown (host := "") (Or.inl (hw _ (List.mem_of_getElem? (i := 15) rfl))) Via.refl rfl c10_F_a1_frequencies c10_E_a1 (Or.inl (hw _ (List.mem_of_getElem? (i := 16) rfl))) (hw _ (List.mem_of_getElem? (i := 2) rfl)) (ty := (.array .int)) (by decide) rfl rfl (g := (mkF m 43 #[.val (.ref a1), .val (.int p2), .val (.int p3)] [(.ref bq10), (.ref a1)])) rfl rfl (hb hby d5_43)
  have c11_E_a1 := c10_E_a1.wr W11
  have c11_F_a1_size := c10_F_a1_size.other W11 (Or.inr (slot_ne (Or.inl (hw _ (List.mem_of_getElem? (i := 23) rfl))) (Or.inl (hw _ (List.mem_of_getElem? (i := 16) rfl))) (by decide) (t := .int) (t' := (.array .int)) (by decide) (by decide)))
  have c11_F_a1_documents := c10_F_a1_documents.other W11 (Or.inr (slot_ne (Or.inl (hw _ (List.mem_of_getElem? (i := 14) rfl))) (Or.inl (hw _ (List.mem_of_getElem? (i := 16) rfl))) (by decide) (t := (.array .int)) (t' := (.array .int)) (by decide) (by decide)))
  have c11_F_a1_frequencies := c10_F_a1_frequencies.same W11
  have c11_F_a1_collectionFrequency := c10_F_a1_collectionFrequency.other W11 (Or.inr (slot_ne (Or.inl (hw _ (List.mem_of_getElem? (i := 34) rfl))) (Or.inl (hw _ (List.mem_of_getElem? (i := 16) rfl))) (by decide) (t := .long) (t' := (.array .int)) (by decide) (by decide)))
  have c11_V_d1 := c10_V_d1.other W11 (Ne.symm n_ad)
  have c11_V_f1 := c10_V_f1.other W11 (Ne.symm n_af)
  have c11_V_bq6 := c10_V_bq6.other W11 (Ne.symm ne_a1_bq6)
  have c11_V_bq10 := V10q.other W11 (Ne.symm ne_a1_bq10)
  have K11 := K10.wr W11 (Or.inl (List.mem_of_getElem? (i := 0) rfl))
  have N11 := Fr.snoc X11 N10 g_a1
  refine own_go (B := T11.setTop (mkF m 46 #[.val (.ref a1), .val (.int p2), .val (.int p3)] [])) (fun t k => st11 _ k) ?_
  refine own_go (B := T11.setTop (mkF m 47 #[.val (.ref a1), .val (.int p2), .val (.int p3)] [(.ref a1)])) (fun t k => ?_) ?_
  · show Steps p.tables e below (T11.setTop (mkF m 46 #[.val (.ref a1), .val (.int p2), .val (.int p3)] [])) _
    refine XS.aloadN X11.here hx rfl (hb hby d5_46) rfl rfl ?_
    exact k
  obtain ⟨T12, X12, e12, st12⟩ := getF X11 hx hZ hown (host := "") (Or.inl (hw _ (List.mem_of_getElem? (i := 13) rfl))) Via.refl e11 c11_F_a1_documents (g := (mkF m 47 #[.val (.ref a1), .val (.int p2), .val (.int p3)] [(.ref a1)])) rfl rfl (hb hby d5_47)
  refine own_go (B := T12.setTop (mkF m 50 #[.val (.ref a1), .val (.int p2), .val (.int p3)] [(.ref bq6)])) (fun t k => st12 _ k) ?_
  refine own_go (B := T12.setTop (mkF m 51 #[.val (.ref a1), .val (.int p2), .val (.int p3)] [(.ref a1), (.ref bq6)])) (fun t k => ?_) ?_
  · show Steps p.tables e below (T12.setTop (mkF m 50 #[.val (.ref a1), .val (.int p2), .val (.int p3)] [(.ref bq6)])) _
    refine XS.aloadN X12.here hx rfl (hb hby d5_50) rfl rfl ?_
    exact k
  obtain ⟨T13, X13, e13, st13⟩ := getF X12 hx hZ hown (host := "") (Or.inl (hw _ (List.mem_of_getElem? (i := 22) rfl))) Via.refl e12 c11_F_a1_size (g := (mkF m 51 #[.val (.ref a1), .val (.int p2), .val (.int p3)] [(.ref a1), (.ref bq6)])) rfl rfl (hb hby d5_51)
  refine own_go (B := T13.setTop (mkF m 54 #[.val (.ref a1), .val (.int p2), .val (.int p3)] [(.int (2 : Int32)), (.ref bq6)])) (fun t k => st13 _ k) ?_
  refine own_go (B := T13.setTop (mkF m 55 #[.val (.ref a1), .val (.int p2), .val (.int p3)] [(.int p2), (.int (2 : Int32)), (.ref bq6)])) (fun t k => ?_) ?_
  · show Steps p.tables e below (T13.setTop (mkF m 54 #[.val (.ref a1), .val (.int p2), .val (.int p3)] [(.int (2 : Int32)), (.ref bq6)])) _
    refine XS.iloadN X13.here hx rfl (hb hby d5_54) rfl ?_
    exact k
  obtain ⟨cl14, Ar14, qk14, S14, M14, H14, G14⟩ := id c11_V_bq6
  obtain ⟨T14, h14, X14, e14, W14, st14⟩ := stI X13 hx hZ e13 Ar14 (j := (2 : Int32)) (inb_of S14 ⟨by decide, by decide⟩) (g := (mkF m 55 #[.val (.ref a1), .val (.int p2), .val (.int p3)] [(.int p2), (.int (2 : Int32)), (.ref bq6)])) rfl rfl (hb hby d5_55)
  have V14 : Arv Z h14 bq6 kq6 .int (4 : Int32) [(.int x0), (.int x1), (.int p2), (.int (0 : Int32))] (.int (0 : Int32)) := Arv.set Ar14 qk14 S14 M14 H14 G14 rfl W14 2 rfl (Nat.le_of_ble_eq_true rfl)
  have c14_E_a1 := c11_E_a1.wr W14
  have c14_F_a1_size := c11_F_a1_size.other W14 (Or.inl ne_a1_bq6)
  have c14_F_a1_documents := c11_F_a1_documents.other W14 (Or.inl ne_a1_bq6)
  have c14_F_a1_frequencies := c11_F_a1_frequencies.other W14 (Or.inl ne_a1_bq6)
  have c14_F_a1_collectionFrequency := c11_F_a1_collectionFrequency.other W14 (Or.inl ne_a1_bq6)
  have c14_V_d1 := c11_V_d1.other W14 ne_d1_bq6
  have c14_V_f1 := c11_V_f1.other W14 ne_f1_bq6
  have c14_V_bq10 := c11_V_bq10.other W14 (Ne.symm ne_bq6_bq10)
  have K14 := K11.wr W14 (Or.inr sz_bq6)
  have N14 := Fr.snoc X14 N11 g_bq6
  refine own_go (B := T14.setTop (mkF m 56 #[.val (.ref a1), .val (.int p2), .val (.int p3)] [])) (fun t k => st14 _ k) ?_
  refine own_go (B := T14.setTop (mkF m 57 #[.val (.ref a1), .val (.int p2), .val (.int p3)] [(.ref a1)])) (fun t k => ?_) ?_
  · show Steps p.tables e below (T14.setTop (mkF m 56 #[.val (.ref a1), .val (.int p2), .val (.int p3)] [])) _
    refine XS.aloadN X14.here hx rfl (hb hby d5_56) rfl rfl ?_
    exact k
  obtain ⟨T15, X15, e15, st15⟩ := getF X14 hx hZ hown (host := "") (Or.inl (hw _ (List.mem_of_getElem? (i := 15) rfl))) Via.refl e14 c14_F_a1_frequencies (g := (mkF m 57 #[.val (.ref a1), .val (.int p2), .val (.int p3)] [(.ref a1)])) rfl rfl (hb hby d5_57)
  refine own_go (B := T15.setTop (mkF m 60 #[.val (.ref a1), .val (.int p2), .val (.int p3)] [(.ref bq10)])) (fun t k => st15 _ k) ?_
  refine own_go (B := T15.setTop (mkF m 61 #[.val (.ref a1), .val (.int p2), .val (.int p3)] [(.ref a1), (.ref bq10)])) (fun t k => ?_) ?_
  · show Steps p.tables e below (T15.setTop (mkF m 60 #[.val (.ref a1), .val (.int p2), .val (.int p3)] [(.ref bq10)])) _
    refine XS.aloadN X15.here hx rfl (hb hby d5_60) rfl rfl ?_
    exact k
  obtain ⟨T16, X16, e16, st16⟩ := getF X15 hx hZ hown (host := "") (Or.inl (hw _ (List.mem_of_getElem? (i := 22) rfl))) Via.refl e15 c14_F_a1_size (g := (mkF m 61 #[.val (.ref a1), .val (.int p2), .val (.int p3)] [(.ref a1), (.ref bq10)])) rfl rfl (hb hby d5_61)
  refine own_go (B := T16.setTop (mkF m 64 #[.val (.ref a1), .val (.int p2), .val (.int p3)] [(.int (2 : Int32)), (.ref bq10)])) (fun t k => st16 _ k) ?_
  refine own_go (B := T16.setTop (mkF m 65 #[.val (.ref a1), .val (.int p2), .val (.int p3)] [(.int p3), (.int (2 : Int32)), (.ref bq10)])) (fun t k => ?_) ?_
  · show Steps p.tables e below (T16.setTop (mkF m 64 #[.val (.ref a1), .val (.int p2), .val (.int p3)] [(.int (2 : Int32)), (.ref bq10)])) _
    refine XS.iloadN X16.here hx rfl (hb hby d5_64) rfl ?_
    exact k
  obtain ⟨cl17, Ar17, qk17, S17, M17, H17, G17⟩ := id c14_V_bq10
  obtain ⟨T17, h17, X17, e17, W17, st17⟩ := stI X16 hx hZ e16 Ar17 (j := (2 : Int32)) (inb_of S17 ⟨by decide, by decide⟩) (g := (mkF m 65 #[.val (.ref a1), .val (.int p2), .val (.int p3)] [(.int p3), (.int (2 : Int32)), (.ref bq10)])) rfl rfl (hb hby d5_65)
  have V17 : Arv Z h17 bq10 kq10 .int (4 : Int32) [(.int y0), (.int y1), (.int p3), (.int (0 : Int32))] (.int (0 : Int32)) := Arv.set Ar17 qk17 S17 M17 H17 G17 rfl W17 2 rfl (Nat.le_of_ble_eq_true rfl)
  have c17_E_a1 := c14_E_a1.wr W17
  have c17_F_a1_size := c14_F_a1_size.other W17 (Or.inl ne_a1_bq10)
  have c17_F_a1_documents := c14_F_a1_documents.other W17 (Or.inl ne_a1_bq10)
  have c17_F_a1_frequencies := c14_F_a1_frequencies.other W17 (Or.inl ne_a1_bq10)
  have c17_F_a1_collectionFrequency := c14_F_a1_collectionFrequency.other W17 (Or.inl ne_a1_bq10)
  have c17_V_d1 := c14_V_d1.other W17 ne_d1_bq10
  have c17_V_f1 := c14_V_f1.other W17 ne_f1_bq10
  have c17_V_bq6 := V14.other W17 ne_bq6_bq10
  have K17 := K14.wr W17 (Or.inr sz_bq10)
  have N17 := Fr.snoc X17 N14 g_bq10
  refine own_go (B := T17.setTop (mkF m 66 #[.val (.ref a1), .val (.int p2), .val (.int p3)] [])) (fun t k => st17 _ k) ?_
  refine own_go (B := T17.setTop (mkF m 68 #[.val (.ref a1), .val (.int p2), .val (.int p3)] [(.ref a1), (.ref a1)])) (fun t k => ?_) ?_
  · show Steps p.tables e below (T17.setTop (mkF m 66 #[.val (.ref a1), .val (.int p2), .val (.int p3)] [])) _
    refine XS.aloadN X17.here hx rfl (hb hby d5_66) rfl rfl ?_
    show Steps p.tables e below (T17.setTop (mkF m 67 #[.val (.ref a1), .val (.int p2), .val (.int p3)] [(.ref a1)])) _
    refine XS.dup X17.here hx rfl (hb hby d5_67) rfl rfl ?_
    exact k
  obtain ⟨T18, X18, e18, st18⟩ := getF X17 hx hZ hown (host := "") (Or.inl (hw _ (List.mem_of_getElem? (i := 22) rfl))) Via.refl e17 c17_F_a1_size (g := (mkF m 68 #[.val (.ref a1), .val (.int p2), .val (.int p3)] [(.ref a1), (.ref a1)])) rfl rfl (hb hby d5_68)
  refine own_go (B := T18.setTop (mkF m 71 #[.val (.ref a1), .val (.int p2), .val (.int p3)] [(.int (2 : Int32)), (.ref a1)])) (fun t k => st18 _ k) ?_
  refine own_go (B := T18.setTop (mkF m 73 #[.val (.ref a1), .val (.int p2), .val (.int p3)] [(.int (3 : Int32)), (.ref a1)])) (fun t k => ?_) ?_
  · show Steps p.tables e below (T18.setTop (mkF m 71 #[.val (.ref a1), .val (.int p2), .val (.int p3)] [(.int (2 : Int32)), (.ref a1)])) _
    refine XS.iconst X18.here hx rfl (hb hby d5_71) ?_
    show Steps p.tables e below (T18.setTop (mkF m 72 #[.val (.ref a1), .val (.int p2), .val (.int p3)] [(.int (1 : Int32)), (.int (2 : Int32)), (.ref a1)])) _
    refine XS.iadd X18.here hx rfl (hb hby d5_72) rfl ?_
    exact k
  obtain ⟨T19, h19, X19, e19, W19, st19⟩ := putF X18 hx hZ hown (host := "") (Or.inl (hw _ (List.mem_of_getElem? (i := 22) rfl))) Via.refl e18 c17_F_a1_size c17_E_a1 (Or.inl (hw _ (List.mem_of_getElem? (i := 23) rfl))) (hw _ (List.mem_of_getElem? (i := 2) rfl)) (ty := .int) (by decide) rfl rfl (g := (mkF m 73 #[.val (.ref a1), .val (.int p2), .val (.int p3)] [(.int (3 : Int32)), (.ref a1)])) rfl rfl (hb hby d5_73)
  have c19_E_a1 := c17_E_a1.wr W19
  have c19_F_a1_size := c17_F_a1_size.same W19
  have c19_F_a1_documents := c17_F_a1_documents.other W19 (Or.inr (slot_ne (Or.inl (hw _ (List.mem_of_getElem? (i := 14) rfl))) (Or.inl (hw _ (List.mem_of_getElem? (i := 23) rfl))) (by decide) (t := (.array .int)) (t' := .int) (by decide) (by decide)))
  have c19_F_a1_frequencies := c17_F_a1_frequencies.other W19 (Or.inr (slot_ne (Or.inl (hw _ (List.mem_of_getElem? (i := 16) rfl))) (Or.inl (hw _ (List.mem_of_getElem? (i := 23) rfl))) (by decide) (t := (.array .int)) (t' := .int) (by decide) (by decide)))
  have c19_F_a1_collectionFrequency := c17_F_a1_collectionFrequency.other W19 (Or.inr (slot_ne (Or.inl (hw _ (List.mem_of_getElem? (i := 34) rfl))) (Or.inl (hw _ (List.mem_of_getElem? (i := 23) rfl))) (by decide) (t := .long) (t' := .int) (by decide) (by decide)))
  have c19_V_d1 := c17_V_d1.other W19 (Ne.symm n_ad)
  have c19_V_f1 := c17_V_f1.other W19 (Ne.symm n_af)
  have c19_V_bq6 := c17_V_bq6.other W19 (Ne.symm ne_a1_bq6)
  have c19_V_bq10 := V17.other W19 (Ne.symm ne_a1_bq10)
  have K19 := K17.wr W19 (Or.inl (List.mem_of_getElem? (i := 0) rfl))
  have N19 := Fr.snoc X19 N17 g_a1
  refine own_go (B := T19.setTop (mkF m 76 #[.val (.ref a1), .val (.int p2), .val (.int p3)] [])) (fun t k => st19 _ k) ?_
  refine own_go (B := T19.setTop (mkF m 78 #[.val (.ref a1), .val (.int p2), .val (.int p3)] [(.ref a1), (.ref a1)])) (fun t k => ?_) ?_
  · show Steps p.tables e below (T19.setTop (mkF m 76 #[.val (.ref a1), .val (.int p2), .val (.int p3)] [])) _
    refine XS.aloadN X19.here hx rfl (hb hby d5_76) rfl rfl ?_
    show Steps p.tables e below (T19.setTop (mkF m 77 #[.val (.ref a1), .val (.int p2), .val (.int p3)] [(.ref a1)])) _
    refine XS.dup X19.here hx rfl (hb hby d5_77) rfl rfl ?_
    exact k
  obtain ⟨T20, X20, e20, st20⟩ := getF X19 hx hZ hown (host := "") (Or.inl (hw _ (List.mem_of_getElem? (i := 33) rfl))) Via.refl e19 c19_F_a1_collectionFrequency (g := (mkF m 78 #[.val (.ref a1), .val (.int p2), .val (.int p3)] [(.ref a1), (.ref a1)])) rfl rfl (hb hby d5_78)
  refine own_go (B := T20.setTop (mkF m 81 #[.val (.ref a1), .val (.int p2), .val (.int p3)] [(.long cf), (.ref a1)])) (fun t k => st20 _ k) ?_
  refine own_go (B := T20.setTop (mkF m 84 #[.val (.ref a1), .val (.int p2), .val (.int p3)] [(.long (cf + (p3.toInt64))), (.ref a1)])) (fun t k => ?_) ?_
  · show Steps p.tables e below (T20.setTop (mkF m 81 #[.val (.ref a1), .val (.int p2), .val (.int p3)] [(.long cf), (.ref a1)])) _
    refine XS.iloadN X20.here hx rfl (hb hby d5_81) rfl ?_
    show Steps p.tables e below (T20.setTop (mkF m 82 #[.val (.ref a1), .val (.int p2), .val (.int p3)] [(.int p3), (.long cf), (.ref a1)])) _
    refine XS.i2l X20.here hx rfl (hb hby d5_82) rfl ?_
    show Steps p.tables e below (T20.setTop (mkF m 83 #[.val (.ref a1), .val (.int p2), .val (.int p3)] [(.long (p3.toInt64)), (.long cf), (.ref a1)])) _
    refine XS.ladd X20.here hx rfl (hb hby d5_83) rfl ?_
    exact k
  obtain ⟨T21, h21, X21, e21, W21, st21⟩ := putF X20 hx hZ hown (host := "") (Or.inl (hw _ (List.mem_of_getElem? (i := 33) rfl))) Via.refl e20 c19_F_a1_collectionFrequency c19_E_a1 (Or.inl (hw _ (List.mem_of_getElem? (i := 34) rfl))) (hw _ (List.mem_of_getElem? (i := 2) rfl)) (ty := .long) (by decide) rfl rfl (g := (mkF m 84 #[.val (.ref a1), .val (.int p2), .val (.int p3)] [(.long (cf + (p3.toInt64))), (.ref a1)])) rfl rfl (hb hby d5_84)
  have c21_E_a1 := c19_E_a1.wr W21
  have c21_F_a1_size := c19_F_a1_size.other W21 (Or.inr (slot_ne (Or.inl (hw _ (List.mem_of_getElem? (i := 23) rfl))) (Or.inl (hw _ (List.mem_of_getElem? (i := 34) rfl))) (by decide) (t := .int) (t' := .long) (by decide) (by decide)))
  have c21_F_a1_documents := c19_F_a1_documents.other W21 (Or.inr (slot_ne (Or.inl (hw _ (List.mem_of_getElem? (i := 14) rfl))) (Or.inl (hw _ (List.mem_of_getElem? (i := 34) rfl))) (by decide) (t := (.array .int)) (t' := .long) (by decide) (by decide)))
  have c21_F_a1_frequencies := c19_F_a1_frequencies.other W21 (Or.inr (slot_ne (Or.inl (hw _ (List.mem_of_getElem? (i := 16) rfl))) (Or.inl (hw _ (List.mem_of_getElem? (i := 34) rfl))) (by decide) (t := (.array .int)) (t' := .long) (by decide) (by decide)))
  have c21_F_a1_collectionFrequency := c19_F_a1_collectionFrequency.same W21
  have c21_V_d1 := c19_V_d1.other W21 (Ne.symm n_ad)
  have c21_V_f1 := c19_V_f1.other W21 (Ne.symm n_af)
  have c21_V_bq6 := c19_V_bq6.other W21 (Ne.symm ne_a1_bq6)
  have c21_V_bq10 := c19_V_bq10.other W21 (Ne.symm ne_a1_bq10)
  have K21 := K19.wr W21 (Or.inl (List.mem_of_getElem? (i := 0) rfl))
  have N21 := Fr.snoc X21 N19 g_a1
  refine own_go (B := T21.setTop (mkF m 87 #[.val (.ref a1), .val (.int p2), .val (.int p3)] [])) (fun t k => st21 _ k) ?_
  obtain ⟨fs, hr, hrun, hended, hW, hsame⟩ := X21.leave (v := none) (fun _ => rfl)
  refine ⟨_, _, ?_, hrun, hended, _, _, rfl, ?_, ⟨_, rfl⟩, hW, hsame.mono (by decide) (by decide)⟩
  · show Steps p.tables e below (T21.setTop (mkF m 87 #[.val (.ref a1), .val (.int p2), .val (.int p3)] [])) _
    exact X21.returnOut hx Bd.returns (hb hby d5_87) hr
  · show Q5_2g Z a1 p2 p3 d1 f1 kd kf cf x0 x1 y0 y1 h0 n0 _ T21.heap _
    rw [e21]
    exact ⟨rfl, N21, bq6, bq10, kq6, kq10, K21, c21_E_a1, c21_F_a1_size, c21_F_a1_documents, c21_F_a1_frequencies, c21_F_a1_collectionFrequency, c21_V_bq6, c21_V_bq10, sz_bq6, sz_bq10, g_bq6, g_bq10, ne_bq6_bq10⟩
theorem pn_3 : plainName "com/example/libqlm/libqlm/Postings" = true := by first | (simp [plainName, overriddenIn]; done) | decide +kernel
theorem d3_0 : decode prog_92_method_11_code 0 = .ok (.iload_n 1, 1) := by decide +kernel
theorem d3_1 : decode prog_92_method_11_code 1 = .ok (.newarray .int, 2) := by decide +kernel
theorem d3_3 : decode prog_92_method_11_code 3 = .ok (.astore_n 2, 1) := by decide +kernel
theorem d3_4 : decode prog_92_method_11_code 4 = .ok (.iconst 0, 1) := by decide +kernel
theorem d3_5 : decode prog_92_method_11_code 5 = .ok (.istore_n 3, 1) := by decide +kernel
theorem d3_6 : decode prog_92_method_11_code 6 = .ok (.iload_n 3, 1) := by decide +kernel
theorem d3_7 : decode prog_92_method_11_code 7 = .ok (.aload_n 0, 1) := by decide +kernel
theorem d3_8 : decode prog_92_method_11_code 8 = .ok (.getfield 23, 3) := by decide +kernel
theorem d3_11 : decode prog_92_method_11_code 11 = .ok (.if_icmp .ge 23, 3) := by decide +kernel
theorem d3_34 : decode prog_92_method_11_code 34 = .ok (.aload_n 2, 1) := by decide +kernel
theorem d3_35 : decode prog_92_method_11_code 35 = .ok (.areturn, 1) := by decide +kernel
theorem ef_3 (m : MethodId) (x0 : Addr) (x1 : Int32) : entryFrame m #[(.ref x0), (.int x1)] 4 = mkF m 0 #[.val (.ref x0), .val (.int x1), .unset, .unset] [] := by first | (simp [entryFrame, mkF, argsToLocals, Value.category]; done) | rfl
def Q3_0 (Z : State) (a1 : Addr) (p2 : Int32) (d1 : Addr) (f1 : Addr) (kd : ClassId) (kf : ClassId) (N1 : Int32) (h0 : Heap) (n0 : Nat) (v : Option Value) (h : Heap) (L : List Loc) : Prop := ∃ (b : Addr) (kb : ClassId), v = some (.ref b) ∧ Fr n0 L ∧ Keep h0 h [] ∧ Arh Z h b kb .int p2 [] [] (.int (0 : Int32))
set_option maxRecDepth 65536 in
set_option maxHeartbeats 40000000 in
theorem rm3_0 (l : Launch) (Z : State) (a0 : Array Value) (hw : ∀ d ∈ tables_1, d.before a0 Z = true) (ws : List Jvm.Cond) (a1 : Addr) (p2 : Int32) (d1 : Addr) (f1 : Addr) (kd : ClassId) (kf : ClassId) (N1 : Int32) (h0 : Heap) (n0 : Nat) (Z0 : n0 ≤ h0.size) (F_s : Fld Z h0 a1 "com/example/libqlm/libqlm/Postings" "size" "I" (.int (0 : Int32))) (F_d : Fld Z h0 a1 "com/example/libqlm/libqlm/Postings" "documents" "[I" (.ref d1)) (F_f : Fld Z h0 a1 "com/example/libqlm/libqlm/Postings" "frequencies" "[I" (.ref f1)) (V_d : Arv Z h0 d1 kd .int N1 [] (.int (0 : Int32))) (V_f : Arv Z h0 f1 kf .int N1 [] (.int (0 : Int32))) (hdc : ¬ p2 < 0 ∧ p2.toNatClampNeg ≤ 8) :
    MetFree l (⟨"com/example/libqlm/libqlm/Postings", "frequenciesByDocument", "(I)[I"⟩ : MethodName) (head1 (Jvm.Cond.code (⟨"com/example/libqlm/libqlm/Postings", "frequenciesByDocument", "(I)[I"⟩ : MethodName) prog_92_method_11_code 4 (some (.array .int)) :: ws) ({ frames := 0, cells := 1, slots := 8, locals := 0 } : Room)) (fun a U => a = #[(.ref a1), (.int p2)] ∧ Z.Warmed39 U.vm ∧ U.heap = h0) (fun _ _ _ _ _ => True) (fun _ U o U' => ∃ v L, o = .returned v ∧ Q3_0 Z a1 p2 d1 f1 kd kf N1 h0 n0 v U'.heap L ∧ FrameEnd U o U' L ({ frames := 0, cells := 1, slots := 8, locals := 0 } : Room).cells ({ frames := 0, cells := 1, slots := 8, locals := 0 } : Room).slots) := by
  refine MetFree.of_bodySF (plainFor_of_name pn_3) hisR ?_
  intro p e s m args below meth c s₁ Bd hml0 hP hK
  obtain ⟨rfl, hZ, hh⟩ := hP
  have hx := Bd.exec
  have hby := Bd.bytes
  have hml : c.maxLocals = 4 := hml0
  have hown : s.vm.findClass "com/example/libqlm/libqlm/Postings" = some m.cls := findClass_of_methodNamed Bd.named
  have hnm := (name_of_methodNamed Bd.named Bd.method).1
  have X0 : Stand p l e ({ frames := 0, cells := 1, slots := 8, locals := 0 } : Room) s m #[(.ref a1), (.int p2)] below meth c s₁ [] 0 0 := Stand.of_body Bd
  have e0 : s₁.heap = h0 := by rw [← hh, Bd.state]; rfl
  have N0 := Fr.nil n0
  refine own_go (B := s₁.setTop (mkF m 0 #[.val (.ref a1), .val (.int p2), .unset, .unset] [])) (fun t k => castTop (ef_3 m a1 p2) k) ?_
  refine own_go (B := s₁.setTop (mkF m 1 #[.val (.ref a1), .val (.int p2), .unset, .unset] [(.int p2)])) (fun t k => ?_) ?_
  · show Steps p.tables e below (s₁.setTop (mkF m 0 #[.val (.ref a1), .val (.int p2), .unset, .unset] [])) _
    refine XS.iloadN X0.here hx rfl (hb hby d3_0) rfl ?_
    exact k
  obtain ⟨T1, h1, k1, X1, e1, E1, A1, st1⟩ := newP X0 hx hZ (hw _ (List.mem_of_getElem? (i := 12) rfl)) e0 (g := (mkF m 1 #[.val (.ref a1), .val (.int p2), .unset, .unset] [(.int p2)])) rfl (hb hby d3_1) rfl hdc.1 (cap := 8) hdc.2 (by decide) (by decide) (by decide)
  obtain ⟨b1, g1⟩ : ∃ z, z = h0.size := ⟨_, rfl⟩
  rw [← g1] at A1 st1
  have g_b1 : n0 ≤ b1 := Nat.le_trans Z0 (Nat.le_of_eq g1.symm)
  have sz_b1 : h0.size ≤ b1 := Nat.le_trans (Keep.refl h0 []).1 (Nat.le_of_eq g1.symm)
  have ne_a1_b1 : a1 ≠ b1 := Nat.ne_of_lt (Nat.lt_of_lt_of_le F_s.lt (Nat.le_of_eq g1.symm))
  have ne_d1_b1 : d1 ≠ b1 := Nat.ne_of_lt (Nat.lt_of_lt_of_le V_d.lt (Nat.le_of_eq g1.symm))
  have ne_f1_b1 : f1 ≠ b1 := Nat.ne_of_lt (Nat.lt_of_lt_of_le V_f.lt (Nat.le_of_eq g1.symm))
  have c1_F_a1_size := F_s.ext E1
  have c1_F_a1_documents := F_d.ext E1
  have c1_F_a1_frequencies := F_f.ext E1
  have c1_V_d1 := V_d.ext E1
  have c1_V_f1 := V_f.ext E1
  have K1 := (Keep.refl h0 []).ext E1
  have V1 : Arv Z h1 b1 k1 .int p2 [] (.int (0 : Int32)) := Arv.new A1 hdc.1
  refine own_go (B := T1.setTop (mkF m 3 #[.val (.ref a1), .val (.int p2), .unset, .unset] [(.ref b1)])) (fun t k => st1 _ k) ?_
  refine own_go (B := T1.setTop (mkF m 8 #[.val (.ref a1), .val (.int p2), .val (.ref b1), .val (.int (0 : Int32))] [(.ref a1), (.int (0 : Int32))])) (fun t k => ?_) ?_
  · show Steps p.tables e below (T1.setTop (mkF m 3 #[.val (.ref a1), .val (.int p2), .unset, .unset] [(.ref b1)])) _
    refine XS.astoreN X1.here hx rfl (hb hby d3_3) rfl rfl (l' := #[.val (.ref a1), .val (.int p2), .val (.ref b1), .unset]) rfl ?_
    show Steps p.tables e below (T1.setTop (mkF m 4 #[.val (.ref a1), .val (.int p2), .val (.ref b1), .unset] [])) _
    refine XS.iconst X1.here hx rfl (hb hby d3_4) ?_
    show Steps p.tables e below (T1.setTop (mkF m 5 #[.val (.ref a1), .val (.int p2), .val (.ref b1), .unset] [(.int (0 : Int32))])) _
    refine XS.istoreN X1.here hx rfl (hb hby d3_5) rfl (l' := #[.val (.ref a1), .val (.int p2), .val (.ref b1), .val (.int (0 : Int32))]) rfl ?_
    show Steps p.tables e below (T1.setTop (mkF m 6 #[.val (.ref a1), .val (.int p2), .val (.ref b1), .val (.int (0 : Int32))] [])) _
    refine XS.iloadN X1.here hx rfl (hb hby d3_6) rfl ?_
    show Steps p.tables e below (T1.setTop (mkF m 7 #[.val (.ref a1), .val (.int p2), .val (.ref b1), .val (.int (0 : Int32))] [(.int (0 : Int32))])) _
    refine XS.aloadN X1.here hx rfl (hb hby d3_7) rfl rfl ?_
    exact k
  obtain ⟨T2, X2, e2, st2⟩ := getF X1 hx hZ hown (host := "") (Or.inl (hw _ (List.mem_of_getElem? (i := 22) rfl))) Via.refl e1 c1_F_a1_size (g := (mkF m 8 #[.val (.ref a1), .val (.int p2), .val (.ref b1), .val (.int (0 : Int32))] [(.ref a1), (.int (0 : Int32))])) rfl rfl (hb hby d3_8)
  refine own_go (B := T2.setTop (mkF m 11 #[.val (.ref a1), .val (.int p2), .val (.ref b1), .val (.int (0 : Int32))] [(.int (0 : Int32)), (.int (0 : Int32))])) (fun t k => st2 _ k) ?_
  obtain ⟨fs, hr, hrun, hended, hW, hsame⟩ := X2.leave (v := some (.ref b1)) (fun h => by rw [Bd.returns] at h; cases h)
  refine ⟨_, _, ?_, hrun, hended, _, _, rfl, ?_, ⟨_, rfl⟩, hW, hsame.mono (by decide) (by decide)⟩
  · show Steps p.tables e below (T2.setTop (mkF m 11 #[.val (.ref a1), .val (.int p2), .val (.ref b1), .val (.int (0 : Int32))] [(.int (0 : Int32)), (.int (0 : Int32))])) _
    refine XS.icmpYes X2.here hx rfl (pc0 := 11) (pc' := 34) rfl (hb hby d3_11) rfl (flt (by decide)).2.1 (by decide) (by decide) ?_
    show Steps p.tables e below (T2.setTop (mkF m 34 #[.val (.ref a1), .val (.int p2), .val (.ref b1), .val (.int (0 : Int32))] [])) _
    refine XS.aloadN X2.here hx rfl (hb hby d3_34) rfl rfl ?_
    show Steps p.tables e below (T2.setTop (mkF m 35 #[.val (.ref a1), .val (.int p2), .val (.ref b1), .val (.int (0 : Int32))] [(.ref b1)])) _
    jvm_step X2.here [X2.here.top, hx, (hb hby d3_35), X2.method', Bd.returns, Value.isRef, FieldType.isReference]
    first | (intro acts; rw [hr _ acts rfl rfl rfl]) | rw [hr _ _ rfl rfl rfl]
    exact Steps.refl _
  · show Q3_0 Z a1 p2 d1 f1 kd kf N1 h0 n0 _ T2.heap _
    rw [e2]
    exact ⟨b1, k1, rfl, N0, K1, V1.arh⟩
theorem d3_14 : decode prog_92_method_11_code 14 = .ok (.aload_n 2, 1) := by decide +kernel
theorem d3_15 : decode prog_92_method_11_code 15 = .ok (.aload_n 0, 1) := by decide +kernel
theorem d3_16 : decode prog_92_method_11_code 16 = .ok (.getfield 16, 3) := by decide +kernel
theorem d3_19 : decode prog_92_method_11_code 19 = .ok (.iload_n 3, 1) := by decide +kernel
theorem d3_20 : decode prog_92_method_11_code 20 = .ok (.iaload, 1) := by decide +kernel
theorem d3_21 : decode prog_92_method_11_code 21 = .ok (.aload_n 0, 1) := by decide +kernel
theorem d3_22 : decode prog_92_method_11_code 22 = .ok (.getfield 20, 3) := by decide +kernel
theorem d3_25 : decode prog_92_method_11_code 25 = .ok (.iload_n 3, 1) := by decide +kernel
theorem d3_26 : decode prog_92_method_11_code 26 = .ok (.iaload, 1) := by decide +kernel
theorem d3_27 : decode prog_92_method_11_code 27 = .ok (.iastore, 1) := by decide +kernel
theorem d3_28 : decode prog_92_method_11_code 28 = .ok (.iinc 3 1, 3) := by decide +kernel
theorem d3_31 : decode prog_92_method_11_code 31 = .ok (.goto (-25), 3) := by decide +kernel
def Q3_1 (Z : State) (a1 : Addr) (p2 : Int32) (d1 : Addr) (f1 : Addr) (kd : ClassId) (kf : ClassId) (N1 : Int32) (x0 : Int32) (y0 : Int32) (h0 : Heap) (n0 : Nat) (v : Option Value) (h : Heap) (L : List Loc) : Prop := ∃ (b : Addr) (kb : ClassId), v = some (.ref b) ∧ Fr n0 L ∧ Keep h0 h [] ∧ Arh Z h b kb .int p2 [(x0, .int y0)] [] (.int (0 : Int32))
set_option maxRecDepth 65536 in
set_option maxHeartbeats 40000000 in
theorem rm3_1 (l : Launch) (Z : State) (a0 : Array Value) (hw : ∀ d ∈ tables_1, d.before a0 Z = true) (ws : List Jvm.Cond) (a1 : Addr) (p2 : Int32) (d1 : Addr) (f1 : Addr) (kd : ClassId) (kf : ClassId) (N1 : Int32) (x0 : Int32) (y0 : Int32) (h0 : Heap) (n0 : Nat) (Z0 : n0 ≤ h0.size) (F_s : Fld Z h0 a1 "com/example/libqlm/libqlm/Postings" "size" "I" (.int (1 : Int32))) (F_d : Fld Z h0 a1 "com/example/libqlm/libqlm/Postings" "documents" "[I" (.ref d1)) (F_f : Fld Z h0 a1 "com/example/libqlm/libqlm/Postings" "frequencies" "[I" (.ref f1)) (V_d : Arv Z h0 d1 kd .int N1 [(.int x0)] (.int (0 : Int32))) (V_f : Arv Z h0 f1 kf .int N1 [(.int y0)] (.int (0 : Int32))) (hdc : ¬ p2 < 0 ∧ p2.toNatClampNeg ≤ 8) (hb0 : (0 : Int32) < N1) (hx0 : ¬ x0 < 0 ∧ x0 < p2) :
    MetFree l (⟨"com/example/libqlm/libqlm/Postings", "frequenciesByDocument", "(I)[I"⟩ : MethodName) (head1 (Jvm.Cond.code (⟨"com/example/libqlm/libqlm/Postings", "frequenciesByDocument", "(I)[I"⟩ : MethodName) prog_92_method_11_code 4 (some (.array .int)) :: ws) ({ frames := 0, cells := 1, slots := 8, locals := 0 } : Room)) (fun a U => a = #[(.ref a1), (.int p2)] ∧ Z.Warmed39 U.vm ∧ U.heap = h0) (fun _ _ _ _ _ => True) (fun _ U o U' => ∃ v L, o = .returned v ∧ Q3_1 Z a1 p2 d1 f1 kd kf N1 x0 y0 h0 n0 v U'.heap L ∧ FrameEnd U o U' L ({ frames := 0, cells := 1, slots := 8, locals := 0 } : Room).cells ({ frames := 0, cells := 1, slots := 8, locals := 0 } : Room).slots) := by
  refine MetFree.of_bodySF (plainFor_of_name pn_3) hisR ?_
  intro p e s m args below meth c s₁ Bd hml0 hP hK
  obtain ⟨rfl, hZ, hh⟩ := hP
  have hx := Bd.exec
  have hby := Bd.bytes
  have hml : c.maxLocals = 4 := hml0
  have hown : s.vm.findClass "com/example/libqlm/libqlm/Postings" = some m.cls := findClass_of_methodNamed Bd.named
  have hnm := (name_of_methodNamed Bd.named Bd.method).1
  have X0 : Stand p l e ({ frames := 0, cells := 1, slots := 8, locals := 0 } : Room) s m #[(.ref a1), (.int p2)] below meth c s₁ [] 0 0 := Stand.of_body Bd
  have e0 : s₁.heap = h0 := by rw [← hh, Bd.state]; rfl
  have N0 := Fr.nil n0
  refine own_go (B := s₁.setTop (mkF m 0 #[.val (.ref a1), .val (.int p2), .unset, .unset] [])) (fun t k => castTop (ef_3 m a1 p2) k) ?_
  refine own_go (B := s₁.setTop (mkF m 1 #[.val (.ref a1), .val (.int p2), .unset, .unset] [(.int p2)])) (fun t k => ?_) ?_
  · show Steps p.tables e below (s₁.setTop (mkF m 0 #[.val (.ref a1), .val (.int p2), .unset, .unset] [])) _
    refine XS.iloadN X0.here hx rfl (hb hby d3_0) rfl ?_
    exact k
  obtain ⟨T1, h1, k1, X1, e1, E1, A1, st1⟩ := newP X0 hx hZ (hw _ (List.mem_of_getElem? (i := 12) rfl)) e0 (g := (mkF m 1 #[.val (.ref a1), .val (.int p2), .unset, .unset] [(.int p2)])) rfl (hb hby d3_1) rfl hdc.1 (cap := 8) hdc.2 (by decide) (by decide) (by decide)
  obtain ⟨b1, g1⟩ : ∃ z, z = h0.size := ⟨_, rfl⟩
  rw [← g1] at A1 st1
  have g_b1 : n0 ≤ b1 := Nat.le_trans Z0 (Nat.le_of_eq g1.symm)
  have sz_b1 : h0.size ≤ b1 := Nat.le_trans (Keep.refl h0 []).1 (Nat.le_of_eq g1.symm)
  have ne_a1_b1 : a1 ≠ b1 := Nat.ne_of_lt (Nat.lt_of_lt_of_le F_s.lt (Nat.le_of_eq g1.symm))
  have ne_d1_b1 : d1 ≠ b1 := Nat.ne_of_lt (Nat.lt_of_lt_of_le V_d.lt (Nat.le_of_eq g1.symm))
  have ne_f1_b1 : f1 ≠ b1 := Nat.ne_of_lt (Nat.lt_of_lt_of_le V_f.lt (Nat.le_of_eq g1.symm))
  have c1_F_a1_size := F_s.ext E1
  have c1_F_a1_documents := F_d.ext E1
  have c1_F_a1_frequencies := F_f.ext E1
  have c1_V_d1 := V_d.ext E1
  have c1_V_f1 := V_f.ext E1
  have K1 := (Keep.refl h0 []).ext E1
  have V1 : Arv Z h1 b1 k1 .int p2 [] (.int (0 : Int32)) := Arv.new A1 hdc.1
  refine own_go (B := T1.setTop (mkF m 3 #[.val (.ref a1), .val (.int p2), .unset, .unset] [(.ref b1)])) (fun t k => st1 _ k) ?_
  refine own_go (B := T1.setTop (mkF m 8 #[.val (.ref a1), .val (.int p2), .val (.ref b1), .val (.int (0 : Int32))] [(.ref a1), (.int (0 : Int32))])) (fun t k => ?_) ?_
  · show Steps p.tables e below (T1.setTop (mkF m 3 #[.val (.ref a1), .val (.int p2), .unset, .unset] [(.ref b1)])) _
    refine XS.astoreN X1.here hx rfl (hb hby d3_3) rfl rfl (l' := #[.val (.ref a1), .val (.int p2), .val (.ref b1), .unset]) rfl ?_
    show Steps p.tables e below (T1.setTop (mkF m 4 #[.val (.ref a1), .val (.int p2), .val (.ref b1), .unset] [])) _
    refine XS.iconst X1.here hx rfl (hb hby d3_4) ?_
    show Steps p.tables e below (T1.setTop (mkF m 5 #[.val (.ref a1), .val (.int p2), .val (.ref b1), .unset] [(.int (0 : Int32))])) _
    refine XS.istoreN X1.here hx rfl (hb hby d3_5) rfl (l' := #[.val (.ref a1), .val (.int p2), .val (.ref b1), .val (.int (0 : Int32))]) rfl ?_
    show Steps p.tables e below (T1.setTop (mkF m 6 #[.val (.ref a1), .val (.int p2), .val (.ref b1), .val (.int (0 : Int32))] [])) _
    refine XS.iloadN X1.here hx rfl (hb hby d3_6) rfl ?_
    show Steps p.tables e below (T1.setTop (mkF m 7 #[.val (.ref a1), .val (.int p2), .val (.ref b1), .val (.int (0 : Int32))] [(.int (0 : Int32))])) _
    refine XS.aloadN X1.here hx rfl (hb hby d3_7) rfl rfl ?_
    exact k
  obtain ⟨T2, X2, e2, st2⟩ := getF X1 hx hZ hown (host := "") (Or.inl (hw _ (List.mem_of_getElem? (i := 22) rfl))) Via.refl e1 c1_F_a1_size (g := (mkF m 8 #[.val (.ref a1), .val (.int p2), .val (.ref b1), .val (.int (0 : Int32))] [(.ref a1), (.int (0 : Int32))])) rfl rfl (hb hby d3_8)
  refine own_go (B := T2.setTop (mkF m 11 #[.val (.ref a1), .val (.int p2), .val (.ref b1), .val (.int (0 : Int32))] [(.int (1 : Int32)), (.int (0 : Int32))])) (fun t k => st2 _ k) ?_
  refine own_go (B := T2.setTop (mkF m 16 #[.val (.ref a1), .val (.int p2), .val (.ref b1), .val (.int (0 : Int32))] [(.ref a1), (.ref b1)])) (fun t k => ?_) ?_
  · show Steps p.tables e below (T2.setTop (mkF m 11 #[.val (.ref a1), .val (.int p2), .val (.ref b1), .val (.int (0 : Int32))] [(.int (1 : Int32)), (.int (0 : Int32))])) _
    refine XS.icmpNo X2.here hx rfl (hb hby d3_11) rfl (tlt (by decide)).2.1 ?_
    show Steps p.tables e below (T2.setTop (mkF m 14 #[.val (.ref a1), .val (.int p2), .val (.ref b1), .val (.int (0 : Int32))] [])) _
    refine XS.aloadN X2.here hx rfl (hb hby d3_14) rfl rfl ?_
    show Steps p.tables e below (T2.setTop (mkF m 15 #[.val (.ref a1), .val (.int p2), .val (.ref b1), .val (.int (0 : Int32))] [(.ref b1)])) _
    refine XS.aloadN X2.here hx rfl (hb hby d3_15) rfl rfl ?_
    exact k
  obtain ⟨T3, X3, e3, st3⟩ := getF X2 hx hZ hown (host := "") (Or.inl (hw _ (List.mem_of_getElem? (i := 13) rfl))) Via.refl e2 c1_F_a1_documents (g := (mkF m 16 #[.val (.ref a1), .val (.int p2), .val (.ref b1), .val (.int (0 : Int32))] [(.ref a1), (.ref b1)])) rfl rfl (hb hby d3_16)
  refine own_go (B := T3.setTop (mkF m 19 #[.val (.ref a1), .val (.int p2), .val (.ref b1), .val (.int (0 : Int32))] [(.ref d1), (.ref b1)])) (fun t k => st3 _ k) ?_
  obtain ⟨cl4, Ar4, qk4, S4, M4, H4, G4⟩ := id c1_V_d1
  refine own_go (B := T3.setTop (mkF m 22 #[.val (.ref a1), .val (.int p2), .val (.ref b1), .val (.int (0 : Int32))] [(.ref a1), (.int x0), (.ref b1)])) (fun t k => ?_) ?_
  · show Steps p.tables e below (T3.setTop (mkF m 19 #[.val (.ref a1), .val (.int p2), .val (.ref b1), .val (.int (0 : Int32))] [(.ref d1), (.ref b1)])) _
    refine XS.iloadN X3.here hx rfl (hb hby d3_19) rfl ?_
    show Steps p.tables e below (T3.setTop (mkF m 20 #[.val (.ref a1), .val (.int p2), .val (.ref b1), .val (.int (0 : Int32))] [(.int (0 : Int32)), (.ref d1), (.ref b1)])) _
    refine X3.iaload hx (j := (0 : Int32)) (v := (.int x0)) (by rw [e3]; exact Ar4.1) (State.isArrayOf_alike hZ.alike Ar4.2.1) Ar4.2.2 (inb_of S4 ⟨by decide, hb0⟩) (Has.at H4 (inb_of S4 ⟨by decide, hb0⟩) rfl) (g := (mkF m 20 #[.val (.ref a1), .val (.int p2), .val (.ref b1), .val (.int (0 : Int32))] [(.int (0 : Int32)), (.ref d1), (.ref b1)])) rfl rfl (hb hby d3_20) _ ?_
    show Steps p.tables e below (T3.setTop (mkF m 21 #[.val (.ref a1), .val (.int p2), .val (.ref b1), .val (.int (0 : Int32))] [(.int x0), (.ref b1)])) _
    refine XS.aloadN X3.here hx rfl (hb hby d3_21) rfl rfl ?_
    exact k
  obtain ⟨T5, X5, e5, st5⟩ := getF X3 hx hZ hown (host := "") (Or.inl (hw _ (List.mem_of_getElem? (i := 15) rfl))) Via.refl e3 c1_F_a1_frequencies (g := (mkF m 22 #[.val (.ref a1), .val (.int p2), .val (.ref b1), .val (.int (0 : Int32))] [(.ref a1), (.int x0), (.ref b1)])) rfl rfl (hb hby d3_22)
  refine own_go (B := T5.setTop (mkF m 25 #[.val (.ref a1), .val (.int p2), .val (.ref b1), .val (.int (0 : Int32))] [(.ref f1), (.int x0), (.ref b1)])) (fun t k => st5 _ k) ?_
  obtain ⟨cl6, Ar6, qk6, S6, M6, H6, G6⟩ := id c1_V_f1
  refine own_go (B := T5.setTop (mkF m 27 #[.val (.ref a1), .val (.int p2), .val (.ref b1), .val (.int (0 : Int32))] [(.int y0), (.int x0), (.ref b1)])) (fun t k => ?_) ?_
  · show Steps p.tables e below (T5.setTop (mkF m 25 #[.val (.ref a1), .val (.int p2), .val (.ref b1), .val (.int (0 : Int32))] [(.ref f1), (.int x0), (.ref b1)])) _
    refine XS.iloadN X5.here hx rfl (hb hby d3_25) rfl ?_
    show Steps p.tables e below (T5.setTop (mkF m 26 #[.val (.ref a1), .val (.int p2), .val (.ref b1), .val (.int (0 : Int32))] [(.int (0 : Int32)), (.ref f1), (.int x0), (.ref b1)])) _
    refine X5.iaload hx (j := (0 : Int32)) (v := (.int y0)) (by rw [e5]; exact Ar6.1) (State.isArrayOf_alike hZ.alike Ar6.2.1) Ar6.2.2 (inb_of S6 ⟨by decide, hb0⟩) (Has.at H6 (inb_of S6 ⟨by decide, hb0⟩) rfl) (g := (mkF m 26 #[.val (.ref a1), .val (.int p2), .val (.ref b1), .val (.int (0 : Int32))] [(.int (0 : Int32)), (.ref f1), (.int x0), (.ref b1)])) rfl rfl (hb hby d3_26) _ ?_
    exact k
  have Vh7 : Arh Z h1 b1 k1 .int p2 [] [] (.int (0 : Int32)) := V1.arh
  obtain ⟨cl7, Ar7, qk7, S7, M7, H7, G7⟩ := id Vh7
  obtain ⟨T7, h7, X7, e7, W7, st7⟩ := stI X5 hx hZ e5 Ar7 (j := x0) (inb_of S7 hx0) (g := (mkF m 27 #[.val (.ref a1), .val (.int p2), .val (.ref b1), .val (.int (0 : Int32))] [(.int y0), (.int x0), (.ref b1)])) rfl rfl (hb hby d3_27)
  have V7 : Arh Z h7 b1 k1 .int p2 [(x0, .int y0)] [] (.int (0 : Int32)) := Arh.push Ar7 qk7 S7 M7 H7 G7 rfl W7 (inb_of S7 hx0)
  have c7_F_a1_size := c1_F_a1_size.other W7 (Or.inl ne_a1_b1)
  have c7_F_a1_documents := c1_F_a1_documents.other W7 (Or.inl ne_a1_b1)
  have c7_F_a1_frequencies := c1_F_a1_frequencies.other W7 (Or.inl ne_a1_b1)
  have c7_V_d1 := c1_V_d1.other W7 ne_d1_b1
  have c7_V_f1 := c1_V_f1.other W7 ne_f1_b1
  have K7 := K1.wr W7 (Or.inr sz_b1)
  have N7 := Fr.snoc X7 N0 g_b1
  refine own_go (B := T7.setTop (mkF m 28 #[.val (.ref a1), .val (.int p2), .val (.ref b1), .val (.int (0 : Int32))] [])) (fun t k => st7 _ k) ?_
  refine own_go (B := T7.setTop (mkF m 8 #[.val (.ref a1), .val (.int p2), .val (.ref b1), .val (.int (1 : Int32))] [(.ref a1), (.int (1 : Int32))])) (fun t k => ?_) ?_
  · show Steps p.tables e below (T7.setTop (mkF m 28 #[.val (.ref a1), .val (.int p2), .val (.ref b1), .val (.int (0 : Int32))] [])) _
    refine XS.iinc X7.here hx rfl (hb hby d3_28) rfl (l' := #[.val (.ref a1), .val (.int p2), .val (.ref b1), .val (.int (1 : Int32))]) rfl ?_
    show Steps p.tables e below (T7.setTop (mkF m 31 #[.val (.ref a1), .val (.int p2), .val (.ref b1), .val (.int (1 : Int32))] [])) _
    refine XS.goto X7.here hx rfl (pc0 := 31) (pc' := 6) rfl (hb hby d3_31) (by decide) (by decide) ?_
    show Steps p.tables e below (T7.setTop (mkF m 6 #[.val (.ref a1), .val (.int p2), .val (.ref b1), .val (.int (1 : Int32))] [])) _
    refine XS.iloadN X7.here hx rfl (hb hby d3_6) rfl ?_
    show Steps p.tables e below (T7.setTop (mkF m 7 #[.val (.ref a1), .val (.int p2), .val (.ref b1), .val (.int (1 : Int32))] [(.int (1 : Int32))])) _
    refine XS.aloadN X7.here hx rfl (hb hby d3_7) rfl rfl ?_
    exact k
  obtain ⟨T8, X8, e8, st8⟩ := getF X7 hx hZ hown (host := "") (Or.inl (hw _ (List.mem_of_getElem? (i := 22) rfl))) Via.refl e7 c7_F_a1_size (g := (mkF m 8 #[.val (.ref a1), .val (.int p2), .val (.ref b1), .val (.int (1 : Int32))] [(.ref a1), (.int (1 : Int32))])) rfl rfl (hb hby d3_8)
  refine own_go (B := T8.setTop (mkF m 11 #[.val (.ref a1), .val (.int p2), .val (.ref b1), .val (.int (1 : Int32))] [(.int (1 : Int32)), (.int (1 : Int32))])) (fun t k => st8 _ k) ?_
  obtain ⟨fs, hr, hrun, hended, hW, hsame⟩ := X8.leave (v := some (.ref b1)) (fun h => by rw [Bd.returns] at h; cases h)
  refine ⟨_, _, ?_, hrun, hended, _, _, rfl, ?_, ⟨_, rfl⟩, hW, hsame.mono (by decide) (by decide)⟩
  · show Steps p.tables e below (T8.setTop (mkF m 11 #[.val (.ref a1), .val (.int p2), .val (.ref b1), .val (.int (1 : Int32))] [(.int (1 : Int32)), (.int (1 : Int32))])) _
    refine XS.icmpYes X8.here hx rfl (pc0 := 11) (pc' := 34) rfl (hb hby d3_11) rfl (flt (by decide)).2.1 (by decide) (by decide) ?_
    show Steps p.tables e below (T8.setTop (mkF m 34 #[.val (.ref a1), .val (.int p2), .val (.ref b1), .val (.int (1 : Int32))] [])) _
    refine XS.aloadN X8.here hx rfl (hb hby d3_34) rfl rfl ?_
    show Steps p.tables e below (T8.setTop (mkF m 35 #[.val (.ref a1), .val (.int p2), .val (.ref b1), .val (.int (1 : Int32))] [(.ref b1)])) _
    jvm_step X8.here [X8.here.top, hx, (hb hby d3_35), X8.method', Bd.returns, Value.isRef, FieldType.isReference]
    first | (intro acts; rw [hr _ acts rfl rfl rfl]) | rw [hr _ _ rfl rfl rfl]
    exact Steps.refl _
  · show Q3_1 Z a1 p2 d1 f1 kd kf N1 x0 y0 h0 n0 _ T8.heap _
    rw [e8]
    exact ⟨b1, k1, rfl, N7, K7, V7⟩
def Q3_2 (Z : State) (a1 : Addr) (p2 : Int32) (d1 : Addr) (f1 : Addr) (kd : ClassId) (kf : ClassId) (N1 : Int32) (x0 : Int32) (x1 : Int32) (y0 : Int32) (y1 : Int32) (h0 : Heap) (n0 : Nat) (v : Option Value) (h : Heap) (L : List Loc) : Prop := ∃ (b : Addr) (kb : ClassId), v = some (.ref b) ∧ Fr n0 L ∧ Keep h0 h [] ∧ Arh Z h b kb .int p2 [(x1, .int y1), (x0, .int y0)] [] (.int (0 : Int32))
set_option maxRecDepth 65536 in
set_option maxHeartbeats 40000000 in
theorem rm3_2 (l : Launch) (Z : State) (a0 : Array Value) (hw : ∀ d ∈ tables_1, d.before a0 Z = true) (ws : List Jvm.Cond) (a1 : Addr) (p2 : Int32) (d1 : Addr) (f1 : Addr) (kd : ClassId) (kf : ClassId) (N1 : Int32) (x0 : Int32) (x1 : Int32) (y0 : Int32) (y1 : Int32) (h0 : Heap) (n0 : Nat) (Z0 : n0 ≤ h0.size) (F_s : Fld Z h0 a1 "com/example/libqlm/libqlm/Postings" "size" "I" (.int (2 : Int32))) (F_d : Fld Z h0 a1 "com/example/libqlm/libqlm/Postings" "documents" "[I" (.ref d1)) (F_f : Fld Z h0 a1 "com/example/libqlm/libqlm/Postings" "frequencies" "[I" (.ref f1)) (V_d : Arv Z h0 d1 kd .int N1 [(.int x0), (.int x1)] (.int (0 : Int32))) (V_f : Arv Z h0 f1 kf .int N1 [(.int y0), (.int y1)] (.int (0 : Int32))) (hdc : ¬ p2 < 0 ∧ p2.toNatClampNeg ≤ 8) (hb0 : (0 : Int32) < N1) (hb1 : (1 : Int32) < N1) (hx0 : ¬ x0 < 0 ∧ x0 < p2) (hx1 : ¬ x1 < 0 ∧ x1 < p2) :
    MetFree l (⟨"com/example/libqlm/libqlm/Postings", "frequenciesByDocument", "(I)[I"⟩ : MethodName) (head1 (Jvm.Cond.code (⟨"com/example/libqlm/libqlm/Postings", "frequenciesByDocument", "(I)[I"⟩ : MethodName) prog_92_method_11_code 4 (some (.array .int)) :: ws) ({ frames := 0, cells := 1, slots := 8, locals := 0 } : Room)) (fun a U => a = #[(.ref a1), (.int p2)] ∧ Z.Warmed39 U.vm ∧ U.heap = h0) (fun _ _ _ _ _ => True) (fun _ U o U' => ∃ v L, o = .returned v ∧ Q3_2 Z a1 p2 d1 f1 kd kf N1 x0 x1 y0 y1 h0 n0 v U'.heap L ∧ FrameEnd U o U' L ({ frames := 0, cells := 1, slots := 8, locals := 0 } : Room).cells ({ frames := 0, cells := 1, slots := 8, locals := 0 } : Room).slots) := by
  refine MetFree.of_bodySF (plainFor_of_name pn_3) hisR ?_
  intro p e s m args below meth c s₁ Bd hml0 hP hK
  obtain ⟨rfl, hZ, hh⟩ := hP
  have hx := Bd.exec
  have hby := Bd.bytes
  have hml : c.maxLocals = 4 := hml0
  have hown : s.vm.findClass "com/example/libqlm/libqlm/Postings" = some m.cls := findClass_of_methodNamed Bd.named
  have hnm := (name_of_methodNamed Bd.named Bd.method).1
  have X0 : Stand p l e ({ frames := 0, cells := 1, slots := 8, locals := 0 } : Room) s m #[(.ref a1), (.int p2)] below meth c s₁ [] 0 0 := Stand.of_body Bd
  have e0 : s₁.heap = h0 := by rw [← hh, Bd.state]; rfl
  have N0 := Fr.nil n0
  refine own_go (B := s₁.setTop (mkF m 0 #[.val (.ref a1), .val (.int p2), .unset, .unset] [])) (fun t k => castTop (ef_3 m a1 p2) k) ?_
  refine own_go (B := s₁.setTop (mkF m 1 #[.val (.ref a1), .val (.int p2), .unset, .unset] [(.int p2)])) (fun t k => ?_) ?_
  · show Steps p.tables e below (s₁.setTop (mkF m 0 #[.val (.ref a1), .val (.int p2), .unset, .unset] [])) _
    refine XS.iloadN X0.here hx rfl (hb hby d3_0) rfl ?_
    exact k
  obtain ⟨T1, h1, k1, X1, e1, E1, A1, st1⟩ := newP X0 hx hZ (hw _ (List.mem_of_getElem? (i := 12) rfl)) e0 (g := (mkF m 1 #[.val (.ref a1), .val (.int p2), .unset, .unset] [(.int p2)])) rfl (hb hby d3_1) rfl hdc.1 (cap := 8) hdc.2 (by decide) (by decide) (by decide)
  obtain ⟨b1, g1⟩ : ∃ z, z = h0.size := ⟨_, rfl⟩
  rw [← g1] at A1 st1
  have g_b1 : n0 ≤ b1 := Nat.le_trans Z0 (Nat.le_of_eq g1.symm)
  have sz_b1 : h0.size ≤ b1 := Nat.le_trans (Keep.refl h0 []).1 (Nat.le_of_eq g1.symm)
  have ne_a1_b1 : a1 ≠ b1 := Nat.ne_of_lt (Nat.lt_of_lt_of_le F_s.lt (Nat.le_of_eq g1.symm))
  have ne_d1_b1 : d1 ≠ b1 := Nat.ne_of_lt (Nat.lt_of_lt_of_le V_d.lt (Nat.le_of_eq g1.symm))
  have ne_f1_b1 : f1 ≠ b1 := Nat.ne_of_lt (Nat.lt_of_lt_of_le V_f.lt (Nat.le_of_eq g1.symm))
  have c1_F_a1_size := F_s.ext E1
  have c1_F_a1_documents := F_d.ext E1
  have c1_F_a1_frequencies := F_f.ext E1
  have c1_V_d1 := V_d.ext E1
  have c1_V_f1 := V_f.ext E1
  have K1 := (Keep.refl h0 []).ext E1
  have V1 : Arv Z h1 b1 k1 .int p2 [] (.int (0 : Int32)) := Arv.new A1 hdc.1
  refine own_go (B := T1.setTop (mkF m 3 #[.val (.ref a1), .val (.int p2), .unset, .unset] [(.ref b1)])) (fun t k => st1 _ k) ?_
  refine own_go (B := T1.setTop (mkF m 8 #[.val (.ref a1), .val (.int p2), .val (.ref b1), .val (.int (0 : Int32))] [(.ref a1), (.int (0 : Int32))])) (fun t k => ?_) ?_
  · show Steps p.tables e below (T1.setTop (mkF m 3 #[.val (.ref a1), .val (.int p2), .unset, .unset] [(.ref b1)])) _
    refine XS.astoreN X1.here hx rfl (hb hby d3_3) rfl rfl (l' := #[.val (.ref a1), .val (.int p2), .val (.ref b1), .unset]) rfl ?_
    show Steps p.tables e below (T1.setTop (mkF m 4 #[.val (.ref a1), .val (.int p2), .val (.ref b1), .unset] [])) _
    refine XS.iconst X1.here hx rfl (hb hby d3_4) ?_
    show Steps p.tables e below (T1.setTop (mkF m 5 #[.val (.ref a1), .val (.int p2), .val (.ref b1), .unset] [(.int (0 : Int32))])) _
    refine XS.istoreN X1.here hx rfl (hb hby d3_5) rfl (l' := #[.val (.ref a1), .val (.int p2), .val (.ref b1), .val (.int (0 : Int32))]) rfl ?_
    show Steps p.tables e below (T1.setTop (mkF m 6 #[.val (.ref a1), .val (.int p2), .val (.ref b1), .val (.int (0 : Int32))] [])) _
    refine XS.iloadN X1.here hx rfl (hb hby d3_6) rfl ?_
    show Steps p.tables e below (T1.setTop (mkF m 7 #[.val (.ref a1), .val (.int p2), .val (.ref b1), .val (.int (0 : Int32))] [(.int (0 : Int32))])) _
    refine XS.aloadN X1.here hx rfl (hb hby d3_7) rfl rfl ?_
    exact k
  obtain ⟨T2, X2, e2, st2⟩ := getF X1 hx hZ hown (host := "") (Or.inl (hw _ (List.mem_of_getElem? (i := 22) rfl))) Via.refl e1 c1_F_a1_size (g := (mkF m 8 #[.val (.ref a1), .val (.int p2), .val (.ref b1), .val (.int (0 : Int32))] [(.ref a1), (.int (0 : Int32))])) rfl rfl (hb hby d3_8)
  refine own_go (B := T2.setTop (mkF m 11 #[.val (.ref a1), .val (.int p2), .val (.ref b1), .val (.int (0 : Int32))] [(.int (2 : Int32)), (.int (0 : Int32))])) (fun t k => st2 _ k) ?_
  refine own_go (B := T2.setTop (mkF m 16 #[.val (.ref a1), .val (.int p2), .val (.ref b1), .val (.int (0 : Int32))] [(.ref a1), (.ref b1)])) (fun t k => ?_) ?_
  · show Steps p.tables e below (T2.setTop (mkF m 11 #[.val (.ref a1), .val (.int p2), .val (.ref b1), .val (.int (0 : Int32))] [(.int (2 : Int32)), (.int (0 : Int32))])) _
    refine XS.icmpNo X2.here hx rfl (hb hby d3_11) rfl (tlt (by decide)).2.1 ?_
    show Steps p.tables e below (T2.setTop (mkF m 14 #[.val (.ref a1), .val (.int p2), .val (.ref b1), .val (.int (0 : Int32))] [])) _
    refine XS.aloadN X2.here hx rfl (hb hby d3_14) rfl rfl ?_
    show Steps p.tables e below (T2.setTop (mkF m 15 #[.val (.ref a1), .val (.int p2), .val (.ref b1), .val (.int (0 : Int32))] [(.ref b1)])) _
    refine XS.aloadN X2.here hx rfl (hb hby d3_15) rfl rfl ?_
    exact k
  obtain ⟨T3, X3, e3, st3⟩ := getF X2 hx hZ hown (host := "") (Or.inl (hw _ (List.mem_of_getElem? (i := 13) rfl))) Via.refl e2 c1_F_a1_documents (g := (mkF m 16 #[.val (.ref a1), .val (.int p2), .val (.ref b1), .val (.int (0 : Int32))] [(.ref a1), (.ref b1)])) rfl rfl (hb hby d3_16)
  refine own_go (B := T3.setTop (mkF m 19 #[.val (.ref a1), .val (.int p2), .val (.ref b1), .val (.int (0 : Int32))] [(.ref d1), (.ref b1)])) (fun t k => st3 _ k) ?_
  obtain ⟨cl4, Ar4, qk4, S4, M4, H4, G4⟩ := id c1_V_d1
  refine own_go (B := T3.setTop (mkF m 22 #[.val (.ref a1), .val (.int p2), .val (.ref b1), .val (.int (0 : Int32))] [(.ref a1), (.int x0), (.ref b1)])) (fun t k => ?_) ?_
  · show Steps p.tables e below (T3.setTop (mkF m 19 #[.val (.ref a1), .val (.int p2), .val (.ref b1), .val (.int (0 : Int32))] [(.ref d1), (.ref b1)])) _
    refine XS.iloadN X3.here hx rfl (hb hby d3_19) rfl ?_
    show Steps p.tables e below (T3.setTop (mkF m 20 #[.val (.ref a1), .val (.int p2), .val (.ref b1), .val (.int (0 : Int32))] [(.int (0 : Int32)), (.ref d1), (.ref b1)])) _
    refine X3.iaload hx (j := (0 : Int32)) (v := (.int x0)) (by rw [e3]; exact Ar4.1) (State.isArrayOf_alike hZ.alike Ar4.2.1) Ar4.2.2 (inb_of S4 ⟨by decide, hb0⟩) (Has.at H4 (inb_of S4 ⟨by decide, hb0⟩) rfl) (g := (mkF m 20 #[.val (.ref a1), .val (.int p2), .val (.ref b1), .val (.int (0 : Int32))] [(.int (0 : Int32)), (.ref d1), (.ref b1)])) rfl rfl (hb hby d3_20) _ ?_
    show Steps p.tables e below (T3.setTop (mkF m 21 #[.val (.ref a1), .val (.int p2), .val (.ref b1), .val (.int (0 : Int32))] [(.int x0), (.ref b1)])) _
    refine XS.aloadN X3.here hx rfl (hb hby d3_21) rfl rfl ?_
    exact k
  obtain ⟨T5, X5, e5, st5⟩ := getF X3 hx hZ hown (host := "") (Or.inl (hw _ (List.mem_of_getElem? (i := 15) rfl))) Via.refl e3 c1_F_a1_frequencies (g := (mkF m 22 #[.val (.ref a1), .val (.int p2), .val (.ref b1), .val (.int (0 : Int32))] [(.ref a1), (.int x0), (.ref b1)])) rfl rfl (hb hby d3_22)
  refine own_go (B := T5.setTop (mkF m 25 #[.val (.ref a1), .val (.int p2), .val (.ref b1), .val (.int (0 : Int32))] [(.ref f1), (.int x0), (.ref b1)])) (fun t k => st5 _ k) ?_
  obtain ⟨cl6, Ar6, qk6, S6, M6, H6, G6⟩ := id c1_V_f1
  refine own_go (B := T5.setTop (mkF m 27 #[.val (.ref a1), .val (.int p2), .val (.ref b1), .val (.int (0 : Int32))] [(.int y0), (.int x0), (.ref b1)])) (fun t k => ?_) ?_
  · show Steps p.tables e below (T5.setTop (mkF m 25 #[.val (.ref a1), .val (.int p2), .val (.ref b1), .val (.int (0 : Int32))] [(.ref f1), (.int x0), (.ref b1)])) _
    refine XS.iloadN X5.here hx rfl (hb hby d3_25) rfl ?_
    show Steps p.tables e below (T5.setTop (mkF m 26 #[.val (.ref a1), .val (.int p2), .val (.ref b1), .val (.int (0 : Int32))] [(.int (0 : Int32)), (.ref f1), (.int x0), (.ref b1)])) _
    refine X5.iaload hx (j := (0 : Int32)) (v := (.int y0)) (by rw [e5]; exact Ar6.1) (State.isArrayOf_alike hZ.alike Ar6.2.1) Ar6.2.2 (inb_of S6 ⟨by decide, hb0⟩) (Has.at H6 (inb_of S6 ⟨by decide, hb0⟩) rfl) (g := (mkF m 26 #[.val (.ref a1), .val (.int p2), .val (.ref b1), .val (.int (0 : Int32))] [(.int (0 : Int32)), (.ref f1), (.int x0), (.ref b1)])) rfl rfl (hb hby d3_26) _ ?_
    exact k
  have Vh7 : Arh Z h1 b1 k1 .int p2 [] [] (.int (0 : Int32)) := V1.arh
  obtain ⟨cl7, Ar7, qk7, S7, M7, H7, G7⟩ := id Vh7
  obtain ⟨T7, h7, X7, e7, W7, st7⟩ := stI X5 hx hZ e5 Ar7 (j := x0) (inb_of S7 hx0) (g := (mkF m 27 #[.val (.ref a1), .val (.int p2), .val (.ref b1), .val (.int (0 : Int32))] [(.int y0), (.int x0), (.ref b1)])) rfl rfl (hb hby d3_27)
  have V7 : Arh Z h7 b1 k1 .int p2 [(x0, .int y0)] [] (.int (0 : Int32)) := Arh.push Ar7 qk7 S7 M7 H7 G7 rfl W7 (inb_of S7 hx0)
  have c7_F_a1_size := c1_F_a1_size.other W7 (Or.inl ne_a1_b1)
  have c7_F_a1_documents := c1_F_a1_documents.other W7 (Or.inl ne_a1_b1)
  have c7_F_a1_frequencies := c1_F_a1_frequencies.other W7 (Or.inl ne_a1_b1)
  have c7_V_d1 := c1_V_d1.other W7 ne_d1_b1
  have c7_V_f1 := c1_V_f1.other W7 ne_f1_b1
  have K7 := K1.wr W7 (Or.inr sz_b1)
  have N7 := Fr.snoc X7 N0 g_b1
  refine own_go (B := T7.setTop (mkF m 28 #[.val (.ref a1), .val (.int p2), .val (.ref b1), .val (.int (0 : Int32))] [])) (fun t k => st7 _ k) ?_
  refine own_go (B := T7.setTop (mkF m 8 #[.val (.ref a1), .val (.int p2), .val (.ref b1), .val (.int (1 : Int32))] [(.ref a1), (.int (1 : Int32))])) (fun t k => ?_) ?_
  · show Steps p.tables e below (T7.setTop (mkF m 28 #[.val (.ref a1), .val (.int p2), .val (.ref b1), .val (.int (0 : Int32))] [])) _
    refine XS.iinc X7.here hx rfl (hb hby d3_28) rfl (l' := #[.val (.ref a1), .val (.int p2), .val (.ref b1), .val (.int (1 : Int32))]) rfl ?_
    show Steps p.tables e below (T7.setTop (mkF m 31 #[.val (.ref a1), .val (.int p2), .val (.ref b1), .val (.int (1 : Int32))] [])) _
    refine XS.goto X7.here hx rfl (pc0 := 31) (pc' := 6) rfl (hb hby d3_31) (by decide) (by decide) ?_
    show Steps p.tables e below (T7.setTop (mkF m 6 #[.val (.ref a1), .val (.int p2), .val (.ref b1), .val (.int (1 : Int32))] [])) _
    refine XS.iloadN X7.here hx rfl (hb hby d3_6) rfl ?_
    show Steps p.tables e below (T7.setTop (mkF m 7 #[.val (.ref a1), .val (.int p2), .val (.ref b1), .val (.int (1 : Int32))] [(.int (1 : Int32))])) _
    refine XS.aloadN X7.here hx rfl (hb hby d3_7) rfl rfl ?_
    exact k
  obtain ⟨T8, X8, e8, st8⟩ := getF X7 hx hZ hown (host := "") (Or.inl (hw _ (List.mem_of_getElem? (i := 22) rfl))) Via.refl e7 c7_F_a1_size (g := (mkF m 8 #[.val (.ref a1), .val (.int p2), .val (.ref b1), .val (.int (1 : Int32))] [(.ref a1), (.int (1 : Int32))])) rfl rfl (hb hby d3_8)
  refine own_go (B := T8.setTop (mkF m 11 #[.val (.ref a1), .val (.int p2), .val (.ref b1), .val (.int (1 : Int32))] [(.int (2 : Int32)), (.int (1 : Int32))])) (fun t k => st8 _ k) ?_
  refine own_go (B := T8.setTop (mkF m 16 #[.val (.ref a1), .val (.int p2), .val (.ref b1), .val (.int (1 : Int32))] [(.ref a1), (.ref b1)])) (fun t k => ?_) ?_
  · show Steps p.tables e below (T8.setTop (mkF m 11 #[.val (.ref a1), .val (.int p2), .val (.ref b1), .val (.int (1 : Int32))] [(.int (2 : Int32)), (.int (1 : Int32))])) _
    refine XS.icmpNo X8.here hx rfl (hb hby d3_11) rfl (tlt (by decide)).2.1 ?_
    show Steps p.tables e below (T8.setTop (mkF m 14 #[.val (.ref a1), .val (.int p2), .val (.ref b1), .val (.int (1 : Int32))] [])) _
    refine XS.aloadN X8.here hx rfl (hb hby d3_14) rfl rfl ?_
    show Steps p.tables e below (T8.setTop (mkF m 15 #[.val (.ref a1), .val (.int p2), .val (.ref b1), .val (.int (1 : Int32))] [(.ref b1)])) _
    refine XS.aloadN X8.here hx rfl (hb hby d3_15) rfl rfl ?_
    exact k
  obtain ⟨T9, X9, e9, st9⟩ := getF X8 hx hZ hown (host := "") (Or.inl (hw _ (List.mem_of_getElem? (i := 13) rfl))) Via.refl e8 c7_F_a1_documents (g := (mkF m 16 #[.val (.ref a1), .val (.int p2), .val (.ref b1), .val (.int (1 : Int32))] [(.ref a1), (.ref b1)])) rfl rfl (hb hby d3_16)
  refine own_go (B := T9.setTop (mkF m 19 #[.val (.ref a1), .val (.int p2), .val (.ref b1), .val (.int (1 : Int32))] [(.ref d1), (.ref b1)])) (fun t k => st9 _ k) ?_
  obtain ⟨cl10, Ar10, qk10, S10, M10, H10, G10⟩ := id c7_V_d1
  refine own_go (B := T9.setTop (mkF m 22 #[.val (.ref a1), .val (.int p2), .val (.ref b1), .val (.int (1 : Int32))] [(.ref a1), (.int x1), (.ref b1)])) (fun t k => ?_) ?_
  · show Steps p.tables e below (T9.setTop (mkF m 19 #[.val (.ref a1), .val (.int p2), .val (.ref b1), .val (.int (1 : Int32))] [(.ref d1), (.ref b1)])) _
    refine XS.iloadN X9.here hx rfl (hb hby d3_19) rfl ?_
    show Steps p.tables e below (T9.setTop (mkF m 20 #[.val (.ref a1), .val (.int p2), .val (.ref b1), .val (.int (1 : Int32))] [(.int (1 : Int32)), (.ref d1), (.ref b1)])) _
    refine X9.iaload hx (j := (1 : Int32)) (v := (.int x1)) (by rw [e9]; exact Ar10.1) (State.isArrayOf_alike hZ.alike Ar10.2.1) Ar10.2.2 (inb_of S10 ⟨by decide, hb1⟩) (Has.at H10 (inb_of S10 ⟨by decide, hb1⟩) rfl) (g := (mkF m 20 #[.val (.ref a1), .val (.int p2), .val (.ref b1), .val (.int (1 : Int32))] [(.int (1 : Int32)), (.ref d1), (.ref b1)])) rfl rfl (hb hby d3_20) _ ?_
    show Steps p.tables e below (T9.setTop (mkF m 21 #[.val (.ref a1), .val (.int p2), .val (.ref b1), .val (.int (1 : Int32))] [(.int x1), (.ref b1)])) _
    refine XS.aloadN X9.here hx rfl (hb hby d3_21) rfl rfl ?_
    exact k
  obtain ⟨T11, X11, e11, st11⟩ := getF X9 hx hZ hown (host := "") (Or.inl (hw _ (List.mem_of_getElem? (i := 15) rfl))) Via.refl e9 c7_F_a1_frequencies (g := (mkF m 22 #[.val (.ref a1), .val (.int p2), .val (.ref b1), .val (.int (1 : Int32))] [(.ref a1), (.int x1), (.ref b1)])) rfl rfl (hb hby d3_22)
  refine own_go (B := T11.setTop (mkF m 25 #[.val (.ref a1), .val (.int p2), .val (.ref b1), .val (.int (1 : Int32))] [(.ref f1), (.int x1), (.ref b1)])) (fun t k => st11 _ k) ?_
  obtain ⟨cl12, Ar12, qk12, S12, M12, H12, G12⟩ := id c7_V_f1
  refine own_go (B := T11.setTop (mkF m 27 #[.val (.ref a1), .val (.int p2), .val (.ref b1), .val (.int (1 : Int32))] [(.int y1), (.int x1), (.ref b1)])) (fun t k => ?_) ?_
  · show Steps p.tables e below (T11.setTop (mkF m 25 #[.val (.ref a1), .val (.int p2), .val (.ref b1), .val (.int (1 : Int32))] [(.ref f1), (.int x1), (.ref b1)])) _
    refine XS.iloadN X11.here hx rfl (hb hby d3_25) rfl ?_
    show Steps p.tables e below (T11.setTop (mkF m 26 #[.val (.ref a1), .val (.int p2), .val (.ref b1), .val (.int (1 : Int32))] [(.int (1 : Int32)), (.ref f1), (.int x1), (.ref b1)])) _
    refine X11.iaload hx (j := (1 : Int32)) (v := (.int y1)) (by rw [e11]; exact Ar12.1) (State.isArrayOf_alike hZ.alike Ar12.2.1) Ar12.2.2 (inb_of S12 ⟨by decide, hb1⟩) (Has.at H12 (inb_of S12 ⟨by decide, hb1⟩) rfl) (g := (mkF m 26 #[.val (.ref a1), .val (.int p2), .val (.ref b1), .val (.int (1 : Int32))] [(.int (1 : Int32)), (.ref f1), (.int x1), (.ref b1)])) rfl rfl (hb hby d3_26) _ ?_
    exact k
  obtain ⟨cl13, Ar13, qk13, S13, M13, H13, G13⟩ := id V7
  obtain ⟨T13, h13, X13, e13, W13, st13⟩ := stI X11 hx hZ e11 Ar13 (j := x1) (inb_of S13 hx1) (g := (mkF m 27 #[.val (.ref a1), .val (.int p2), .val (.ref b1), .val (.int (1 : Int32))] [(.int y1), (.int x1), (.ref b1)])) rfl rfl (hb hby d3_27)
  have V13 : Arh Z h13 b1 k1 .int p2 [(x1, .int y1), (x0, .int y0)] [] (.int (0 : Int32)) := Arh.push Ar13 qk13 S13 M13 H13 G13 rfl W13 (inb_of S13 hx1)
  have c13_F_a1_size := c7_F_a1_size.other W13 (Or.inl ne_a1_b1)
  have c13_F_a1_documents := c7_F_a1_documents.other W13 (Or.inl ne_a1_b1)
  have c13_F_a1_frequencies := c7_F_a1_frequencies.other W13 (Or.inl ne_a1_b1)
  have c13_V_d1 := c7_V_d1.other W13 ne_d1_b1
  have c13_V_f1 := c7_V_f1.other W13 ne_f1_b1
  have K13 := K7.wr W13 (Or.inr sz_b1)
  have N13 := Fr.snoc X13 N7 g_b1
  refine own_go (B := T13.setTop (mkF m 28 #[.val (.ref a1), .val (.int p2), .val (.ref b1), .val (.int (1 : Int32))] [])) (fun t k => st13 _ k) ?_
  refine own_go (B := T13.setTop (mkF m 8 #[.val (.ref a1), .val (.int p2), .val (.ref b1), .val (.int (2 : Int32))] [(.ref a1), (.int (2 : Int32))])) (fun t k => ?_) ?_
  · show Steps p.tables e below (T13.setTop (mkF m 28 #[.val (.ref a1), .val (.int p2), .val (.ref b1), .val (.int (1 : Int32))] [])) _
    refine XS.iinc X13.here hx rfl (hb hby d3_28) rfl (l' := #[.val (.ref a1), .val (.int p2), .val (.ref b1), .val (.int (2 : Int32))]) rfl ?_
    show Steps p.tables e below (T13.setTop (mkF m 31 #[.val (.ref a1), .val (.int p2), .val (.ref b1), .val (.int (2 : Int32))] [])) _
    refine XS.goto X13.here hx rfl (pc0 := 31) (pc' := 6) rfl (hb hby d3_31) (by decide) (by decide) ?_
    show Steps p.tables e below (T13.setTop (mkF m 6 #[.val (.ref a1), .val (.int p2), .val (.ref b1), .val (.int (2 : Int32))] [])) _
    refine XS.iloadN X13.here hx rfl (hb hby d3_6) rfl ?_
    show Steps p.tables e below (T13.setTop (mkF m 7 #[.val (.ref a1), .val (.int p2), .val (.ref b1), .val (.int (2 : Int32))] [(.int (2 : Int32))])) _
    refine XS.aloadN X13.here hx rfl (hb hby d3_7) rfl rfl ?_
    exact k
  obtain ⟨T14, X14, e14, st14⟩ := getF X13 hx hZ hown (host := "") (Or.inl (hw _ (List.mem_of_getElem? (i := 22) rfl))) Via.refl e13 c13_F_a1_size (g := (mkF m 8 #[.val (.ref a1), .val (.int p2), .val (.ref b1), .val (.int (2 : Int32))] [(.ref a1), (.int (2 : Int32))])) rfl rfl (hb hby d3_8)
  refine own_go (B := T14.setTop (mkF m 11 #[.val (.ref a1), .val (.int p2), .val (.ref b1), .val (.int (2 : Int32))] [(.int (2 : Int32)), (.int (2 : Int32))])) (fun t k => st14 _ k) ?_
  obtain ⟨fs, hr, hrun, hended, hW, hsame⟩ := X14.leave (v := some (.ref b1)) (fun h => by rw [Bd.returns] at h; cases h)
  refine ⟨_, _, ?_, hrun, hended, _, _, rfl, ?_, ⟨_, rfl⟩, hW, hsame.mono (by decide) (by decide)⟩
  · show Steps p.tables e below (T14.setTop (mkF m 11 #[.val (.ref a1), .val (.int p2), .val (.ref b1), .val (.int (2 : Int32))] [(.int (2 : Int32)), (.int (2 : Int32))])) _
    refine XS.icmpYes X14.here hx rfl (pc0 := 11) (pc' := 34) rfl (hb hby d3_11) rfl (flt (by decide)).2.1 (by decide) (by decide) ?_
    show Steps p.tables e below (T14.setTop (mkF m 34 #[.val (.ref a1), .val (.int p2), .val (.ref b1), .val (.int (2 : Int32))] [])) _
    refine XS.aloadN X14.here hx rfl (hb hby d3_34) rfl rfl ?_
    show Steps p.tables e below (T14.setTop (mkF m 35 #[.val (.ref a1), .val (.int p2), .val (.ref b1), .val (.int (2 : Int32))] [(.ref b1)])) _
    jvm_step X14.here [X14.here.top, hx, (hb hby d3_35), X14.method', Bd.returns, Value.isRef, FieldType.isReference]
    first | (intro acts; rw [hr _ acts rfl rfl rfl]) | rw [hr _ _ rfl rfl rfl]
    exact Steps.refl _
  · show Q3_2 Z a1 p2 d1 f1 kd kf N1 x0 x1 y0 y1 h0 n0 _ T14.heap _
    rw [e14]
    exact ⟨b1, k1, rfl, N13, K13, V13⟩
def Q3_3 (Z : State) (a1 : Addr) (p2 : Int32) (d1 : Addr) (f1 : Addr) (kd : ClassId) (kf : ClassId) (N1 : Int32) (x0 : Int32) (x1 : Int32) (x2 : Int32) (y0 : Int32) (y1 : Int32) (y2 : Int32) (h0 : Heap) (n0 : Nat) (v : Option Value) (h : Heap) (L : List Loc) : Prop := ∃ (b : Addr) (kb : ClassId), v = some (.ref b) ∧ Fr n0 L ∧ Keep h0 h [] ∧ Arh Z h b kb .int p2 [(x2, .int y2), (x1, .int y1), (x0, .int y0)] [] (.int (0 : Int32))
set_option maxRecDepth 65536 in
set_option maxHeartbeats 40000000 in
theorem rm3_3 (l : Launch) (Z : State) (a0 : Array Value) (hw : ∀ d ∈ tables_1, d.before a0 Z = true) (ws : List Jvm.Cond) (a1 : Addr) (p2 : Int32) (d1 : Addr) (f1 : Addr) (kd : ClassId) (kf : ClassId) (N1 : Int32) (x0 : Int32) (x1 : Int32) (x2 : Int32) (y0 : Int32) (y1 : Int32) (y2 : Int32) (h0 : Heap) (n0 : Nat) (Z0 : n0 ≤ h0.size) (F_s : Fld Z h0 a1 "com/example/libqlm/libqlm/Postings" "size" "I" (.int (3 : Int32))) (F_d : Fld Z h0 a1 "com/example/libqlm/libqlm/Postings" "documents" "[I" (.ref d1)) (F_f : Fld Z h0 a1 "com/example/libqlm/libqlm/Postings" "frequencies" "[I" (.ref f1)) (V_d : Arv Z h0 d1 kd .int N1 [(.int x0), (.int x1), (.int x2)] (.int (0 : Int32))) (V_f : Arv Z h0 f1 kf .int N1 [(.int y0), (.int y1), (.int y2)] (.int (0 : Int32))) (hdc : ¬ p2 < 0 ∧ p2.toNatClampNeg ≤ 8) (hb0 : (0 : Int32) < N1) (hb1 : (1 : Int32) < N1) (hb2 : (2 : Int32) < N1) (hx0 : ¬ x0 < 0 ∧ x0 < p2) (hx1 : ¬ x1 < 0 ∧ x1 < p2) (hx2 : ¬ x2 < 0 ∧ x2 < p2) :
    MetFree l (⟨"com/example/libqlm/libqlm/Postings", "frequenciesByDocument", "(I)[I"⟩ : MethodName) (head1 (Jvm.Cond.code (⟨"com/example/libqlm/libqlm/Postings", "frequenciesByDocument", "(I)[I"⟩ : MethodName) prog_92_method_11_code 4 (some (.array .int)) :: ws) ({ frames := 0, cells := 1, slots := 8, locals := 0 } : Room)) (fun a U => a = #[(.ref a1), (.int p2)] ∧ Z.Warmed39 U.vm ∧ U.heap = h0) (fun _ _ _ _ _ => True) (fun _ U o U' => ∃ v L, o = .returned v ∧ Q3_3 Z a1 p2 d1 f1 kd kf N1 x0 x1 x2 y0 y1 y2 h0 n0 v U'.heap L ∧ FrameEnd U o U' L ({ frames := 0, cells := 1, slots := 8, locals := 0 } : Room).cells ({ frames := 0, cells := 1, slots := 8, locals := 0 } : Room).slots) := by
  refine MetFree.of_bodySF (plainFor_of_name pn_3) hisR ?_
  intro p e s m args below meth c s₁ Bd hml0 hP hK
  obtain ⟨rfl, hZ, hh⟩ := hP
  have hx := Bd.exec
  have hby := Bd.bytes
  have hml : c.maxLocals = 4 := hml0
  have hown : s.vm.findClass "com/example/libqlm/libqlm/Postings" = some m.cls := findClass_of_methodNamed Bd.named
  have hnm := (name_of_methodNamed Bd.named Bd.method).1
  have X0 : Stand p l e ({ frames := 0, cells := 1, slots := 8, locals := 0 } : Room) s m #[(.ref a1), (.int p2)] below meth c s₁ [] 0 0 := Stand.of_body Bd
  have e0 : s₁.heap = h0 := by rw [← hh, Bd.state]; rfl
  have N0 := Fr.nil n0
  refine own_go (B := s₁.setTop (mkF m 0 #[.val (.ref a1), .val (.int p2), .unset, .unset] [])) (fun t k => castTop (ef_3 m a1 p2) k) ?_
  refine own_go (B := s₁.setTop (mkF m 1 #[.val (.ref a1), .val (.int p2), .unset, .unset] [(.int p2)])) (fun t k => ?_) ?_
  · show Steps p.tables e below (s₁.setTop (mkF m 0 #[.val (.ref a1), .val (.int p2), .unset, .unset] [])) _
    refine XS.iloadN X0.here hx rfl (hb hby d3_0) rfl ?_
    exact k
  obtain ⟨T1, h1, k1, X1, e1, E1, A1, st1⟩ := newP X0 hx hZ (hw _ (List.mem_of_getElem? (i := 12) rfl)) e0 (g := (mkF m 1 #[.val (.ref a1), .val (.int p2), .unset, .unset] [(.int p2)])) rfl (hb hby d3_1) rfl hdc.1 (cap := 8) hdc.2 (by decide) (by decide) (by decide)
  obtain ⟨b1, g1⟩ : ∃ z, z = h0.size := ⟨_, rfl⟩
  rw [← g1] at A1 st1
  have g_b1 : n0 ≤ b1 := Nat.le_trans Z0 (Nat.le_of_eq g1.symm)
  have sz_b1 : h0.size ≤ b1 := Nat.le_trans (Keep.refl h0 []).1 (Nat.le_of_eq g1.symm)
  have ne_a1_b1 : a1 ≠ b1 := Nat.ne_of_lt (Nat.lt_of_lt_of_le F_s.lt (Nat.le_of_eq g1.symm))
  have ne_d1_b1 : d1 ≠ b1 := Nat.ne_of_lt (Nat.lt_of_lt_of_le V_d.lt (Nat.le_of_eq g1.symm))
  have ne_f1_b1 : f1 ≠ b1 := Nat.ne_of_lt (Nat.lt_of_lt_of_le V_f.lt (Nat.le_of_eq g1.symm))
  have c1_F_a1_size := F_s.ext E1
  have c1_F_a1_documents := F_d.ext E1
  have c1_F_a1_frequencies := F_f.ext E1
  have c1_V_d1 := V_d.ext E1
  have c1_V_f1 := V_f.ext E1
  have K1 := (Keep.refl h0 []).ext E1
  have V1 : Arv Z h1 b1 k1 .int p2 [] (.int (0 : Int32)) := Arv.new A1 hdc.1
  refine own_go (B := T1.setTop (mkF m 3 #[.val (.ref a1), .val (.int p2), .unset, .unset] [(.ref b1)])) (fun t k => st1 _ k) ?_
  refine own_go (B := T1.setTop (mkF m 8 #[.val (.ref a1), .val (.int p2), .val (.ref b1), .val (.int (0 : Int32))] [(.ref a1), (.int (0 : Int32))])) (fun t k => ?_) ?_
  · show Steps p.tables e below (T1.setTop (mkF m 3 #[.val (.ref a1), .val (.int p2), .unset, .unset] [(.ref b1)])) _
    refine XS.astoreN X1.here hx rfl (hb hby d3_3) rfl rfl (l' := #[.val (.ref a1), .val (.int p2), .val (.ref b1), .unset]) rfl ?_
    show Steps p.tables e below (T1.setTop (mkF m 4 #[.val (.ref a1), .val (.int p2), .val (.ref b1), .unset] [])) _
    refine XS.iconst X1.here hx rfl (hb hby d3_4) ?_
    show Steps p.tables e below (T1.setTop (mkF m 5 #[.val (.ref a1), .val (.int p2), .val (.ref b1), .unset] [(.int (0 : Int32))])) _
    refine XS.istoreN X1.here hx rfl (hb hby d3_5) rfl (l' := #[.val (.ref a1), .val (.int p2), .val (.ref b1), .val (.int (0 : Int32))]) rfl ?_
    show Steps p.tables e below (T1.setTop (mkF m 6 #[.val (.ref a1), .val (.int p2), .val (.ref b1), .val (.int (0 : Int32))] [])) _
    refine XS.iloadN X1.here hx rfl (hb hby d3_6) rfl ?_
    show Steps p.tables e below (T1.setTop (mkF m 7 #[.val (.ref a1), .val (.int p2), .val (.ref b1), .val (.int (0 : Int32))] [(.int (0 : Int32))])) _
    refine XS.aloadN X1.here hx rfl (hb hby d3_7) rfl rfl ?_
    exact k
  obtain ⟨T2, X2, e2, st2⟩ := getF X1 hx hZ hown (host := "") (Or.inl (hw _ (List.mem_of_getElem? (i := 22) rfl))) Via.refl e1 c1_F_a1_size (g := (mkF m 8 #[.val (.ref a1), .val (.int p2), .val (.ref b1), .val (.int (0 : Int32))] [(.ref a1), (.int (0 : Int32))])) rfl rfl (hb hby d3_8)
  refine own_go (B := T2.setTop (mkF m 11 #[.val (.ref a1), .val (.int p2), .val (.ref b1), .val (.int (0 : Int32))] [(.int (3 : Int32)), (.int (0 : Int32))])) (fun t k => st2 _ k) ?_
  refine own_go (B := T2.setTop (mkF m 16 #[.val (.ref a1), .val (.int p2), .val (.ref b1), .val (.int (0 : Int32))] [(.ref a1), (.ref b1)])) (fun t k => ?_) ?_
  · show Steps p.tables e below (T2.setTop (mkF m 11 #[.val (.ref a1), .val (.int p2), .val (.ref b1), .val (.int (0 : Int32))] [(.int (3 : Int32)), (.int (0 : Int32))])) _
    refine XS.icmpNo X2.here hx rfl (hb hby d3_11) rfl (tlt (by decide)).2.1 ?_
    show Steps p.tables e below (T2.setTop (mkF m 14 #[.val (.ref a1), .val (.int p2), .val (.ref b1), .val (.int (0 : Int32))] [])) _
    refine XS.aloadN X2.here hx rfl (hb hby d3_14) rfl rfl ?_
    show Steps p.tables e below (T2.setTop (mkF m 15 #[.val (.ref a1), .val (.int p2), .val (.ref b1), .val (.int (0 : Int32))] [(.ref b1)])) _
    refine XS.aloadN X2.here hx rfl (hb hby d3_15) rfl rfl ?_
    exact k
  obtain ⟨T3, X3, e3, st3⟩ := getF X2 hx hZ hown (host := "") (Or.inl (hw _ (List.mem_of_getElem? (i := 13) rfl))) Via.refl e2 c1_F_a1_documents (g := (mkF m 16 #[.val (.ref a1), .val (.int p2), .val (.ref b1), .val (.int (0 : Int32))] [(.ref a1), (.ref b1)])) rfl rfl (hb hby d3_16)
  refine own_go (B := T3.setTop (mkF m 19 #[.val (.ref a1), .val (.int p2), .val (.ref b1), .val (.int (0 : Int32))] [(.ref d1), (.ref b1)])) (fun t k => st3 _ k) ?_
  obtain ⟨cl4, Ar4, qk4, S4, M4, H4, G4⟩ := id c1_V_d1
  refine own_go (B := T3.setTop (mkF m 22 #[.val (.ref a1), .val (.int p2), .val (.ref b1), .val (.int (0 : Int32))] [(.ref a1), (.int x0), (.ref b1)])) (fun t k => ?_) ?_
  · show Steps p.tables e below (T3.setTop (mkF m 19 #[.val (.ref a1), .val (.int p2), .val (.ref b1), .val (.int (0 : Int32))] [(.ref d1), (.ref b1)])) _
    refine XS.iloadN X3.here hx rfl (hb hby d3_19) rfl ?_
    show Steps p.tables e below (T3.setTop (mkF m 20 #[.val (.ref a1), .val (.int p2), .val (.ref b1), .val (.int (0 : Int32))] [(.int (0 : Int32)), (.ref d1), (.ref b1)])) _
    refine X3.iaload hx (j := (0 : Int32)) (v := (.int x0)) (by rw [e3]; exact Ar4.1) (State.isArrayOf_alike hZ.alike Ar4.2.1) Ar4.2.2 (inb_of S4 ⟨by decide, hb0⟩) (Has.at H4 (inb_of S4 ⟨by decide, hb0⟩) rfl) (g := (mkF m 20 #[.val (.ref a1), .val (.int p2), .val (.ref b1), .val (.int (0 : Int32))] [(.int (0 : Int32)), (.ref d1), (.ref b1)])) rfl rfl (hb hby d3_20) _ ?_
    show Steps p.tables e below (T3.setTop (mkF m 21 #[.val (.ref a1), .val (.int p2), .val (.ref b1), .val (.int (0 : Int32))] [(.int x0), (.ref b1)])) _
    refine XS.aloadN X3.here hx rfl (hb hby d3_21) rfl rfl ?_
    exact k
  obtain ⟨T5, X5, e5, st5⟩ := getF X3 hx hZ hown (host := "") (Or.inl (hw _ (List.mem_of_getElem? (i := 15) rfl))) Via.refl e3 c1_F_a1_frequencies (g := (mkF m 22 #[.val (.ref a1), .val (.int p2), .val (.ref b1), .val (.int (0 : Int32))] [(.ref a1), (.int x0), (.ref b1)])) rfl rfl (hb hby d3_22)
  refine own_go (B := T5.setTop (mkF m 25 #[.val (.ref a1), .val (.int p2), .val (.ref b1), .val (.int (0 : Int32))] [(.ref f1), (.int x0), (.ref b1)])) (fun t k => st5 _ k) ?_
  obtain ⟨cl6, Ar6, qk6, S6, M6, H6, G6⟩ := id c1_V_f1
  refine own_go (B := T5.setTop (mkF m 27 #[.val (.ref a1), .val (.int p2), .val (.ref b1), .val (.int (0 : Int32))] [(.int y0), (.int x0), (.ref b1)])) (fun t k => ?_) ?_
  · show Steps p.tables e below (T5.setTop (mkF m 25 #[.val (.ref a1), .val (.int p2), .val (.ref b1), .val (.int (0 : Int32))] [(.ref f1), (.int x0), (.ref b1)])) _
    refine XS.iloadN X5.here hx rfl (hb hby d3_25) rfl ?_
    show Steps p.tables e below (T5.setTop (mkF m 26 #[.val (.ref a1), .val (.int p2), .val (.ref b1), .val (.int (0 : Int32))] [(.int (0 : Int32)), (.ref f1), (.int x0), (.ref b1)])) _
    refine X5.iaload hx (j := (0 : Int32)) (v := (.int y0)) (by rw [e5]; exact Ar6.1) (State.isArrayOf_alike hZ.alike Ar6.2.1) Ar6.2.2 (inb_of S6 ⟨by decide, hb0⟩) (Has.at H6 (inb_of S6 ⟨by decide, hb0⟩) rfl) (g := (mkF m 26 #[.val (.ref a1), .val (.int p2), .val (.ref b1), .val (.int (0 : Int32))] [(.int (0 : Int32)), (.ref f1), (.int x0), (.ref b1)])) rfl rfl (hb hby d3_26) _ ?_
    exact k
  have Vh7 : Arh Z h1 b1 k1 .int p2 [] [] (.int (0 : Int32)) := V1.arh
  obtain ⟨cl7, Ar7, qk7, S7, M7, H7, G7⟩ := id Vh7
  obtain ⟨T7, h7, X7, e7, W7, st7⟩ := stI X5 hx hZ e5 Ar7 (j := x0) (inb_of S7 hx0) (g := (mkF m 27 #[.val (.ref a1), .val (.int p2), .val (.ref b1), .val (.int (0 : Int32))] [(.int y0), (.int x0), (.ref b1)])) rfl rfl (hb hby d3_27)
  have V7 : Arh Z h7 b1 k1 .int p2 [(x0, .int y0)] [] (.int (0 : Int32)) := Arh.push Ar7 qk7 S7 M7 H7 G7 rfl W7 (inb_of S7 hx0)
  have c7_F_a1_size := c1_F_a1_size.other W7 (Or.inl ne_a1_b1)
  have c7_F_a1_documents := c1_F_a1_documents.other W7 (Or.inl ne_a1_b1)
  have c7_F_a1_frequencies := c1_F_a1_frequencies.other W7 (Or.inl ne_a1_b1)
  have c7_V_d1 := c1_V_d1.other W7 ne_d1_b1
  have c7_V_f1 := c1_V_f1.other W7 ne_f1_b1
  have K7 := K1.wr W7 (Or.inr sz_b1)
  have N7 := Fr.snoc X7 N0 g_b1
  refine own_go (B := T7.setTop (mkF m 28 #[.val (.ref a1), .val (.int p2), .val (.ref b1), .val (.int (0 : Int32))] [])) (fun t k => st7 _ k) ?_
  refine own_go (B := T7.setTop (mkF m 8 #[.val (.ref a1), .val (.int p2), .val (.ref b1), .val (.int (1 : Int32))] [(.ref a1), (.int (1 : Int32))])) (fun t k => ?_) ?_
  · show Steps p.tables e below (T7.setTop (mkF m 28 #[.val (.ref a1), .val (.int p2), .val (.ref b1), .val (.int (0 : Int32))] [])) _
    refine XS.iinc X7.here hx rfl (hb hby d3_28) rfl (l' := #[.val (.ref a1), .val (.int p2), .val (.ref b1), .val (.int (1 : Int32))]) rfl ?_
    show Steps p.tables e below (T7.setTop (mkF m 31 #[.val (.ref a1), .val (.int p2), .val (.ref b1), .val (.int (1 : Int32))] [])) _
    refine XS.goto X7.here hx rfl (pc0 := 31) (pc' := 6) rfl (hb hby d3_31) (by decide) (by decide) ?_
    show Steps p.tables e below (T7.setTop (mkF m 6 #[.val (.ref a1), .val (.int p2), .val (.ref b1), .val (.int (1 : Int32))] [])) _
    refine XS.iloadN X7.here hx rfl (hb hby d3_6) rfl ?_
    show Steps p.tables e below (T7.setTop (mkF m 7 #[.val (.ref a1), .val (.int p2), .val (.ref b1), .val (.int (1 : Int32))] [(.int (1 : Int32))])) _
    refine XS.aloadN X7.here hx rfl (hb hby d3_7) rfl rfl ?_
    exact k
  obtain ⟨T8, X8, e8, st8⟩ := getF X7 hx hZ hown (host := "") (Or.inl (hw _ (List.mem_of_getElem? (i := 22) rfl))) Via.refl e7 c7_F_a1_size (g := (mkF m 8 #[.val (.ref a1), .val (.int p2), .val (.ref b1), .val (.int (1 : Int32))] [(.ref a1), (.int (1 : Int32))])) rfl rfl (hb hby d3_8)
  refine own_go (B := T8.setTop (mkF m 11 #[.val (.ref a1), .val (.int p2), .val (.ref b1), .val (.int (1 : Int32))] [(.int (3 : Int32)), (.int (1 : Int32))])) (fun t k => st8 _ k) ?_
  refine own_go (B := T8.setTop (mkF m 16 #[.val (.ref a1), .val (.int p2), .val (.ref b1), .val (.int (1 : Int32))] [(.ref a1), (.ref b1)])) (fun t k => ?_) ?_
  · show Steps p.tables e below (T8.setTop (mkF m 11 #[.val (.ref a1), .val (.int p2), .val (.ref b1), .val (.int (1 : Int32))] [(.int (3 : Int32)), (.int (1 : Int32))])) _
    refine XS.icmpNo X8.here hx rfl (hb hby d3_11) rfl (tlt (by decide)).2.1 ?_
    show Steps p.tables e below (T8.setTop (mkF m 14 #[.val (.ref a1), .val (.int p2), .val (.ref b1), .val (.int (1 : Int32))] [])) _
    refine XS.aloadN X8.here hx rfl (hb hby d3_14) rfl rfl ?_
    show Steps p.tables e below (T8.setTop (mkF m 15 #[.val (.ref a1), .val (.int p2), .val (.ref b1), .val (.int (1 : Int32))] [(.ref b1)])) _
    refine XS.aloadN X8.here hx rfl (hb hby d3_15) rfl rfl ?_
    exact k
  obtain ⟨T9, X9, e9, st9⟩ := getF X8 hx hZ hown (host := "") (Or.inl (hw _ (List.mem_of_getElem? (i := 13) rfl))) Via.refl e8 c7_F_a1_documents (g := (mkF m 16 #[.val (.ref a1), .val (.int p2), .val (.ref b1), .val (.int (1 : Int32))] [(.ref a1), (.ref b1)])) rfl rfl (hb hby d3_16)
  refine own_go (B := T9.setTop (mkF m 19 #[.val (.ref a1), .val (.int p2), .val (.ref b1), .val (.int (1 : Int32))] [(.ref d1), (.ref b1)])) (fun t k => st9 _ k) ?_
  obtain ⟨cl10, Ar10, qk10, S10, M10, H10, G10⟩ := id c7_V_d1
  refine own_go (B := T9.setTop (mkF m 22 #[.val (.ref a1), .val (.int p2), .val (.ref b1), .val (.int (1 : Int32))] [(.ref a1), (.int x1), (.ref b1)])) (fun t k => ?_) ?_
  · show Steps p.tables e below (T9.setTop (mkF m 19 #[.val (.ref a1), .val (.int p2), .val (.ref b1), .val (.int (1 : Int32))] [(.ref d1), (.ref b1)])) _
    refine XS.iloadN X9.here hx rfl (hb hby d3_19) rfl ?_
    show Steps p.tables e below (T9.setTop (mkF m 20 #[.val (.ref a1), .val (.int p2), .val (.ref b1), .val (.int (1 : Int32))] [(.int (1 : Int32)), (.ref d1), (.ref b1)])) _
    refine X9.iaload hx (j := (1 : Int32)) (v := (.int x1)) (by rw [e9]; exact Ar10.1) (State.isArrayOf_alike hZ.alike Ar10.2.1) Ar10.2.2 (inb_of S10 ⟨by decide, hb1⟩) (Has.at H10 (inb_of S10 ⟨by decide, hb1⟩) rfl) (g := (mkF m 20 #[.val (.ref a1), .val (.int p2), .val (.ref b1), .val (.int (1 : Int32))] [(.int (1 : Int32)), (.ref d1), (.ref b1)])) rfl rfl (hb hby d3_20) _ ?_
    show Steps p.tables e below (T9.setTop (mkF m 21 #[.val (.ref a1), .val (.int p2), .val (.ref b1), .val (.int (1 : Int32))] [(.int x1), (.ref b1)])) _
    refine XS.aloadN X9.here hx rfl (hb hby d3_21) rfl rfl ?_
    exact k
  obtain ⟨T11, X11, e11, st11⟩ := getF X9 hx hZ hown (host := "") (Or.inl (hw _ (List.mem_of_getElem? (i := 15) rfl))) Via.refl e9 c7_F_a1_frequencies (g := (mkF m 22 #[.val (.ref a1), .val (.int p2), .val (.ref b1), .val (.int (1 : Int32))] [(.ref a1), (.int x1), (.ref b1)])) rfl rfl (hb hby d3_22)
  refine own_go (B := T11.setTop (mkF m 25 #[.val (.ref a1), .val (.int p2), .val (.ref b1), .val (.int (1 : Int32))] [(.ref f1), (.int x1), (.ref b1)])) (fun t k => st11 _ k) ?_
  obtain ⟨cl12, Ar12, qk12, S12, M12, H12, G12⟩ := id c7_V_f1
  refine own_go (B := T11.setTop (mkF m 27 #[.val (.ref a1), .val (.int p2), .val (.ref b1), .val (.int (1 : Int32))] [(.int y1), (.int x1), (.ref b1)])) (fun t k => ?_) ?_
  · show Steps p.tables e below (T11.setTop (mkF m 25 #[.val (.ref a1), .val (.int p2), .val (.ref b1), .val (.int (1 : Int32))] [(.ref f1), (.int x1), (.ref b1)])) _
    refine XS.iloadN X11.here hx rfl (hb hby d3_25) rfl ?_
    show Steps p.tables e below (T11.setTop (mkF m 26 #[.val (.ref a1), .val (.int p2), .val (.ref b1), .val (.int (1 : Int32))] [(.int (1 : Int32)), (.ref f1), (.int x1), (.ref b1)])) _
    refine X11.iaload hx (j := (1 : Int32)) (v := (.int y1)) (by rw [e11]; exact Ar12.1) (State.isArrayOf_alike hZ.alike Ar12.2.1) Ar12.2.2 (inb_of S12 ⟨by decide, hb1⟩) (Has.at H12 (inb_of S12 ⟨by decide, hb1⟩) rfl) (g := (mkF m 26 #[.val (.ref a1), .val (.int p2), .val (.ref b1), .val (.int (1 : Int32))] [(.int (1 : Int32)), (.ref f1), (.int x1), (.ref b1)])) rfl rfl (hb hby d3_26) _ ?_
    exact k
  obtain ⟨cl13, Ar13, qk13, S13, M13, H13, G13⟩ := id V7
  obtain ⟨T13, h13, X13, e13, W13, st13⟩ := stI X11 hx hZ e11 Ar13 (j := x1) (inb_of S13 hx1) (g := (mkF m 27 #[.val (.ref a1), .val (.int p2), .val (.ref b1), .val (.int (1 : Int32))] [(.int y1), (.int x1), (.ref b1)])) rfl rfl (hb hby d3_27)
  have V13 : Arh Z h13 b1 k1 .int p2 [(x1, .int y1), (x0, .int y0)] [] (.int (0 : Int32)) := Arh.push Ar13 qk13 S13 M13 H13 G13 rfl W13 (inb_of S13 hx1)
  have c13_F_a1_size := c7_F_a1_size.other W13 (Or.inl ne_a1_b1)
  have c13_F_a1_documents := c7_F_a1_documents.other W13 (Or.inl ne_a1_b1)
  have c13_F_a1_frequencies := c7_F_a1_frequencies.other W13 (Or.inl ne_a1_b1)
  have c13_V_d1 := c7_V_d1.other W13 ne_d1_b1
  have c13_V_f1 := c7_V_f1.other W13 ne_f1_b1
  have K13 := K7.wr W13 (Or.inr sz_b1)
  have N13 := Fr.snoc X13 N7 g_b1
  refine own_go (B := T13.setTop (mkF m 28 #[.val (.ref a1), .val (.int p2), .val (.ref b1), .val (.int (1 : Int32))] [])) (fun t k => st13 _ k) ?_
  refine own_go (B := T13.setTop (mkF m 8 #[.val (.ref a1), .val (.int p2), .val (.ref b1), .val (.int (2 : Int32))] [(.ref a1), (.int (2 : Int32))])) (fun t k => ?_) ?_
  · show Steps p.tables e below (T13.setTop (mkF m 28 #[.val (.ref a1), .val (.int p2), .val (.ref b1), .val (.int (1 : Int32))] [])) _
    refine XS.iinc X13.here hx rfl (hb hby d3_28) rfl (l' := #[.val (.ref a1), .val (.int p2), .val (.ref b1), .val (.int (2 : Int32))]) rfl ?_
    show Steps p.tables e below (T13.setTop (mkF m 31 #[.val (.ref a1), .val (.int p2), .val (.ref b1), .val (.int (2 : Int32))] [])) _
    refine XS.goto X13.here hx rfl (pc0 := 31) (pc' := 6) rfl (hb hby d3_31) (by decide) (by decide) ?_
    show Steps p.tables e below (T13.setTop (mkF m 6 #[.val (.ref a1), .val (.int p2), .val (.ref b1), .val (.int (2 : Int32))] [])) _
    refine XS.iloadN X13.here hx rfl (hb hby d3_6) rfl ?_
    show Steps p.tables e below (T13.setTop (mkF m 7 #[.val (.ref a1), .val (.int p2), .val (.ref b1), .val (.int (2 : Int32))] [(.int (2 : Int32))])) _
    refine XS.aloadN X13.here hx rfl (hb hby d3_7) rfl rfl ?_
    exact k
  obtain ⟨T14, X14, e14, st14⟩ := getF X13 hx hZ hown (host := "") (Or.inl (hw _ (List.mem_of_getElem? (i := 22) rfl))) Via.refl e13 c13_F_a1_size (g := (mkF m 8 #[.val (.ref a1), .val (.int p2), .val (.ref b1), .val (.int (2 : Int32))] [(.ref a1), (.int (2 : Int32))])) rfl rfl (hb hby d3_8)
  refine own_go (B := T14.setTop (mkF m 11 #[.val (.ref a1), .val (.int p2), .val (.ref b1), .val (.int (2 : Int32))] [(.int (3 : Int32)), (.int (2 : Int32))])) (fun t k => st14 _ k) ?_
  refine own_go (B := T14.setTop (mkF m 16 #[.val (.ref a1), .val (.int p2), .val (.ref b1), .val (.int (2 : Int32))] [(.ref a1), (.ref b1)])) (fun t k => ?_) ?_
  · show Steps p.tables e below (T14.setTop (mkF m 11 #[.val (.ref a1), .val (.int p2), .val (.ref b1), .val (.int (2 : Int32))] [(.int (3 : Int32)), (.int (2 : Int32))])) _
    refine XS.icmpNo X14.here hx rfl (hb hby d3_11) rfl (tlt (by decide)).2.1 ?_
    show Steps p.tables e below (T14.setTop (mkF m 14 #[.val (.ref a1), .val (.int p2), .val (.ref b1), .val (.int (2 : Int32))] [])) _
    refine XS.aloadN X14.here hx rfl (hb hby d3_14) rfl rfl ?_
    show Steps p.tables e below (T14.setTop (mkF m 15 #[.val (.ref a1), .val (.int p2), .val (.ref b1), .val (.int (2 : Int32))] [(.ref b1)])) _
    refine XS.aloadN X14.here hx rfl (hb hby d3_15) rfl rfl ?_
    exact k
  obtain ⟨T15, X15, e15, st15⟩ := getF X14 hx hZ hown (host := "") (Or.inl (hw _ (List.mem_of_getElem? (i := 13) rfl))) Via.refl e14 c13_F_a1_documents (g := (mkF m 16 #[.val (.ref a1), .val (.int p2), .val (.ref b1), .val (.int (2 : Int32))] [(.ref a1), (.ref b1)])) rfl rfl (hb hby d3_16)
  refine own_go (B := T15.setTop (mkF m 19 #[.val (.ref a1), .val (.int p2), .val (.ref b1), .val (.int (2 : Int32))] [(.ref d1), (.ref b1)])) (fun t k => st15 _ k) ?_
  obtain ⟨cl16, Ar16, qk16, S16, M16, H16, G16⟩ := id c13_V_d1
  refine own_go (B := T15.setTop (mkF m 22 #[.val (.ref a1), .val (.int p2), .val (.ref b1), .val (.int (2 : Int32))] [(.ref a1), (.int x2), (.ref b1)])) (fun t k => ?_) ?_
  · show Steps p.tables e below (T15.setTop (mkF m 19 #[.val (.ref a1), .val (.int p2), .val (.ref b1), .val (.int (2 : Int32))] [(.ref d1), (.ref b1)])) _
    refine XS.iloadN X15.here hx rfl (hb hby d3_19) rfl ?_
    show Steps p.tables e below (T15.setTop (mkF m 20 #[.val (.ref a1), .val (.int p2), .val (.ref b1), .val (.int (2 : Int32))] [(.int (2 : Int32)), (.ref d1), (.ref b1)])) _
    refine X15.iaload hx (j := (2 : Int32)) (v := (.int x2)) (by rw [e15]; exact Ar16.1) (State.isArrayOf_alike hZ.alike Ar16.2.1) Ar16.2.2 (inb_of S16 ⟨by decide, hb2⟩) (Has.at H16 (inb_of S16 ⟨by decide, hb2⟩) rfl) (g := (mkF m 20 #[.val (.ref a1), .val (.int p2), .val (.ref b1), .val (.int (2 : Int32))] [(.int (2 : Int32)), (.ref d1), (.ref b1)])) rfl rfl (hb hby d3_20) _ ?_
    show Steps p.tables e below (T15.setTop (mkF m 21 #[.val (.ref a1), .val (.int p2), .val (.ref b1), .val (.int (2 : Int32))] [(.int x2), (.ref b1)])) _
    refine XS.aloadN X15.here hx rfl (hb hby d3_21) rfl rfl ?_
    exact k
  obtain ⟨T17, X17, e17, st17⟩ := getF X15 hx hZ hown (host := "") (Or.inl (hw _ (List.mem_of_getElem? (i := 15) rfl))) Via.refl e15 c13_F_a1_frequencies (g := (mkF m 22 #[.val (.ref a1), .val (.int p2), .val (.ref b1), .val (.int (2 : Int32))] [(.ref a1), (.int x2), (.ref b1)])) rfl rfl (hb hby d3_22)
  refine own_go (B := T17.setTop (mkF m 25 #[.val (.ref a1), .val (.int p2), .val (.ref b1), .val (.int (2 : Int32))] [(.ref f1), (.int x2), (.ref b1)])) (fun t k => st17 _ k) ?_
  obtain ⟨cl18, Ar18, qk18, S18, M18, H18, G18⟩ := id c13_V_f1
  refine own_go (B := T17.setTop (mkF m 27 #[.val (.ref a1), .val (.int p2), .val (.ref b1), .val (.int (2 : Int32))] [(.int y2), (.int x2), (.ref b1)])) (fun t k => ?_) ?_
  · show Steps p.tables e below (T17.setTop (mkF m 25 #[.val (.ref a1), .val (.int p2), .val (.ref b1), .val (.int (2 : Int32))] [(.ref f1), (.int x2), (.ref b1)])) _
    refine XS.iloadN X17.here hx rfl (hb hby d3_25) rfl ?_
    show Steps p.tables e below (T17.setTop (mkF m 26 #[.val (.ref a1), .val (.int p2), .val (.ref b1), .val (.int (2 : Int32))] [(.int (2 : Int32)), (.ref f1), (.int x2), (.ref b1)])) _
    refine X17.iaload hx (j := (2 : Int32)) (v := (.int y2)) (by rw [e17]; exact Ar18.1) (State.isArrayOf_alike hZ.alike Ar18.2.1) Ar18.2.2 (inb_of S18 ⟨by decide, hb2⟩) (Has.at H18 (inb_of S18 ⟨by decide, hb2⟩) rfl) (g := (mkF m 26 #[.val (.ref a1), .val (.int p2), .val (.ref b1), .val (.int (2 : Int32))] [(.int (2 : Int32)), (.ref f1), (.int x2), (.ref b1)])) rfl rfl (hb hby d3_26) _ ?_
    exact k
  obtain ⟨cl19, Ar19, qk19, S19, M19, H19, G19⟩ := id V13
  obtain ⟨T19, h19, X19, e19, W19, st19⟩ := stI X17 hx hZ e17 Ar19 (j := x2) (inb_of S19 hx2) (g := (mkF m 27 #[.val (.ref a1), .val (.int p2), .val (.ref b1), .val (.int (2 : Int32))] [(.int y2), (.int x2), (.ref b1)])) rfl rfl (hb hby d3_27)
  have V19 : Arh Z h19 b1 k1 .int p2 [(x2, .int y2), (x1, .int y1), (x0, .int y0)] [] (.int (0 : Int32)) := Arh.push Ar19 qk19 S19 M19 H19 G19 rfl W19 (inb_of S19 hx2)
  have c19_F_a1_size := c13_F_a1_size.other W19 (Or.inl ne_a1_b1)
  have c19_F_a1_documents := c13_F_a1_documents.other W19 (Or.inl ne_a1_b1)
  have c19_F_a1_frequencies := c13_F_a1_frequencies.other W19 (Or.inl ne_a1_b1)
  have c19_V_d1 := c13_V_d1.other W19 ne_d1_b1
  have c19_V_f1 := c13_V_f1.other W19 ne_f1_b1
  have K19 := K13.wr W19 (Or.inr sz_b1)
  have N19 := Fr.snoc X19 N13 g_b1
  refine own_go (B := T19.setTop (mkF m 28 #[.val (.ref a1), .val (.int p2), .val (.ref b1), .val (.int (2 : Int32))] [])) (fun t k => st19 _ k) ?_
  refine own_go (B := T19.setTop (mkF m 8 #[.val (.ref a1), .val (.int p2), .val (.ref b1), .val (.int (3 : Int32))] [(.ref a1), (.int (3 : Int32))])) (fun t k => ?_) ?_
  · show Steps p.tables e below (T19.setTop (mkF m 28 #[.val (.ref a1), .val (.int p2), .val (.ref b1), .val (.int (2 : Int32))] [])) _
    refine XS.iinc X19.here hx rfl (hb hby d3_28) rfl (l' := #[.val (.ref a1), .val (.int p2), .val (.ref b1), .val (.int (3 : Int32))]) rfl ?_
    show Steps p.tables e below (T19.setTop (mkF m 31 #[.val (.ref a1), .val (.int p2), .val (.ref b1), .val (.int (3 : Int32))] [])) _
    refine XS.goto X19.here hx rfl (pc0 := 31) (pc' := 6) rfl (hb hby d3_31) (by decide) (by decide) ?_
    show Steps p.tables e below (T19.setTop (mkF m 6 #[.val (.ref a1), .val (.int p2), .val (.ref b1), .val (.int (3 : Int32))] [])) _
    refine XS.iloadN X19.here hx rfl (hb hby d3_6) rfl ?_
    show Steps p.tables e below (T19.setTop (mkF m 7 #[.val (.ref a1), .val (.int p2), .val (.ref b1), .val (.int (3 : Int32))] [(.int (3 : Int32))])) _
    refine XS.aloadN X19.here hx rfl (hb hby d3_7) rfl rfl ?_
    exact k
  obtain ⟨T20, X20, e20, st20⟩ := getF X19 hx hZ hown (host := "") (Or.inl (hw _ (List.mem_of_getElem? (i := 22) rfl))) Via.refl e19 c19_F_a1_size (g := (mkF m 8 #[.val (.ref a1), .val (.int p2), .val (.ref b1), .val (.int (3 : Int32))] [(.ref a1), (.int (3 : Int32))])) rfl rfl (hb hby d3_8)
  refine own_go (B := T20.setTop (mkF m 11 #[.val (.ref a1), .val (.int p2), .val (.ref b1), .val (.int (3 : Int32))] [(.int (3 : Int32)), (.int (3 : Int32))])) (fun t k => st20 _ k) ?_
  obtain ⟨fs, hr, hrun, hended, hW, hsame⟩ := X20.leave (v := some (.ref b1)) (fun h => by rw [Bd.returns] at h; cases h)
  refine ⟨_, _, ?_, hrun, hended, _, _, rfl, ?_, ⟨_, rfl⟩, hW, hsame.mono (by decide) (by decide)⟩
  · show Steps p.tables e below (T20.setTop (mkF m 11 #[.val (.ref a1), .val (.int p2), .val (.ref b1), .val (.int (3 : Int32))] [(.int (3 : Int32)), (.int (3 : Int32))])) _
    refine XS.icmpYes X20.here hx rfl (pc0 := 11) (pc' := 34) rfl (hb hby d3_11) rfl (flt (by decide)).2.1 (by decide) (by decide) ?_
    show Steps p.tables e below (T20.setTop (mkF m 34 #[.val (.ref a1), .val (.int p2), .val (.ref b1), .val (.int (3 : Int32))] [])) _
    refine XS.aloadN X20.here hx rfl (hb hby d3_34) rfl rfl ?_
    show Steps p.tables e below (T20.setTop (mkF m 35 #[.val (.ref a1), .val (.int p2), .val (.ref b1), .val (.int (3 : Int32))] [(.ref b1)])) _
    jvm_step X20.here [X20.here.top, hx, (hb hby d3_35), X20.method', Bd.returns, Value.isRef, FieldType.isReference]
    first | (intro acts; rw [hr _ acts rfl rfl rfl]) | rw [hr _ _ rfl rfl rfl]
    exact Steps.refl _
  · show Q3_3 Z a1 p2 d1 f1 kd kf N1 x0 x1 x2 y0 y1 y2 h0 n0 _ T20.heap _
    rw [e20]
    exact ⟨b1, k1, rfl, N19, K19, V19⟩
def own_e1 (i b d f prev : Int32) : Int32 := (if b = (0 : Int32) then prev else (if i = d then f else prev))
def own_e (i b0 d0 f0 b1 d1 f1 b2 d2 f2 : Int32) : Int32 := own_e1 i b2 d2 f2 (own_e1 i b1 d1 f1 (own_e1 i b0 d0 f0 (0 : Int32)))
def own_at (x i dc b0 d0 f0 b1 d1 f1 b2 d2 f2 : Int32) : Int32 := (if i < dc then (if x = own_e i b0 d0 f0 b1 d1 f1 b2 d2 f2 then (1 : Int32) else (0 : Int32)) else (1 : Int32))
theorem own_at_ok {x i dc b0 d0 f0 b1 d1 f1 b2 d2 f2 : Int32} (h : x = own_e i b0 d0 f0 b1 d1 f1 b2 d2 f2) : ¬ own_at x i dc b0 d0 f0 b1 d1 f1 b2 d2 f2 = (0 : Int32) := by
  unfold own_at
  rw [if_pos h]
  split <;> decide
def own_gv : List (Int32 × Int32) → Int32 → Int32
  | [], _ => (0 : Int32)
  | q :: r, i => if i = q.1 then q.2 else own_gv r i
theorem own_getH : ∀ (hs : List (Int32 × Int32)) (i : Int32), ¬ i < 0 → getH (hs.map fun q => (q.1, Value.int q.2)) [] (.int (0 : Int32)) i.toNatClampNeg = .int (own_gv hs i)
  | [], i, _ => rfl
  | q :: r, i, h => by
    rw [own_gv]
    by_cases e : i = q.1
    · rw [if_pos e]; exact getH_hit h e
    · rw [if_neg e]; exact getH_miss h e (own_getH r i h)
theorem pn_4 : plainName "com/example/libqlm/libqlm/PostingsFrequenciesByDocumentPinLaw" = true := by first | (simp [plainName, overriddenIn]; done) | decide +kernel
theorem d4_0 : decode method_3_code 0 = .ok (.iload_n 1, 1) := by decide +kernel
theorem d4_1 : decode method_3_code 1 = .ok (.iload_n 2, 1) := by decide +kernel
theorem d4_2 : decode method_3_code 2 = .ok (.if_icmp .lt 5, 3) := by decide +kernel
theorem d4_5 : decode method_3_code 5 = .ok (.iconst 1, 1) := by decide +kernel
theorem d4_6 : decode method_3_code 6 = .ok (.ireturn, 1) := by decide +kernel
theorem d4_7 : decode method_3_code 7 = .ok (.iconst 0, 1) := by decide +kernel
theorem d4_8 : decode method_3_code 8 = .ok (.istore 12, 2) := by decide +kernel
theorem d4_10 : decode method_3_code 10 = .ok (.iload_n 3, 1) := by decide +kernel
theorem d4_11 : decode method_3_code 11 = .ok (.ifCond .eq 13, 3) := by decide +kernel
theorem d4_14 : decode method_3_code 14 = .ok (.iload_n 1, 1) := by decide +kernel
theorem d4_15 : decode method_3_code 15 = .ok (.iload 4, 2) := by decide +kernel
theorem d4_17 : decode method_3_code 17 = .ok (.if_icmp .ne 7, 3) := by decide +kernel
theorem d4_20 : decode method_3_code 20 = .ok (.iload 5, 2) := by decide +kernel
theorem d4_22 : decode method_3_code 22 = .ok (.istore 12, 2) := by decide +kernel
theorem d4_24 : decode method_3_code 24 = .ok (.iload 6, 2) := by decide +kernel
theorem d4_26 : decode method_3_code 26 = .ok (.ifCond .eq 13, 3) := by decide +kernel
theorem d4_29 : decode method_3_code 29 = .ok (.iload_n 1, 1) := by decide +kernel
theorem d4_30 : decode method_3_code 30 = .ok (.iload 7, 2) := by decide +kernel
theorem d4_32 : decode method_3_code 32 = .ok (.if_icmp .ne 7, 3) := by decide +kernel
theorem d4_35 : decode method_3_code 35 = .ok (.iload 8, 2) := by decide +kernel
theorem d4_37 : decode method_3_code 37 = .ok (.istore 12, 2) := by decide +kernel
theorem d4_39 : decode method_3_code 39 = .ok (.iload 9, 2) := by decide +kernel
theorem d4_41 : decode method_3_code 41 = .ok (.ifCond .eq 13, 3) := by decide +kernel
theorem d4_44 : decode method_3_code 44 = .ok (.iload_n 1, 1) := by decide +kernel
theorem d4_45 : decode method_3_code 45 = .ok (.iload 10, 2) := by decide +kernel
theorem d4_47 : decode method_3_code 47 = .ok (.if_icmp .ne 7, 3) := by decide +kernel
theorem d4_50 : decode method_3_code 50 = .ok (.iload 11, 2) := by decide +kernel
theorem d4_52 : decode method_3_code 52 = .ok (.istore 12, 2) := by decide +kernel
theorem d4_54 : decode method_3_code 54 = .ok (.aload_n 0, 1) := by decide +kernel
theorem d4_55 : decode method_3_code 55 = .ok (.iload_n 1, 1) := by decide +kernel
theorem d4_56 : decode method_3_code 56 = .ok (.iaload, 1) := by decide +kernel
theorem d4_57 : decode method_3_code 57 = .ok (.iload 12, 2) := by decide +kernel
theorem d4_59 : decode method_3_code 59 = .ok (.if_icmp .ne 7, 3) := by decide +kernel
theorem d4_62 : decode method_3_code 62 = .ok (.iconst 1, 1) := by decide +kernel
theorem d4_63 : decode method_3_code 63 = .ok (.goto 4, 3) := by decide +kernel
theorem d4_66 : decode method_3_code 66 = .ok (.iconst 0, 1) := by decide +kernel
theorem d4_67 : decode method_3_code 67 = .ok (.ireturn, 1) := by decide +kernel
theorem ef_4 (m : MethodId) (x0 : Addr) (x1 : Int32) (x2 : Int32) (x3 : Int32) (x4 : Int32) (x5 : Int32) (x6 : Int32) (x7 : Int32) (x8 : Int32) (x9 : Int32) (x10 : Int32) (x11 : Int32) : entryFrame m #[(.ref x0), (.int x1), (.int x2), (.int x3), (.int x4), (.int x5), (.int x6), (.int x7), (.int x8), (.int x9), (.int x10), (.int x11)] 13 = mkF m 0 #[.val (.ref x0), .val (.int x1), .val (.int x2), .val (.int x3), .val (.int x4), .val (.int x5), .val (.int x6), .val (.int x7), .val (.int x8), .val (.int x9), .val (.int x10), .val (.int x11), .unset] [] := by first | (simp [entryFrame, mkF, argsToLocals, Value.category]; done) | rfl
def Q4 (Z : State) (a1 : Addr) (p2 : Int32) (p3 : Int32) (b0 : Int32) (e0x : Int32) (f0x : Int32) (b1 : Int32) (e1x : Int32) (f1x : Int32) (b2 : Int32) (e2x : Int32) (f2x : Int32) (x1 : Int32) (cl : Cell) (h0 : Heap) (n0 : Nat) (v : Option Value) (h : Heap) (L : List Loc) : Prop := v = some (.int (own_at x1 p2 p3 b0 e0x f0x b1 e1x f1x b2 e2x f2x)) ∧ Fr n0 L ∧ h = h0
set_option maxRecDepth 65536 in
set_option maxHeartbeats 40000000 in
theorem rm4 (l : Launch) (Z : State) (a0 : Array Value) (hw : ∀ d ∈ tables_1, d.before a0 Z = true) (ws : List Jvm.Cond) (a1 : Addr) (p2 : Int32) (p3 : Int32) (b0 : Int32) (e0x : Int32) (f0x : Int32) (b1 : Int32) (e1x : Int32) (f1x : Int32) (b2 : Int32) (e2x : Int32) (f2x : Int32) (x1 : Int32) (cl : Cell) (h0 : Heap) (n0 : Nat) (Z0 : n0 ≤ h0.size) (Ar : Arr Z h0 a1 cl .int) (hin : p2 < p3 → ¬ (p2 < 0 ∨ cl.slots.size ≤ p2.toNatClampNeg)) (hat : p2 < p3 → cl.slots[p2.toNatClampNeg]? = some (.int x1)) :
    MetFree l (⟨"com/example/libqlm/libqlm/PostingsFrequenciesByDocumentPinLaw", "at", "([IIIZIIZIIZII)Z"⟩ : MethodName) (head1 (Jvm.Cond.code (⟨"com/example/libqlm/libqlm/PostingsFrequenciesByDocumentPinLaw", "at", "([IIIZIIZIIZII)Z"⟩ : MethodName) method_3_code 13 (some .boolean) :: ws) ({ frames := 0, cells := 0, slots := 0, locals := 0 } : Room)) (fun a U => a = #[(.ref a1), (.int p2), (.int p3), (.int b0), (.int e0x), (.int f0x), (.int b1), (.int e1x), (.int f1x), (.int b2), (.int e2x), (.int f2x)] ∧ Z.Warmed39 U.vm ∧ U.heap = h0) (fun _ _ _ _ _ => True) (fun _ U o U' => ∃ v L, o = .returned v ∧ Q4 Z a1 p2 p3 b0 e0x f0x b1 e1x f1x b2 e2x f2x x1 cl h0 n0 v U'.heap L ∧ FrameEnd U o U' L ({ frames := 0, cells := 0, slots := 0, locals := 0 } : Room).cells ({ frames := 0, cells := 0, slots := 0, locals := 0 } : Room).slots) := by
  refine MetFree.of_bodySF (plainFor_of_name pn_4) hisR ?_
  intro p e s m args below meth c s₁ Bd hml0 hP hK
  obtain ⟨rfl, hZ, hh⟩ := hP
  have hx := Bd.exec
  have hby := Bd.bytes
  have hml : c.maxLocals = 13 := hml0
  have hown : s.vm.findClass "com/example/libqlm/libqlm/PostingsFrequenciesByDocumentPinLaw" = some m.cls := findClass_of_methodNamed Bd.named
  have hnm := (name_of_methodNamed Bd.named Bd.method).1
  have X0 : Stand p l e ({ frames := 0, cells := 0, slots := 0, locals := 0 } : Room) s m #[(.ref a1), (.int p2), (.int p3), (.int b0), (.int e0x), (.int f0x), (.int b1), (.int e1x), (.int f1x), (.int b2), (.int e2x), (.int f2x)] below meth c s₁ [] 0 0 := Stand.of_body Bd
  have e0 : s₁.heap = h0 := by rw [← hh, Bd.state]; rfl
  have N0 := Fr.nil n0
  refine own_go (B := s₁.setTop (mkF m 0 #[.val (.ref a1), .val (.int p2), .val (.int p3), .val (.int b0), .val (.int e0x), .val (.int f0x), .val (.int b1), .val (.int e1x), .val (.int f1x), .val (.int b2), .val (.int e2x), .val (.int f2x), .unset] [])) (fun t k => castTop (ef_4 m a1 p2 p3 b0 e0x f0x b1 e1x f1x b2 e2x f2x) k) ?_
  refine own_go (B := s₁.setTop (mkF m 2 #[.val (.ref a1), .val (.int p2), .val (.int p3), .val (.int b0), .val (.int e0x), .val (.int f0x), .val (.int b1), .val (.int e1x), .val (.int f1x), .val (.int b2), .val (.int e2x), .val (.int f2x), .unset] [(.int p3), (.int p2)])) (fun t k => ?_) ?_
  · show Steps p.tables e below (s₁.setTop (mkF m 0 #[.val (.ref a1), .val (.int p2), .val (.int p3), .val (.int b0), .val (.int e0x), .val (.int f0x), .val (.int b1), .val (.int e1x), .val (.int f1x), .val (.int b2), .val (.int e2x), .val (.int f2x), .unset] [])) _
    refine XS.iloadN X0.here hx rfl (hb hby d4_0) rfl ?_
    show Steps p.tables e below (s₁.setTop (mkF m 1 #[.val (.ref a1), .val (.int p2), .val (.int p3), .val (.int b0), .val (.int e0x), .val (.int f0x), .val (.int b1), .val (.int e1x), .val (.int f1x), .val (.int b2), .val (.int e2x), .val (.int f2x), .unset] [(.int p2)])) _
    refine XS.iloadN X0.here hx rfl (hb hby d4_1) rfl ?_
    exact k
  by_cases hc2_1 : p2 < p3
  · refine own_go (B := s₁.setTop (mkF m 11 #[.val (.ref a1), .val (.int p2), .val (.int p3), .val (.int b0), .val (.int e0x), .val (.int f0x), .val (.int b1), .val (.int e1x), .val (.int f1x), .val (.int b2), .val (.int e2x), .val (.int f2x), .val (.int (0 : Int32))] [(.int b0)])) (fun t k => ?_) ?_
    · show Steps p.tables e below (s₁.setTop (mkF m 2 #[.val (.ref a1), .val (.int p2), .val (.int p3), .val (.int b0), .val (.int e0x), .val (.int f0x), .val (.int b1), .val (.int e1x), .val (.int f1x), .val (.int b2), .val (.int e2x), .val (.int f2x), .unset] [(.int p3), (.int p2)])) _
      refine XS.icmpYes X0.here hx rfl (pc0 := 2) (pc' := 7) rfl (hb hby d4_2) rfl (tlt hc2_1).1 (by decide) (by decide) ?_
      show Steps p.tables e below (s₁.setTop (mkF m 7 #[.val (.ref a1), .val (.int p2), .val (.int p3), .val (.int b0), .val (.int e0x), .val (.int f0x), .val (.int b1), .val (.int e1x), .val (.int f1x), .val (.int b2), .val (.int e2x), .val (.int f2x), .unset] [])) _
      refine XS.iconst X0.here hx rfl (hb hby d4_7) ?_
      show Steps p.tables e below (s₁.setTop (mkF m 8 #[.val (.ref a1), .val (.int p2), .val (.int p3), .val (.int b0), .val (.int e0x), .val (.int f0x), .val (.int b1), .val (.int e1x), .val (.int f1x), .val (.int b2), .val (.int e2x), .val (.int f2x), .unset] [(.int (0 : Int32))])) _
      refine XS.istore X0.here hx rfl (hb hby d4_8) rfl (l' := #[.val (.ref a1), .val (.int p2), .val (.int p3), .val (.int b0), .val (.int e0x), .val (.int f0x), .val (.int b1), .val (.int e1x), .val (.int f1x), .val (.int b2), .val (.int e2x), .val (.int f2x), .val (.int (0 : Int32))]) rfl ?_
      show Steps p.tables e below (s₁.setTop (mkF m 10 #[.val (.ref a1), .val (.int p2), .val (.int p3), .val (.int b0), .val (.int e0x), .val (.int f0x), .val (.int b1), .val (.int e1x), .val (.int f1x), .val (.int b2), .val (.int e2x), .val (.int f2x), .val (.int (0 : Int32))] [])) _
      refine XS.iloadN X0.here hx rfl (hb hby d4_10) rfl ?_
      exact k
    obtain ⟨z2, hz2⟩ : ∃ q : Int32, q = (if b0 = (0 : Int32) then (0 : Int32) else (if p2 = e0x then f0x else (0 : Int32))) := ⟨_, rfl⟩
    refine own_go (B := s₁.setTop (mkF m 24 #[.val (.ref a1), .val (.int p2), .val (.int p3), .val (.int b0), .val (.int e0x), .val (.int f0x), .val (.int b1), .val (.int e1x), .val (.int f1x), .val (.int b2), .val (.int e2x), .val (.int f2x), .val (.int z2)] [])) (fun t k => ?_) ?_
    · by_cases hc11_3 : b0 = (0 : Int32)
      · rw [show z2 = (0 : Int32) from hz2.trans (by rw [if_pos hc11_3])] at k
        show Steps p.tables e below (s₁.setTop (mkF m 11 #[.val (.ref a1), .val (.int p2), .val (.int p3), .val (.int b0), .val (.int e0x), .val (.int f0x), .val (.int b1), .val (.int e1x), .val (.int f1x), .val (.int b2), .val (.int e2x), .val (.int f2x), .val (.int (0 : Int32))] [(.int b0)])) _
        refine XS.ifYes X0.here hx rfl (pc0 := 11) (pc' := 24) rfl (hb hby d4_11) rfl ((if0 _ _).trans (teq hc11_3).1) (by decide) (by decide) ?_
        exact k
      · show Steps p.tables e below (s₁.setTop (mkF m 11 #[.val (.ref a1), .val (.int p2), .val (.int p3), .val (.int b0), .val (.int e0x), .val (.int f0x), .val (.int b1), .val (.int e1x), .val (.int f1x), .val (.int b2), .val (.int e2x), .val (.int f2x), .val (.int (0 : Int32))] [(.int b0)])) _
        refine XS.ifNo X0.here hx rfl (hb hby d4_11) rfl ((if0 _ _).trans (feq hc11_3).1) ?_
        show Steps p.tables e below (s₁.setTop (mkF m 14 #[.val (.ref a1), .val (.int p2), .val (.int p3), .val (.int b0), .val (.int e0x), .val (.int f0x), .val (.int b1), .val (.int e1x), .val (.int f1x), .val (.int b2), .val (.int e2x), .val (.int f2x), .val (.int (0 : Int32))] [])) _
        refine XS.iloadN X0.here hx rfl (hb hby d4_14) rfl ?_
        show Steps p.tables e below (s₁.setTop (mkF m 15 #[.val (.ref a1), .val (.int p2), .val (.int p3), .val (.int b0), .val (.int e0x), .val (.int f0x), .val (.int b1), .val (.int e1x), .val (.int f1x), .val (.int b2), .val (.int e2x), .val (.int f2x), .val (.int (0 : Int32))] [(.int p2)])) _
        refine XS.iload X0.here hx rfl (hb hby d4_15) rfl ?_
        by_cases hc17_4 : p2 = e0x
        · rw [show z2 = f0x from hz2.trans (by rw [if_neg hc11_3, if_pos hc17_4])] at k
          show Steps p.tables e below (s₁.setTop (mkF m 17 #[.val (.ref a1), .val (.int p2), .val (.int p3), .val (.int b0), .val (.int e0x), .val (.int f0x), .val (.int b1), .val (.int e1x), .val (.int f1x), .val (.int b2), .val (.int e2x), .val (.int f2x), .val (.int (0 : Int32))] [(.int e0x), (.int p2)])) _
          refine XS.icmpNo X0.here hx rfl (hb hby d4_17) rfl (teq hc17_4).2 ?_
          show Steps p.tables e below (s₁.setTop (mkF m 20 #[.val (.ref a1), .val (.int p2), .val (.int p3), .val (.int b0), .val (.int e0x), .val (.int f0x), .val (.int b1), .val (.int e1x), .val (.int f1x), .val (.int b2), .val (.int e2x), .val (.int f2x), .val (.int (0 : Int32))] [])) _
          refine XS.iload X0.here hx rfl (hb hby d4_20) rfl ?_
          show Steps p.tables e below (s₁.setTop (mkF m 22 #[.val (.ref a1), .val (.int p2), .val (.int p3), .val (.int b0), .val (.int e0x), .val (.int f0x), .val (.int b1), .val (.int e1x), .val (.int f1x), .val (.int b2), .val (.int e2x), .val (.int f2x), .val (.int (0 : Int32))] [(.int f0x)])) _
          refine XS.istore X0.here hx rfl (hb hby d4_22) rfl (l' := #[.val (.ref a1), .val (.int p2), .val (.int p3), .val (.int b0), .val (.int e0x), .val (.int f0x), .val (.int b1), .val (.int e1x), .val (.int f1x), .val (.int b2), .val (.int e2x), .val (.int f2x), .val (.int f0x)]) rfl ?_
          exact k
        · rw [show z2 = (0 : Int32) from hz2.trans (by rw [if_neg hc11_3, if_neg hc17_4])] at k
          show Steps p.tables e below (s₁.setTop (mkF m 17 #[.val (.ref a1), .val (.int p2), .val (.int p3), .val (.int b0), .val (.int e0x), .val (.int f0x), .val (.int b1), .val (.int e1x), .val (.int f1x), .val (.int b2), .val (.int e2x), .val (.int f2x), .val (.int (0 : Int32))] [(.int e0x), (.int p2)])) _
          refine XS.icmpYes X0.here hx rfl (pc0 := 17) (pc' := 24) rfl (hb hby d4_17) rfl (feq hc17_4).2 (by decide) (by decide) ?_
          exact k
    refine own_go (B := s₁.setTop (mkF m 26 #[.val (.ref a1), .val (.int p2), .val (.int p3), .val (.int b0), .val (.int e0x), .val (.int f0x), .val (.int b1), .val (.int e1x), .val (.int f1x), .val (.int b2), .val (.int e2x), .val (.int f2x), .val (.int z2)] [(.int b1)])) (fun t k => ?_) ?_
    · show Steps p.tables e below (s₁.setTop (mkF m 24 #[.val (.ref a1), .val (.int p2), .val (.int p3), .val (.int b0), .val (.int e0x), .val (.int f0x), .val (.int b1), .val (.int e1x), .val (.int f1x), .val (.int b2), .val (.int e2x), .val (.int f2x), .val (.int z2)] [])) _
      refine XS.iload X0.here hx rfl (hb hby d4_24) rfl ?_
      exact k
    obtain ⟨z5, hz5⟩ : ∃ q : Int32, q = (if b1 = (0 : Int32) then z2 else (if p2 = e1x then f1x else z2)) := ⟨_, rfl⟩
    refine own_go (B := s₁.setTop (mkF m 39 #[.val (.ref a1), .val (.int p2), .val (.int p3), .val (.int b0), .val (.int e0x), .val (.int f0x), .val (.int b1), .val (.int e1x), .val (.int f1x), .val (.int b2), .val (.int e2x), .val (.int f2x), .val (.int z5)] [])) (fun t k => ?_) ?_
    · by_cases hc26_6 : b1 = (0 : Int32)
      · rw [show z5 = z2 from hz5.trans (by rw [if_pos hc26_6])] at k
        show Steps p.tables e below (s₁.setTop (mkF m 26 #[.val (.ref a1), .val (.int p2), .val (.int p3), .val (.int b0), .val (.int e0x), .val (.int f0x), .val (.int b1), .val (.int e1x), .val (.int f1x), .val (.int b2), .val (.int e2x), .val (.int f2x), .val (.int z2)] [(.int b1)])) _
        refine XS.ifYes X0.here hx rfl (pc0 := 26) (pc' := 39) rfl (hb hby d4_26) rfl ((if0 _ _).trans (teq hc26_6).1) (by decide) (by decide) ?_
        exact k
      · show Steps p.tables e below (s₁.setTop (mkF m 26 #[.val (.ref a1), .val (.int p2), .val (.int p3), .val (.int b0), .val (.int e0x), .val (.int f0x), .val (.int b1), .val (.int e1x), .val (.int f1x), .val (.int b2), .val (.int e2x), .val (.int f2x), .val (.int z2)] [(.int b1)])) _
        refine XS.ifNo X0.here hx rfl (hb hby d4_26) rfl ((if0 _ _).trans (feq hc26_6).1) ?_
        show Steps p.tables e below (s₁.setTop (mkF m 29 #[.val (.ref a1), .val (.int p2), .val (.int p3), .val (.int b0), .val (.int e0x), .val (.int f0x), .val (.int b1), .val (.int e1x), .val (.int f1x), .val (.int b2), .val (.int e2x), .val (.int f2x), .val (.int z2)] [])) _
        refine XS.iloadN X0.here hx rfl (hb hby d4_29) rfl ?_
        show Steps p.tables e below (s₁.setTop (mkF m 30 #[.val (.ref a1), .val (.int p2), .val (.int p3), .val (.int b0), .val (.int e0x), .val (.int f0x), .val (.int b1), .val (.int e1x), .val (.int f1x), .val (.int b2), .val (.int e2x), .val (.int f2x), .val (.int z2)] [(.int p2)])) _
        refine XS.iload X0.here hx rfl (hb hby d4_30) rfl ?_
        by_cases hc32_7 : p2 = e1x
        · rw [show z5 = f1x from hz5.trans (by rw [if_neg hc26_6, if_pos hc32_7])] at k
          show Steps p.tables e below (s₁.setTop (mkF m 32 #[.val (.ref a1), .val (.int p2), .val (.int p3), .val (.int b0), .val (.int e0x), .val (.int f0x), .val (.int b1), .val (.int e1x), .val (.int f1x), .val (.int b2), .val (.int e2x), .val (.int f2x), .val (.int z2)] [(.int e1x), (.int p2)])) _
          refine XS.icmpNo X0.here hx rfl (hb hby d4_32) rfl (teq hc32_7).2 ?_
          show Steps p.tables e below (s₁.setTop (mkF m 35 #[.val (.ref a1), .val (.int p2), .val (.int p3), .val (.int b0), .val (.int e0x), .val (.int f0x), .val (.int b1), .val (.int e1x), .val (.int f1x), .val (.int b2), .val (.int e2x), .val (.int f2x), .val (.int z2)] [])) _
          refine XS.iload X0.here hx rfl (hb hby d4_35) rfl ?_
          show Steps p.tables e below (s₁.setTop (mkF m 37 #[.val (.ref a1), .val (.int p2), .val (.int p3), .val (.int b0), .val (.int e0x), .val (.int f0x), .val (.int b1), .val (.int e1x), .val (.int f1x), .val (.int b2), .val (.int e2x), .val (.int f2x), .val (.int z2)] [(.int f1x)])) _
          refine XS.istore X0.here hx rfl (hb hby d4_37) rfl (l' := #[.val (.ref a1), .val (.int p2), .val (.int p3), .val (.int b0), .val (.int e0x), .val (.int f0x), .val (.int b1), .val (.int e1x), .val (.int f1x), .val (.int b2), .val (.int e2x), .val (.int f2x), .val (.int f1x)]) rfl ?_
          exact k
        · rw [show z5 = z2 from hz5.trans (by rw [if_neg hc26_6, if_neg hc32_7])] at k
          show Steps p.tables e below (s₁.setTop (mkF m 32 #[.val (.ref a1), .val (.int p2), .val (.int p3), .val (.int b0), .val (.int e0x), .val (.int f0x), .val (.int b1), .val (.int e1x), .val (.int f1x), .val (.int b2), .val (.int e2x), .val (.int f2x), .val (.int z2)] [(.int e1x), (.int p2)])) _
          refine XS.icmpYes X0.here hx rfl (pc0 := 32) (pc' := 39) rfl (hb hby d4_32) rfl (feq hc32_7).2 (by decide) (by decide) ?_
          exact k
    refine own_go (B := s₁.setTop (mkF m 41 #[.val (.ref a1), .val (.int p2), .val (.int p3), .val (.int b0), .val (.int e0x), .val (.int f0x), .val (.int b1), .val (.int e1x), .val (.int f1x), .val (.int b2), .val (.int e2x), .val (.int f2x), .val (.int z5)] [(.int b2)])) (fun t k => ?_) ?_
    · show Steps p.tables e below (s₁.setTop (mkF m 39 #[.val (.ref a1), .val (.int p2), .val (.int p3), .val (.int b0), .val (.int e0x), .val (.int f0x), .val (.int b1), .val (.int e1x), .val (.int f1x), .val (.int b2), .val (.int e2x), .val (.int f2x), .val (.int z5)] [])) _
      refine XS.iload X0.here hx rfl (hb hby d4_39) rfl ?_
      exact k
    obtain ⟨z8, hz8⟩ : ∃ q : Int32, q = (if b2 = (0 : Int32) then z5 else (if p2 = e2x then f2x else z5)) := ⟨_, rfl⟩
    refine own_go (B := s₁.setTop (mkF m 54 #[.val (.ref a1), .val (.int p2), .val (.int p3), .val (.int b0), .val (.int e0x), .val (.int f0x), .val (.int b1), .val (.int e1x), .val (.int f1x), .val (.int b2), .val (.int e2x), .val (.int f2x), .val (.int z8)] [])) (fun t k => ?_) ?_
    · by_cases hc41_9 : b2 = (0 : Int32)
      · rw [show z8 = z5 from hz8.trans (by rw [if_pos hc41_9])] at k
        show Steps p.tables e below (s₁.setTop (mkF m 41 #[.val (.ref a1), .val (.int p2), .val (.int p3), .val (.int b0), .val (.int e0x), .val (.int f0x), .val (.int b1), .val (.int e1x), .val (.int f1x), .val (.int b2), .val (.int e2x), .val (.int f2x), .val (.int z5)] [(.int b2)])) _
        refine XS.ifYes X0.here hx rfl (pc0 := 41) (pc' := 54) rfl (hb hby d4_41) rfl ((if0 _ _).trans (teq hc41_9).1) (by decide) (by decide) ?_
        exact k
      · show Steps p.tables e below (s₁.setTop (mkF m 41 #[.val (.ref a1), .val (.int p2), .val (.int p3), .val (.int b0), .val (.int e0x), .val (.int f0x), .val (.int b1), .val (.int e1x), .val (.int f1x), .val (.int b2), .val (.int e2x), .val (.int f2x), .val (.int z5)] [(.int b2)])) _
        refine XS.ifNo X0.here hx rfl (hb hby d4_41) rfl ((if0 _ _).trans (feq hc41_9).1) ?_
        show Steps p.tables e below (s₁.setTop (mkF m 44 #[.val (.ref a1), .val (.int p2), .val (.int p3), .val (.int b0), .val (.int e0x), .val (.int f0x), .val (.int b1), .val (.int e1x), .val (.int f1x), .val (.int b2), .val (.int e2x), .val (.int f2x), .val (.int z5)] [])) _
        refine XS.iloadN X0.here hx rfl (hb hby d4_44) rfl ?_
        show Steps p.tables e below (s₁.setTop (mkF m 45 #[.val (.ref a1), .val (.int p2), .val (.int p3), .val (.int b0), .val (.int e0x), .val (.int f0x), .val (.int b1), .val (.int e1x), .val (.int f1x), .val (.int b2), .val (.int e2x), .val (.int f2x), .val (.int z5)] [(.int p2)])) _
        refine XS.iload X0.here hx rfl (hb hby d4_45) rfl ?_
        by_cases hc47_10 : p2 = e2x
        · rw [show z8 = f2x from hz8.trans (by rw [if_neg hc41_9, if_pos hc47_10])] at k
          show Steps p.tables e below (s₁.setTop (mkF m 47 #[.val (.ref a1), .val (.int p2), .val (.int p3), .val (.int b0), .val (.int e0x), .val (.int f0x), .val (.int b1), .val (.int e1x), .val (.int f1x), .val (.int b2), .val (.int e2x), .val (.int f2x), .val (.int z5)] [(.int e2x), (.int p2)])) _
          refine XS.icmpNo X0.here hx rfl (hb hby d4_47) rfl (teq hc47_10).2 ?_
          show Steps p.tables e below (s₁.setTop (mkF m 50 #[.val (.ref a1), .val (.int p2), .val (.int p3), .val (.int b0), .val (.int e0x), .val (.int f0x), .val (.int b1), .val (.int e1x), .val (.int f1x), .val (.int b2), .val (.int e2x), .val (.int f2x), .val (.int z5)] [])) _
          refine XS.iload X0.here hx rfl (hb hby d4_50) rfl ?_
          show Steps p.tables e below (s₁.setTop (mkF m 52 #[.val (.ref a1), .val (.int p2), .val (.int p3), .val (.int b0), .val (.int e0x), .val (.int f0x), .val (.int b1), .val (.int e1x), .val (.int f1x), .val (.int b2), .val (.int e2x), .val (.int f2x), .val (.int z5)] [(.int f2x)])) _
          refine XS.istore X0.here hx rfl (hb hby d4_52) rfl (l' := #[.val (.ref a1), .val (.int p2), .val (.int p3), .val (.int b0), .val (.int e0x), .val (.int f0x), .val (.int b1), .val (.int e1x), .val (.int f1x), .val (.int b2), .val (.int e2x), .val (.int f2x), .val (.int f2x)]) rfl ?_
          exact k
        · rw [show z8 = z5 from hz8.trans (by rw [if_neg hc41_9, if_neg hc47_10])] at k
          show Steps p.tables e below (s₁.setTop (mkF m 47 #[.val (.ref a1), .val (.int p2), .val (.int p3), .val (.int b0), .val (.int e0x), .val (.int f0x), .val (.int b1), .val (.int e1x), .val (.int f1x), .val (.int b2), .val (.int e2x), .val (.int f2x), .val (.int z5)] [(.int e2x), (.int p2)])) _
          refine XS.icmpYes X0.here hx rfl (pc0 := 47) (pc' := 54) rfl (hb hby d4_47) rfl (feq hc47_10).2 (by decide) (by decide) ?_
          exact k
    refine own_go (B := s₁.setTop (mkF m 59 #[.val (.ref a1), .val (.int p2), .val (.int p3), .val (.int b0), .val (.int e0x), .val (.int f0x), .val (.int b1), .val (.int e1x), .val (.int f1x), .val (.int b2), .val (.int e2x), .val (.int f2x), .val (.int z8)] [(.int z8), (.int x1)])) (fun t k => ?_) ?_
    · show Steps p.tables e below (s₁.setTop (mkF m 54 #[.val (.ref a1), .val (.int p2), .val (.int p3), .val (.int b0), .val (.int e0x), .val (.int f0x), .val (.int b1), .val (.int e1x), .val (.int f1x), .val (.int b2), .val (.int e2x), .val (.int f2x), .val (.int z8)] [])) _
      refine XS.aloadN X0.here hx rfl (hb hby d4_54) rfl rfl ?_
      show Steps p.tables e below (s₁.setTop (mkF m 55 #[.val (.ref a1), .val (.int p2), .val (.int p3), .val (.int b0), .val (.int e0x), .val (.int f0x), .val (.int b1), .val (.int e1x), .val (.int f1x), .val (.int b2), .val (.int e2x), .val (.int f2x), .val (.int z8)] [(.ref a1)])) _
      refine XS.iloadN X0.here hx rfl (hb hby d4_55) rfl ?_
      show Steps p.tables e below (s₁.setTop (mkF m 56 #[.val (.ref a1), .val (.int p2), .val (.int p3), .val (.int b0), .val (.int e0x), .val (.int f0x), .val (.int b1), .val (.int e1x), .val (.int f1x), .val (.int b2), .val (.int e2x), .val (.int f2x), .val (.int z8)] [(.int p2), (.ref a1)])) _
      refine X0.iaload hx (j := p2) (v := (.int x1)) (by rw [e0]; exact Ar.1) (State.isArrayOf_alike hZ.alike Ar.2.1) Ar.2.2 (hin hc2_1) (hat hc2_1) (g := (mkF m 56 #[.val (.ref a1), .val (.int p2), .val (.int p3), .val (.int b0), .val (.int e0x), .val (.int f0x), .val (.int b1), .val (.int e1x), .val (.int f1x), .val (.int b2), .val (.int e2x), .val (.int f2x), .val (.int z8)] [(.int p2), (.ref a1)])) rfl rfl (hb hby d4_56) _ ?_
      show Steps p.tables e below (s₁.setTop (mkF m 57 #[.val (.ref a1), .val (.int p2), .val (.int p3), .val (.int b0), .val (.int e0x), .val (.int f0x), .val (.int b1), .val (.int e1x), .val (.int f1x), .val (.int b2), .val (.int e2x), .val (.int f2x), .val (.int z8)] [(.int x1)])) _
      refine XS.iload X0.here hx rfl (hb hby d4_57) rfl ?_
      exact k
    by_cases hc59_12 : x1 = z8
    · obtain ⟨fs, hr, hrun, hended, hW, hsame⟩ := X0.leave (v := some (.int (1 : Int32))) (fun h => by rw [Bd.returns] at h; cases h)
      refine ⟨_, _, ?_, hrun, hended, _, _, rfl, ?_, ⟨_, rfl⟩, hW, hsame.mono (by decide) (by decide)⟩
      · show Steps p.tables e below (s₁.setTop (mkF m 59 #[.val (.ref a1), .val (.int p2), .val (.int p3), .val (.int b0), .val (.int e0x), .val (.int f0x), .val (.int b1), .val (.int e1x), .val (.int f1x), .val (.int b2), .val (.int e2x), .val (.int f2x), .val (.int z8)] [(.int z8), (.int x1)])) _
        refine XS.icmpNo X0.here hx rfl (hb hby d4_59) rfl (teq hc59_12).2 ?_
        show Steps p.tables e below (s₁.setTop (mkF m 62 #[.val (.ref a1), .val (.int p2), .val (.int p3), .val (.int b0), .val (.int e0x), .val (.int f0x), .val (.int b1), .val (.int e1x), .val (.int f1x), .val (.int b2), .val (.int e2x), .val (.int f2x), .val (.int z8)] [])) _
        refine XS.iconst X0.here hx rfl (hb hby d4_62) ?_
        show Steps p.tables e below (s₁.setTop (mkF m 63 #[.val (.ref a1), .val (.int p2), .val (.int p3), .val (.int b0), .val (.int e0x), .val (.int f0x), .val (.int b1), .val (.int e1x), .val (.int f1x), .val (.int b2), .val (.int e2x), .val (.int f2x), .val (.int z8)] [(.int (1 : Int32))])) _
        refine XS.goto X0.here hx rfl (pc0 := 63) (pc' := 67) rfl (hb hby d4_63) (by decide) (by decide) ?_
        show Steps p.tables e below (s₁.setTop (mkF m 67 #[.val (.ref a1), .val (.int p2), .val (.int p3), .val (.int b0), .val (.int e0x), .val (.int f0x), .val (.int b1), .val (.int e1x), .val (.int f1x), .val (.int b2), .val (.int e2x), .val (.int f2x), .val (.int z8)] [(.int (1 : Int32))])) _
        exact retN X0 hx (t := .boolean) Bd.returns (by simp) (hb hby d4_67) hr
      · show Q4 Z a1 p2 p3 b0 e0x f0x b1 e1x f1x b2 e2x f2x x1 cl h0 n0 _ s₁.heap _
        rw [e0]
        exact ⟨by rw [own_at, if_pos hc2_1, if_pos (hc59_12.trans (by rw [hz8, hz5, hz2]; rfl))], N0, rfl⟩
    · obtain ⟨fs, hr, hrun, hended, hW, hsame⟩ := X0.leave (v := some (.int (0 : Int32))) (fun h => by rw [Bd.returns] at h; cases h)
      refine ⟨_, _, ?_, hrun, hended, _, _, rfl, ?_, ⟨_, rfl⟩, hW, hsame.mono (by decide) (by decide)⟩
      · show Steps p.tables e below (s₁.setTop (mkF m 59 #[.val (.ref a1), .val (.int p2), .val (.int p3), .val (.int b0), .val (.int e0x), .val (.int f0x), .val (.int b1), .val (.int e1x), .val (.int f1x), .val (.int b2), .val (.int e2x), .val (.int f2x), .val (.int z8)] [(.int z8), (.int x1)])) _
        refine XS.icmpYes X0.here hx rfl (pc0 := 59) (pc' := 66) rfl (hb hby d4_59) rfl (feq hc59_12).2 (by decide) (by decide) ?_
        show Steps p.tables e below (s₁.setTop (mkF m 66 #[.val (.ref a1), .val (.int p2), .val (.int p3), .val (.int b0), .val (.int e0x), .val (.int f0x), .val (.int b1), .val (.int e1x), .val (.int f1x), .val (.int b2), .val (.int e2x), .val (.int f2x), .val (.int z8)] [])) _
        refine XS.iconst X0.here hx rfl (hb hby d4_66) ?_
        show Steps p.tables e below (s₁.setTop (mkF m 67 #[.val (.ref a1), .val (.int p2), .val (.int p3), .val (.int b0), .val (.int e0x), .val (.int f0x), .val (.int b1), .val (.int e1x), .val (.int f1x), .val (.int b2), .val (.int e2x), .val (.int f2x), .val (.int z8)] [(.int (0 : Int32))])) _
        exact retN X0 hx (t := .boolean) Bd.returns (by simp) (hb hby d4_67) hr
      · show Q4 Z a1 p2 p3 b0 e0x f0x b1 e1x f1x b2 e2x f2x x1 cl h0 n0 _ s₁.heap _
        rw [e0]
        exact ⟨by rw [own_at, if_pos hc2_1, if_neg (fun q => hc59_12 (q.trans (Eq.symm (by rw [hz8, hz5, hz2]; rfl))))], N0, rfl⟩
  · obtain ⟨fs, hr, hrun, hended, hW, hsame⟩ := X0.leave (v := some (.int (1 : Int32))) (fun h => by rw [Bd.returns] at h; cases h)
    refine ⟨_, _, ?_, hrun, hended, _, _, rfl, ?_, ⟨_, rfl⟩, hW, hsame.mono (by decide) (by decide)⟩
    · show Steps p.tables e below (s₁.setTop (mkF m 2 #[.val (.ref a1), .val (.int p2), .val (.int p3), .val (.int b0), .val (.int e0x), .val (.int f0x), .val (.int b1), .val (.int e1x), .val (.int f1x), .val (.int b2), .val (.int e2x), .val (.int f2x), .unset] [(.int p3), (.int p2)])) _
      refine XS.icmpNo X0.here hx rfl (hb hby d4_2) rfl (flt hc2_1).1 ?_
      show Steps p.tables e below (s₁.setTop (mkF m 5 #[.val (.ref a1), .val (.int p2), .val (.int p3), .val (.int b0), .val (.int e0x), .val (.int f0x), .val (.int b1), .val (.int e1x), .val (.int f1x), .val (.int b2), .val (.int e2x), .val (.int f2x), .unset] [])) _
      refine XS.iconst X0.here hx rfl (hb hby d4_5) ?_
      show Steps p.tables e below (s₁.setTop (mkF m 6 #[.val (.ref a1), .val (.int p2), .val (.int p3), .val (.int b0), .val (.int e0x), .val (.int f0x), .val (.int b1), .val (.int e1x), .val (.int f1x), .val (.int b2), .val (.int e2x), .val (.int f2x), .unset] [(.int (1 : Int32))])) _
      exact retN X0 hx (t := .boolean) Bd.returns (by simp) (hb hby d4_6) hr
    · show Q4 Z a1 p2 p3 b0 e0x f0x b1 e1x f1x b2 e2x f2x x1 cl h0 n0 _ s₁.heap _
      rw [e0]
      exact ⟨by rw [own_at, if_neg hc2_1], N0, rfl⟩
theorem own_in {z bit d dc : Int32} (h : z = (if bit = (0 : Int32) then (0 : Int32) else (if d < dc then (1 : Int32) else (0 : Int32)))) (hz : ¬ z = (0 : Int32)) : d < dc := by
  by_cases a : bit = 0
  · rw [if_pos a] at h; exact absurd h hz
  · rw [if_neg a] at h
    by_cases b : d < dc
    · exact b
    · rw [if_neg b] at h; exact absurd h hz
theorem own_dc (x : Int32) : 0 ≤ ((x &&& (2147483647 : Int32)) % (9 : Int32)).toInt ∧ ((x &&& (2147483647 : Int32)) % (9 : Int32)).toInt ≤ 8 := by
  have h := c_mask x 2147483647 31 (by decide) (by decide)
  have h2 := (c_irem (x &&& (2147483647 : Int32)) 9 9 (by decide)).1 (by omega)
  omega
theorem own_b1 (x : Int32) : 0 ≤ (x &&& (1 : Int32)).toInt ∧ (x &&& (1 : Int32)).toInt ≤ 1 := by
  have h := c_mask x 1 1 (by decide) (by decide)
  omega
theorem own_b3 (x : Int32) : 0 ≤ (x &&& (3 : Int32)).toInt ∧ (x &&& (3 : Int32)).toInt ≤ 3 := by
  have h := c_mask x 3 2 (by decide) (by decide)
  omega
theorem own_nx (d y : Int32) (h : 0 ≤ d.toInt) (h' : d.toInt ≤ 100) : 0 ≤ ((d + (1 : Int32)) + (y &&& (1 : Int32))).toInt ∧ ((d + (1 : Int32)) + (y &&& (1 : Int32))).toInt ≤ d.toInt + 2 := by
  have a := own_b1 y
  have k : (1 : Int32).toInt = 1 := by decide
  have b := c_iadd d 1
  have b' := rng32 (d + 1)
  have c := c_iadd (d + 1) (y &&& 1)
  have c' := rng32 ((d + 1) + (y &&& 1))
  omega
theorem own_cap (y : Int32) : 1 ≤ ((1 : Int32) + (y &&& (3 : Int32))).toInt ∧ ((1 : Int32) + (y &&& (3 : Int32))).toInt ≤ 4 := by
  have a := own_b3 y
  have k : (1 : Int32).toInt = 1 := by decide
  have b := c_iadd 1 (y &&& 3)
  have b' := rng32 ((1 : Int32) + (y &&& 3))
  omega
theorem own_nneg {x : Int32} (h : 0 ≤ x.toInt) : ¬ x < 0 := by
  rw [Int32.lt_iff_toInt_lt]
  have k : (0 : Int32).toInt = 0 := by decide
  omega
theorem own_clamp {x : Int32} {k : Nat} (h : 0 ≤ x.toInt) (h' : x.toInt ≤ k) : ¬ x < 0 ∧ x.toNatClampNeg ≤ k := by
  refine ⟨own_nneg h, ?_⟩
  simp only [Int32.toNatClampNeg]
  omega
theorem own_ltI {a b : Int32} (h : a.toInt < b.toInt) : a < b := by rw [Int32.lt_iff_toInt_lt]; exact h
theorem own_neI {a b : Int32} (h : ¬ a = b) : ¬ a.toInt = b.toInt := fun q => h (Int32.toInt_inj.mp q)
theorem own_toI {a b : Int32} (h : a < b) : a.toInt < b.toInt := by rw [Int32.lt_iff_toInt_lt] at h; exact h
theorem pn_0 : plainName "com/example/libqlm/libqlm/PostingsFrequenciesByDocumentPinLaw" = true := by first | (simp [plainName, overriddenIn]; done) | decide +kernel
theorem ef_0 (m : MethodId) (x0 : Int32) (x1 : Int32) (x2 : Int32) (x3 : Int32) (x4 : Int32) (x5 : Int32) : entryFrame m #[(.int x0), (.int x1), (.int x2), (.int x3), (.int x4), (.int x5)] maxLocals = mkF m 0 #[.val (.int x0), .val (.int x1), .val (.int x2), .val (.int x3), .val (.int x4), .val (.int x5), .unset, .unset, .unset, .unset, .unset, .unset, .unset, .unset, .unset, .unset] [] := by first | (simp [entryFrame, mkF, argsToLocals, Value.category, maxLocals]; done) | rfl
def Q0 (Z : State) (p1 : Int32) (p2 : Int32) (p3 : Int32) (p4 : Int32) (p5 : Int32) (p6 : Int32) (h0 : Heap) (n0 : Nat) (v : Option Value) (h : Heap) (L : List Loc) : Prop := v = some (.int 1) ∧ Fr n0 L
set_option maxRecDepth 65536 in
set_option maxHeartbeats 40000000 in
theorem own_tail {p : Program} {l : Launch} {e : Env} {s : State} {m : MethodId} {args : Array Value} {below : List Frame} {meth : Method} {c : Code} {s₁ T0 : State} {locs : List Loc} {cells slots n0 : Nat} {Z : State} {a0 : Array Value} {h0 : Heap} {ws : List Jvm.Cond} (p1 p2 p3 p4 p5 p6 vdc vd0 vd1 vd2 z0 z1 z2 vcap : Int32) (pp rr : Addr) (kr : ClassId) (hs : List (Int32 × Int32))
    (X0 : Stand p l e room_1 s m args below meth c T0 locs cells slots) (hx : p.tables.exec = Jvm.exec) (hZ : Z.Warmed39 s.vm) (hw : ∀ d ∈ tables_1, d.before a0 Z = true) (hby : c.code = code) (hml : c.maxLocals = 16) (hown : s.vm.findClass "com/example/libqlm/libqlm/PostingsFrequenciesByDocumentPinLaw" = some m.cls) (Bd : BodyLoose p l x (head1 (Jvm.Cond.code x code maxLocals ret :: ws) room_1) code maxLocals ret e s m args below meth c s₁)
    (e0 : T0.heap = h0) (N0 : Fr n0 locs) (Z0 : n0 ≤ h0.size) (hcl : cells ≤ 24) (hsl : slots ≤ 128) (V_r : Arh Z h0 rr kr .int vdc (hs.map fun q => (q.1, Value.int q.2)) [] (.int (0 : Int32))) (hok : ∀ i, own_gv hs i = own_e i z0 vd0 p3 z1 vd1 p4 z2 vd2 p5) :
    ∃ s₂ o, Steps p.tables e below (T0.setTop (mkF m 192 #[.val (.int p1), .val (.int p2), .val (.int p3), .val (.int p4), .val (.int p5), .val (.int p6), .val (.int vdc), .val (.int vd0), .val (.int vd1), .val (.int vd2), .val (.int z0), .val (.int z1), .val (.int z2), .val (.int vcap), .val (.ref pp), .val (.ref rr)] [])) s₂ ∧ s₂.status = .running ∧ Ended s₂ below o ∧ ∃ v L, o = .returned v ∧ Q0 Z p1 p2 p3 p4 p5 p6 h0 n0 v s₂.heap L ∧ FrameEnd s o s₂ L room_1.cells room_1.slots := by
  obtain ⟨cl_r, Ar_r, q_r, S_r, M_r, H_r, G_r⟩ := V_r
  refine own_go (B := T0.setTop (mkF m 213 #[.val (.int p1), .val (.int p2), .val (.int p3), .val (.int p4), .val (.int p5), .val (.int p6), .val (.int vdc), .val (.int vd0), .val (.int vd1), .val (.int vd2), .val (.int z0), .val (.int z1), .val (.int z2), .val (.int vcap), .val (.ref pp), .val (.ref rr)] [(.int p5), (.int vd2), (.int z2), (.int p4), (.int vd1), (.int z1), (.int p3), (.int vd0), (.int z0), (.int vdc), (.int (0 : Int32)), (.ref rr)])) (fun t k => ?_) ?_
  · show Steps p.tables e below (T0.setTop (mkF m 192 #[.val (.int p1), .val (.int p2), .val (.int p3), .val (.int p4), .val (.int p5), .val (.int p6), .val (.int vdc), .val (.int vd0), .val (.int vd1), .val (.int vd2), .val (.int z0), .val (.int z1), .val (.int z2), .val (.int vcap), .val (.ref pp), .val (.ref rr)] [])) _
    refine XS.aload X0.here hx rfl (hb hby at_192) rfl rfl ?_
    show Steps p.tables e below (T0.setTop (mkF m 194 #[.val (.int p1), .val (.int p2), .val (.int p3), .val (.int p4), .val (.int p5), .val (.int p6), .val (.int vdc), .val (.int vd0), .val (.int vd1), .val (.int vd2), .val (.int z0), .val (.int z1), .val (.int z2), .val (.int vcap), .val (.ref pp), .val (.ref rr)] [(.ref rr)])) _
    refine XS.iconst X0.here hx rfl (hb hby at_194) ?_
    show Steps p.tables e below (T0.setTop (mkF m 195 #[.val (.int p1), .val (.int p2), .val (.int p3), .val (.int p4), .val (.int p5), .val (.int p6), .val (.int vdc), .val (.int vd0), .val (.int vd1), .val (.int vd2), .val (.int z0), .val (.int z1), .val (.int z2), .val (.int vcap), .val (.ref pp), .val (.ref rr)] [(.int (0 : Int32)), (.ref rr)])) _
    refine XS.iload X0.here hx rfl (hb hby at_195) rfl ?_
    show Steps p.tables e below (T0.setTop (mkF m 197 #[.val (.int p1), .val (.int p2), .val (.int p3), .val (.int p4), .val (.int p5), .val (.int p6), .val (.int vdc), .val (.int vd0), .val (.int vd1), .val (.int vd2), .val (.int z0), .val (.int z1), .val (.int z2), .val (.int vcap), .val (.ref pp), .val (.ref rr)] [(.int vdc), (.int (0 : Int32)), (.ref rr)])) _
    refine XS.iload X0.here hx rfl (hb hby at_197) rfl ?_
    show Steps p.tables e below (T0.setTop (mkF m 199 #[.val (.int p1), .val (.int p2), .val (.int p3), .val (.int p4), .val (.int p5), .val (.int p6), .val (.int vdc), .val (.int vd0), .val (.int vd1), .val (.int vd2), .val (.int z0), .val (.int z1), .val (.int z2), .val (.int vcap), .val (.ref pp), .val (.ref rr)] [(.int z0), (.int vdc), (.int (0 : Int32)), (.ref rr)])) _
    refine XS.iload X0.here hx rfl (hb hby at_199) rfl ?_
    show Steps p.tables e below (T0.setTop (mkF m 201 #[.val (.int p1), .val (.int p2), .val (.int p3), .val (.int p4), .val (.int p5), .val (.int p6), .val (.int vdc), .val (.int vd0), .val (.int vd1), .val (.int vd2), .val (.int z0), .val (.int z1), .val (.int z2), .val (.int vcap), .val (.ref pp), .val (.ref rr)] [(.int vd0), (.int z0), (.int vdc), (.int (0 : Int32)), (.ref rr)])) _
    refine XS.iloadN X0.here hx rfl (hb hby at_201) rfl ?_
    show Steps p.tables e below (T0.setTop (mkF m 202 #[.val (.int p1), .val (.int p2), .val (.int p3), .val (.int p4), .val (.int p5), .val (.int p6), .val (.int vdc), .val (.int vd0), .val (.int vd1), .val (.int vd2), .val (.int z0), .val (.int z1), .val (.int z2), .val (.int vcap), .val (.ref pp), .val (.ref rr)] [(.int p3), (.int vd0), (.int z0), (.int vdc), (.int (0 : Int32)), (.ref rr)])) _
    refine XS.iload X0.here hx rfl (hb hby at_202) rfl ?_
    show Steps p.tables e below (T0.setTop (mkF m 204 #[.val (.int p1), .val (.int p2), .val (.int p3), .val (.int p4), .val (.int p5), .val (.int p6), .val (.int vdc), .val (.int vd0), .val (.int vd1), .val (.int vd2), .val (.int z0), .val (.int z1), .val (.int z2), .val (.int vcap), .val (.ref pp), .val (.ref rr)] [(.int z1), (.int p3), (.int vd0), (.int z0), (.int vdc), (.int (0 : Int32)), (.ref rr)])) _
    refine XS.iload X0.here hx rfl (hb hby at_204) rfl ?_
    show Steps p.tables e below (T0.setTop (mkF m 206 #[.val (.int p1), .val (.int p2), .val (.int p3), .val (.int p4), .val (.int p5), .val (.int p6), .val (.int vdc), .val (.int vd0), .val (.int vd1), .val (.int vd2), .val (.int z0), .val (.int z1), .val (.int z2), .val (.int vcap), .val (.ref pp), .val (.ref rr)] [(.int vd1), (.int z1), (.int p3), (.int vd0), (.int z0), (.int vdc), (.int (0 : Int32)), (.ref rr)])) _
    refine XS.iloadN X0.here hx rfl (hb hby at_206) rfl ?_
    show Steps p.tables e below (T0.setTop (mkF m 207 #[.val (.int p1), .val (.int p2), .val (.int p3), .val (.int p4), .val (.int p5), .val (.int p6), .val (.int vdc), .val (.int vd0), .val (.int vd1), .val (.int vd2), .val (.int z0), .val (.int z1), .val (.int z2), .val (.int vcap), .val (.ref pp), .val (.ref rr)] [(.int p4), (.int vd1), (.int z1), (.int p3), (.int vd0), (.int z0), (.int vdc), (.int (0 : Int32)), (.ref rr)])) _
    refine XS.iload X0.here hx rfl (hb hby at_207) rfl ?_
    show Steps p.tables e below (T0.setTop (mkF m 209 #[.val (.int p1), .val (.int p2), .val (.int p3), .val (.int p4), .val (.int p5), .val (.int p6), .val (.int vdc), .val (.int vd0), .val (.int vd1), .val (.int vd2), .val (.int z0), .val (.int z1), .val (.int z2), .val (.int vcap), .val (.ref pp), .val (.ref rr)] [(.int z2), (.int p4), (.int vd1), (.int z1), (.int p3), (.int vd0), (.int z0), (.int vdc), (.int (0 : Int32)), (.ref rr)])) _
    refine XS.iload X0.here hx rfl (hb hby at_209) rfl ?_
    show Steps p.tables e below (T0.setTop (mkF m 211 #[.val (.int p1), .val (.int p2), .val (.int p3), .val (.int p4), .val (.int p5), .val (.int p6), .val (.int vdc), .val (.int vd0), .val (.int vd1), .val (.int vd2), .val (.int z0), .val (.int z1), .val (.int z2), .val (.int vcap), .val (.ref pp), .val (.ref rr)] [(.int vd2), (.int z2), (.int p4), (.int vd1), (.int z1), (.int p3), (.int vd0), (.int z0), (.int vdc), (.int (0 : Int32)), (.ref rr)])) _
    refine XS.iload X0.here hx rfl (hb hby at_211) rfl ?_
    exact k
  obtain ⟨_, _, ⟨T1, L1, k1, n1⟩, -, X1, ⟨Lc1, hQ1, l1, y1, z1⟩, st1⟩ := Jvm.LawKit.callS X0 hx (y := (⟨"com/example/libqlm/libqlm/PostingsFrequenciesByDocumentPinLaw", "at", "([IIIZIIZIIZII)Z"⟩ : MethodName)) hown (mvT hZ (hw _ (List.mem_of_getElem? (i := 24) rfl))) (mvT hZ (hw _ (List.mem_of_getElem? (i := 25) rfl))) (mvT hZ (hw _ (List.mem_of_getElem? (i := 26) rfl))) (mvT hZ (hw _ (List.mem_of_getElem? (i := 27) rfl))) (by decide) (backOf (W := 0) (rm4 l Z a0 hw [] rr (0 : Int32) vdc z0 vd0 p3 z1 vd1 p4 z2 vd2 p5 (own_gv hs (0 : Int32)) cl_r h0 n0 Z0 Ar_r (fun q => inb_of S_r ⟨by decide, q⟩) (fun q => atH H_r (inb_of S_r ⟨by decide, q⟩) (own_getH hs (0 : Int32) (by decide)))) hZ (hw _ (List.mem_of_getElem? (i := 27) rfl)) (hw _ (List.mem_of_getElem? (i := 26) rfl)) (by decide) (by decide)) (g := (mkF m 213 #[.val (.int p1), .val (.int p2), .val (.int p3), .val (.int p4), .val (.int p5), .val (.int p6), .val (.int vdc), .val (.int vd0), .val (.int vd1), .val (.int vd2), .val (.int z0), .val (.int z1), .val (.int z2), .val (.int vcap), .val (.ref pp), .val (.ref rr)] [(.int p5), (.int vd2), (.int z2), (.int p4), (.int vd1), (.int z1), (.int p3), (.int vd0), (.int z0), (.int vdc), (.int (0 : Int32)), (.ref rr)])) rfl (by rw [hml]; rfl) (argsL := [(.ref rr), (.int (0 : Int32)), (.int vdc), (.int z0), (.int vd0), (.int p3), (.int z1), (.int vd1), (.int p4), (.int z2), (.int vd2), (.int p5)]) (rest := []) (lenOf own_pd2 rfl) rfl (by show 2 * 0 + _ ≤ _; exact Nat.le_of_eq rfl) (hb hby at_213) (fun _ _ => ⟨rfl, e0, hcl, hsl⟩)
  dsimp only [Pt.U, Pt.locs, Pt.cells, Pt.slots] at X1 l1 y1 z1 st1 hQ1
  subst l1 y1 z1
  obtain ⟨rfl, N1q, eq1⟩ := hQ1
  have N1 := Fr.app N0 N1q
  refine own_go (B := T1.setTop (mkF m 216 #[.val (.int p1), .val (.int p2), .val (.int p3), .val (.int p4), .val (.int p5), .val (.int p6), .val (.int vdc), .val (.int vd0), .val (.int vd1), .val (.int vd2), .val (.int z0), .val (.int z1), .val (.int z2), .val (.int vcap), .val (.ref pp), .val (.ref rr)] [(.int (own_at (own_gv hs (0 : Int32)) (0 : Int32) vdc z0 vd0 p3 z1 vd1 p4 z2 vd2 p5))])) (fun t k => st1 _ k) ?_
  refine own_go (B := T1.setTop (mkF m 240 #[.val (.int p1), .val (.int p2), .val (.int p3), .val (.int p4), .val (.int p5), .val (.int p6), .val (.int vdc), .val (.int vd0), .val (.int vd1), .val (.int vd2), .val (.int z0), .val (.int z1), .val (.int z2), .val (.int vcap), .val (.ref pp), .val (.ref rr)] [(.int p5), (.int vd2), (.int z2), (.int p4), (.int vd1), (.int z1), (.int p3), (.int vd0), (.int z0), (.int vdc), (.int (1 : Int32)), (.ref rr)])) (fun t k => ?_) ?_
  · show Steps p.tables e below (T1.setTop (mkF m 216 #[.val (.int p1), .val (.int p2), .val (.int p3), .val (.int p4), .val (.int p5), .val (.int p6), .val (.int vdc), .val (.int vd0), .val (.int vd1), .val (.int vd2), .val (.int z0), .val (.int z1), .val (.int z2), .val (.int vcap), .val (.ref pp), .val (.ref rr)] [(.int (own_at (own_gv hs (0 : Int32)) (0 : Int32) vdc z0 vd0 p3 z1 vd1 p4 z2 vd2 p5))])) _
    refine XS.ifNo X1.here hx rfl (hb hby at_216) rfl ((if0 _ _).trans (feq (own_at_ok (hok _))).1) ?_
    show Steps p.tables e below (T1.setTop (mkF m 219 #[.val (.int p1), .val (.int p2), .val (.int p3), .val (.int p4), .val (.int p5), .val (.int p6), .val (.int vdc), .val (.int vd0), .val (.int vd1), .val (.int vd2), .val (.int z0), .val (.int z1), .val (.int z2), .val (.int vcap), .val (.ref pp), .val (.ref rr)] [])) _
    refine XS.aload X1.here hx rfl (hb hby at_219) rfl rfl ?_
    show Steps p.tables e below (T1.setTop (mkF m 221 #[.val (.int p1), .val (.int p2), .val (.int p3), .val (.int p4), .val (.int p5), .val (.int p6), .val (.int vdc), .val (.int vd0), .val (.int vd1), .val (.int vd2), .val (.int z0), .val (.int z1), .val (.int z2), .val (.int vcap), .val (.ref pp), .val (.ref rr)] [(.ref rr)])) _
    refine XS.iconst X1.here hx rfl (hb hby at_221) ?_
    show Steps p.tables e below (T1.setTop (mkF m 222 #[.val (.int p1), .val (.int p2), .val (.int p3), .val (.int p4), .val (.int p5), .val (.int p6), .val (.int vdc), .val (.int vd0), .val (.int vd1), .val (.int vd2), .val (.int z0), .val (.int z1), .val (.int z2), .val (.int vcap), .val (.ref pp), .val (.ref rr)] [(.int (1 : Int32)), (.ref rr)])) _
    refine XS.iload X1.here hx rfl (hb hby at_222) rfl ?_
    show Steps p.tables e below (T1.setTop (mkF m 224 #[.val (.int p1), .val (.int p2), .val (.int p3), .val (.int p4), .val (.int p5), .val (.int p6), .val (.int vdc), .val (.int vd0), .val (.int vd1), .val (.int vd2), .val (.int z0), .val (.int z1), .val (.int z2), .val (.int vcap), .val (.ref pp), .val (.ref rr)] [(.int vdc), (.int (1 : Int32)), (.ref rr)])) _
    refine XS.iload X1.here hx rfl (hb hby at_224) rfl ?_
    show Steps p.tables e below (T1.setTop (mkF m 226 #[.val (.int p1), .val (.int p2), .val (.int p3), .val (.int p4), .val (.int p5), .val (.int p6), .val (.int vdc), .val (.int vd0), .val (.int vd1), .val (.int vd2), .val (.int z0), .val (.int z1), .val (.int z2), .val (.int vcap), .val (.ref pp), .val (.ref rr)] [(.int z0), (.int vdc), (.int (1 : Int32)), (.ref rr)])) _
    refine XS.iload X1.here hx rfl (hb hby at_226) rfl ?_
    show Steps p.tables e below (T1.setTop (mkF m 228 #[.val (.int p1), .val (.int p2), .val (.int p3), .val (.int p4), .val (.int p5), .val (.int p6), .val (.int vdc), .val (.int vd0), .val (.int vd1), .val (.int vd2), .val (.int z0), .val (.int z1), .val (.int z2), .val (.int vcap), .val (.ref pp), .val (.ref rr)] [(.int vd0), (.int z0), (.int vdc), (.int (1 : Int32)), (.ref rr)])) _
    refine XS.iloadN X1.here hx rfl (hb hby at_228) rfl ?_
    show Steps p.tables e below (T1.setTop (mkF m 229 #[.val (.int p1), .val (.int p2), .val (.int p3), .val (.int p4), .val (.int p5), .val (.int p6), .val (.int vdc), .val (.int vd0), .val (.int vd1), .val (.int vd2), .val (.int z0), .val (.int z1), .val (.int z2), .val (.int vcap), .val (.ref pp), .val (.ref rr)] [(.int p3), (.int vd0), (.int z0), (.int vdc), (.int (1 : Int32)), (.ref rr)])) _
    refine XS.iload X1.here hx rfl (hb hby at_229) rfl ?_
    show Steps p.tables e below (T1.setTop (mkF m 231 #[.val (.int p1), .val (.int p2), .val (.int p3), .val (.int p4), .val (.int p5), .val (.int p6), .val (.int vdc), .val (.int vd0), .val (.int vd1), .val (.int vd2), .val (.int z0), .val (.int z1), .val (.int z2), .val (.int vcap), .val (.ref pp), .val (.ref rr)] [(.int z1), (.int p3), (.int vd0), (.int z0), (.int vdc), (.int (1 : Int32)), (.ref rr)])) _
    refine XS.iload X1.here hx rfl (hb hby at_231) rfl ?_
    show Steps p.tables e below (T1.setTop (mkF m 233 #[.val (.int p1), .val (.int p2), .val (.int p3), .val (.int p4), .val (.int p5), .val (.int p6), .val (.int vdc), .val (.int vd0), .val (.int vd1), .val (.int vd2), .val (.int z0), .val (.int z1), .val (.int z2), .val (.int vcap), .val (.ref pp), .val (.ref rr)] [(.int vd1), (.int z1), (.int p3), (.int vd0), (.int z0), (.int vdc), (.int (1 : Int32)), (.ref rr)])) _
    refine XS.iloadN X1.here hx rfl (hb hby at_233) rfl ?_
    show Steps p.tables e below (T1.setTop (mkF m 234 #[.val (.int p1), .val (.int p2), .val (.int p3), .val (.int p4), .val (.int p5), .val (.int p6), .val (.int vdc), .val (.int vd0), .val (.int vd1), .val (.int vd2), .val (.int z0), .val (.int z1), .val (.int z2), .val (.int vcap), .val (.ref pp), .val (.ref rr)] [(.int p4), (.int vd1), (.int z1), (.int p3), (.int vd0), (.int z0), (.int vdc), (.int (1 : Int32)), (.ref rr)])) _
    refine XS.iload X1.here hx rfl (hb hby at_234) rfl ?_
    show Steps p.tables e below (T1.setTop (mkF m 236 #[.val (.int p1), .val (.int p2), .val (.int p3), .val (.int p4), .val (.int p5), .val (.int p6), .val (.int vdc), .val (.int vd0), .val (.int vd1), .val (.int vd2), .val (.int z0), .val (.int z1), .val (.int z2), .val (.int vcap), .val (.ref pp), .val (.ref rr)] [(.int z2), (.int p4), (.int vd1), (.int z1), (.int p3), (.int vd0), (.int z0), (.int vdc), (.int (1 : Int32)), (.ref rr)])) _
    refine XS.iload X1.here hx rfl (hb hby at_236) rfl ?_
    show Steps p.tables e below (T1.setTop (mkF m 238 #[.val (.int p1), .val (.int p2), .val (.int p3), .val (.int p4), .val (.int p5), .val (.int p6), .val (.int vdc), .val (.int vd0), .val (.int vd1), .val (.int vd2), .val (.int z0), .val (.int z1), .val (.int z2), .val (.int vcap), .val (.ref pp), .val (.ref rr)] [(.int vd2), (.int z2), (.int p4), (.int vd1), (.int z1), (.int p3), (.int vd0), (.int z0), (.int vdc), (.int (1 : Int32)), (.ref rr)])) _
    refine XS.iload X1.here hx rfl (hb hby at_238) rfl ?_
    exact k
  obtain ⟨_, _, ⟨T2, L2, k2, n2⟩, -, X2, ⟨Lc2, hQ2, l2, y2, z2⟩, st2⟩ := Jvm.LawKit.callS X1 hx (y := (⟨"com/example/libqlm/libqlm/PostingsFrequenciesByDocumentPinLaw", "at", "([IIIZIIZIIZII)Z"⟩ : MethodName)) hown (mvT hZ (hw _ (List.mem_of_getElem? (i := 24) rfl))) (mvT hZ (hw _ (List.mem_of_getElem? (i := 25) rfl))) (mvT hZ (hw _ (List.mem_of_getElem? (i := 26) rfl))) (mvT hZ (hw _ (List.mem_of_getElem? (i := 27) rfl))) (by decide) (backOf (W := 0) (rm4 l Z a0 hw [] rr (1 : Int32) vdc z0 vd0 p3 z1 vd1 p4 z2 vd2 p5 (own_gv hs (1 : Int32)) cl_r h0 n0 Z0 Ar_r (fun q => inb_of S_r ⟨by decide, q⟩) (fun q => atH H_r (inb_of S_r ⟨by decide, q⟩) (own_getH hs (1 : Int32) (by decide)))) hZ (hw _ (List.mem_of_getElem? (i := 27) rfl)) (hw _ (List.mem_of_getElem? (i := 26) rfl)) (by decide) (by decide)) (g := (mkF m 240 #[.val (.int p1), .val (.int p2), .val (.int p3), .val (.int p4), .val (.int p5), .val (.int p6), .val (.int vdc), .val (.int vd0), .val (.int vd1), .val (.int vd2), .val (.int z0), .val (.int z1), .val (.int z2), .val (.int vcap), .val (.ref pp), .val (.ref rr)] [(.int p5), (.int vd2), (.int z2), (.int p4), (.int vd1), (.int z1), (.int p3), (.int vd0), (.int z0), (.int vdc), (.int (1 : Int32)), (.ref rr)])) rfl (by rw [hml]; rfl) (argsL := [(.ref rr), (.int (1 : Int32)), (.int vdc), (.int z0), (.int vd0), (.int p3), (.int z1), (.int vd1), (.int p4), (.int z2), (.int vd2), (.int p5)]) (rest := []) (lenOf own_pd2 rfl) rfl (by show 2 * 0 + _ ≤ _; exact Nat.le_of_eq rfl) (hb hby at_240) (fun _ _ => ⟨rfl, eq1, hcl, hsl⟩)
  dsimp only [Pt.U, Pt.locs, Pt.cells, Pt.slots] at X2 l2 y2 z2 st2 hQ2
  subst l2 y2 z2
  obtain ⟨rfl, N2q, eq2⟩ := hQ2
  have N2 := Fr.app N1 N2q
  refine own_go (B := T2.setTop (mkF m 243 #[.val (.int p1), .val (.int p2), .val (.int p3), .val (.int p4), .val (.int p5), .val (.int p6), .val (.int vdc), .val (.int vd0), .val (.int vd1), .val (.int vd2), .val (.int z0), .val (.int z1), .val (.int z2), .val (.int vcap), .val (.ref pp), .val (.ref rr)] [(.int (own_at (own_gv hs (1 : Int32)) (1 : Int32) vdc z0 vd0 p3 z1 vd1 p4 z2 vd2 p5))])) (fun t k => st2 _ k) ?_
  refine own_go (B := T2.setTop (mkF m 267 #[.val (.int p1), .val (.int p2), .val (.int p3), .val (.int p4), .val (.int p5), .val (.int p6), .val (.int vdc), .val (.int vd0), .val (.int vd1), .val (.int vd2), .val (.int z0), .val (.int z1), .val (.int z2), .val (.int vcap), .val (.ref pp), .val (.ref rr)] [(.int p5), (.int vd2), (.int z2), (.int p4), (.int vd1), (.int z1), (.int p3), (.int vd0), (.int z0), (.int vdc), (.int (2 : Int32)), (.ref rr)])) (fun t k => ?_) ?_
  · show Steps p.tables e below (T2.setTop (mkF m 243 #[.val (.int p1), .val (.int p2), .val (.int p3), .val (.int p4), .val (.int p5), .val (.int p6), .val (.int vdc), .val (.int vd0), .val (.int vd1), .val (.int vd2), .val (.int z0), .val (.int z1), .val (.int z2), .val (.int vcap), .val (.ref pp), .val (.ref rr)] [(.int (own_at (own_gv hs (1 : Int32)) (1 : Int32) vdc z0 vd0 p3 z1 vd1 p4 z2 vd2 p5))])) _
    refine XS.ifNo X2.here hx rfl (hb hby at_243) rfl ((if0 _ _).trans (feq (own_at_ok (hok _))).1) ?_
    show Steps p.tables e below (T2.setTop (mkF m 246 #[.val (.int p1), .val (.int p2), .val (.int p3), .val (.int p4), .val (.int p5), .val (.int p6), .val (.int vdc), .val (.int vd0), .val (.int vd1), .val (.int vd2), .val (.int z0), .val (.int z1), .val (.int z2), .val (.int vcap), .val (.ref pp), .val (.ref rr)] [])) _
    refine XS.aload X2.here hx rfl (hb hby at_246) rfl rfl ?_
    show Steps p.tables e below (T2.setTop (mkF m 248 #[.val (.int p1), .val (.int p2), .val (.int p3), .val (.int p4), .val (.int p5), .val (.int p6), .val (.int vdc), .val (.int vd0), .val (.int vd1), .val (.int vd2), .val (.int z0), .val (.int z1), .val (.int z2), .val (.int vcap), .val (.ref pp), .val (.ref rr)] [(.ref rr)])) _
    refine XS.iconst X2.here hx rfl (hb hby at_248) ?_
    show Steps p.tables e below (T2.setTop (mkF m 249 #[.val (.int p1), .val (.int p2), .val (.int p3), .val (.int p4), .val (.int p5), .val (.int p6), .val (.int vdc), .val (.int vd0), .val (.int vd1), .val (.int vd2), .val (.int z0), .val (.int z1), .val (.int z2), .val (.int vcap), .val (.ref pp), .val (.ref rr)] [(.int (2 : Int32)), (.ref rr)])) _
    refine XS.iload X2.here hx rfl (hb hby at_249) rfl ?_
    show Steps p.tables e below (T2.setTop (mkF m 251 #[.val (.int p1), .val (.int p2), .val (.int p3), .val (.int p4), .val (.int p5), .val (.int p6), .val (.int vdc), .val (.int vd0), .val (.int vd1), .val (.int vd2), .val (.int z0), .val (.int z1), .val (.int z2), .val (.int vcap), .val (.ref pp), .val (.ref rr)] [(.int vdc), (.int (2 : Int32)), (.ref rr)])) _
    refine XS.iload X2.here hx rfl (hb hby at_251) rfl ?_
    show Steps p.tables e below (T2.setTop (mkF m 253 #[.val (.int p1), .val (.int p2), .val (.int p3), .val (.int p4), .val (.int p5), .val (.int p6), .val (.int vdc), .val (.int vd0), .val (.int vd1), .val (.int vd2), .val (.int z0), .val (.int z1), .val (.int z2), .val (.int vcap), .val (.ref pp), .val (.ref rr)] [(.int z0), (.int vdc), (.int (2 : Int32)), (.ref rr)])) _
    refine XS.iload X2.here hx rfl (hb hby at_253) rfl ?_
    show Steps p.tables e below (T2.setTop (mkF m 255 #[.val (.int p1), .val (.int p2), .val (.int p3), .val (.int p4), .val (.int p5), .val (.int p6), .val (.int vdc), .val (.int vd0), .val (.int vd1), .val (.int vd2), .val (.int z0), .val (.int z1), .val (.int z2), .val (.int vcap), .val (.ref pp), .val (.ref rr)] [(.int vd0), (.int z0), (.int vdc), (.int (2 : Int32)), (.ref rr)])) _
    refine XS.iloadN X2.here hx rfl (hb hby at_255) rfl ?_
    show Steps p.tables e below (T2.setTop (mkF m 256 #[.val (.int p1), .val (.int p2), .val (.int p3), .val (.int p4), .val (.int p5), .val (.int p6), .val (.int vdc), .val (.int vd0), .val (.int vd1), .val (.int vd2), .val (.int z0), .val (.int z1), .val (.int z2), .val (.int vcap), .val (.ref pp), .val (.ref rr)] [(.int p3), (.int vd0), (.int z0), (.int vdc), (.int (2 : Int32)), (.ref rr)])) _
    refine XS.iload X2.here hx rfl (hb hby at_256) rfl ?_
    show Steps p.tables e below (T2.setTop (mkF m 258 #[.val (.int p1), .val (.int p2), .val (.int p3), .val (.int p4), .val (.int p5), .val (.int p6), .val (.int vdc), .val (.int vd0), .val (.int vd1), .val (.int vd2), .val (.int z0), .val (.int z1), .val (.int z2), .val (.int vcap), .val (.ref pp), .val (.ref rr)] [(.int z1), (.int p3), (.int vd0), (.int z0), (.int vdc), (.int (2 : Int32)), (.ref rr)])) _
    refine XS.iload X2.here hx rfl (hb hby at_258) rfl ?_
    show Steps p.tables e below (T2.setTop (mkF m 260 #[.val (.int p1), .val (.int p2), .val (.int p3), .val (.int p4), .val (.int p5), .val (.int p6), .val (.int vdc), .val (.int vd0), .val (.int vd1), .val (.int vd2), .val (.int z0), .val (.int z1), .val (.int z2), .val (.int vcap), .val (.ref pp), .val (.ref rr)] [(.int vd1), (.int z1), (.int p3), (.int vd0), (.int z0), (.int vdc), (.int (2 : Int32)), (.ref rr)])) _
    refine XS.iloadN X2.here hx rfl (hb hby at_260) rfl ?_
    show Steps p.tables e below (T2.setTop (mkF m 261 #[.val (.int p1), .val (.int p2), .val (.int p3), .val (.int p4), .val (.int p5), .val (.int p6), .val (.int vdc), .val (.int vd0), .val (.int vd1), .val (.int vd2), .val (.int z0), .val (.int z1), .val (.int z2), .val (.int vcap), .val (.ref pp), .val (.ref rr)] [(.int p4), (.int vd1), (.int z1), (.int p3), (.int vd0), (.int z0), (.int vdc), (.int (2 : Int32)), (.ref rr)])) _
    refine XS.iload X2.here hx rfl (hb hby at_261) rfl ?_
    show Steps p.tables e below (T2.setTop (mkF m 263 #[.val (.int p1), .val (.int p2), .val (.int p3), .val (.int p4), .val (.int p5), .val (.int p6), .val (.int vdc), .val (.int vd0), .val (.int vd1), .val (.int vd2), .val (.int z0), .val (.int z1), .val (.int z2), .val (.int vcap), .val (.ref pp), .val (.ref rr)] [(.int z2), (.int p4), (.int vd1), (.int z1), (.int p3), (.int vd0), (.int z0), (.int vdc), (.int (2 : Int32)), (.ref rr)])) _
    refine XS.iload X2.here hx rfl (hb hby at_263) rfl ?_
    show Steps p.tables e below (T2.setTop (mkF m 265 #[.val (.int p1), .val (.int p2), .val (.int p3), .val (.int p4), .val (.int p5), .val (.int p6), .val (.int vdc), .val (.int vd0), .val (.int vd1), .val (.int vd2), .val (.int z0), .val (.int z1), .val (.int z2), .val (.int vcap), .val (.ref pp), .val (.ref rr)] [(.int vd2), (.int z2), (.int p4), (.int vd1), (.int z1), (.int p3), (.int vd0), (.int z0), (.int vdc), (.int (2 : Int32)), (.ref rr)])) _
    refine XS.iload X2.here hx rfl (hb hby at_265) rfl ?_
    exact k
  obtain ⟨_, _, ⟨T3, L3, k3, n3⟩, -, X3, ⟨Lc3, hQ3, l3, y3, z3⟩, st3⟩ := Jvm.LawKit.callS X2 hx (y := (⟨"com/example/libqlm/libqlm/PostingsFrequenciesByDocumentPinLaw", "at", "([IIIZIIZIIZII)Z"⟩ : MethodName)) hown (mvT hZ (hw _ (List.mem_of_getElem? (i := 24) rfl))) (mvT hZ (hw _ (List.mem_of_getElem? (i := 25) rfl))) (mvT hZ (hw _ (List.mem_of_getElem? (i := 26) rfl))) (mvT hZ (hw _ (List.mem_of_getElem? (i := 27) rfl))) (by decide) (backOf (W := 0) (rm4 l Z a0 hw [] rr (2 : Int32) vdc z0 vd0 p3 z1 vd1 p4 z2 vd2 p5 (own_gv hs (2 : Int32)) cl_r h0 n0 Z0 Ar_r (fun q => inb_of S_r ⟨by decide, q⟩) (fun q => atH H_r (inb_of S_r ⟨by decide, q⟩) (own_getH hs (2 : Int32) (by decide)))) hZ (hw _ (List.mem_of_getElem? (i := 27) rfl)) (hw _ (List.mem_of_getElem? (i := 26) rfl)) (by decide) (by decide)) (g := (mkF m 267 #[.val (.int p1), .val (.int p2), .val (.int p3), .val (.int p4), .val (.int p5), .val (.int p6), .val (.int vdc), .val (.int vd0), .val (.int vd1), .val (.int vd2), .val (.int z0), .val (.int z1), .val (.int z2), .val (.int vcap), .val (.ref pp), .val (.ref rr)] [(.int p5), (.int vd2), (.int z2), (.int p4), (.int vd1), (.int z1), (.int p3), (.int vd0), (.int z0), (.int vdc), (.int (2 : Int32)), (.ref rr)])) rfl (by rw [hml]; rfl) (argsL := [(.ref rr), (.int (2 : Int32)), (.int vdc), (.int z0), (.int vd0), (.int p3), (.int z1), (.int vd1), (.int p4), (.int z2), (.int vd2), (.int p5)]) (rest := []) (lenOf own_pd2 rfl) rfl (by show 2 * 0 + _ ≤ _; exact Nat.le_of_eq rfl) (hb hby at_267) (fun _ _ => ⟨rfl, eq2, hcl, hsl⟩)
  dsimp only [Pt.U, Pt.locs, Pt.cells, Pt.slots] at X3 l3 y3 z3 st3 hQ3
  subst l3 y3 z3
  obtain ⟨rfl, N3q, eq3⟩ := hQ3
  have N3 := Fr.app N2 N3q
  refine own_go (B := T3.setTop (mkF m 270 #[.val (.int p1), .val (.int p2), .val (.int p3), .val (.int p4), .val (.int p5), .val (.int p6), .val (.int vdc), .val (.int vd0), .val (.int vd1), .val (.int vd2), .val (.int z0), .val (.int z1), .val (.int z2), .val (.int vcap), .val (.ref pp), .val (.ref rr)] [(.int (own_at (own_gv hs (2 : Int32)) (2 : Int32) vdc z0 vd0 p3 z1 vd1 p4 z2 vd2 p5))])) (fun t k => st3 _ k) ?_
  refine own_go (B := T3.setTop (mkF m 294 #[.val (.int p1), .val (.int p2), .val (.int p3), .val (.int p4), .val (.int p5), .val (.int p6), .val (.int vdc), .val (.int vd0), .val (.int vd1), .val (.int vd2), .val (.int z0), .val (.int z1), .val (.int z2), .val (.int vcap), .val (.ref pp), .val (.ref rr)] [(.int p5), (.int vd2), (.int z2), (.int p4), (.int vd1), (.int z1), (.int p3), (.int vd0), (.int z0), (.int vdc), (.int (3 : Int32)), (.ref rr)])) (fun t k => ?_) ?_
  · show Steps p.tables e below (T3.setTop (mkF m 270 #[.val (.int p1), .val (.int p2), .val (.int p3), .val (.int p4), .val (.int p5), .val (.int p6), .val (.int vdc), .val (.int vd0), .val (.int vd1), .val (.int vd2), .val (.int z0), .val (.int z1), .val (.int z2), .val (.int vcap), .val (.ref pp), .val (.ref rr)] [(.int (own_at (own_gv hs (2 : Int32)) (2 : Int32) vdc z0 vd0 p3 z1 vd1 p4 z2 vd2 p5))])) _
    refine XS.ifNo X3.here hx rfl (hb hby at_270) rfl ((if0 _ _).trans (feq (own_at_ok (hok _))).1) ?_
    show Steps p.tables e below (T3.setTop (mkF m 273 #[.val (.int p1), .val (.int p2), .val (.int p3), .val (.int p4), .val (.int p5), .val (.int p6), .val (.int vdc), .val (.int vd0), .val (.int vd1), .val (.int vd2), .val (.int z0), .val (.int z1), .val (.int z2), .val (.int vcap), .val (.ref pp), .val (.ref rr)] [])) _
    refine XS.aload X3.here hx rfl (hb hby at_273) rfl rfl ?_
    show Steps p.tables e below (T3.setTop (mkF m 275 #[.val (.int p1), .val (.int p2), .val (.int p3), .val (.int p4), .val (.int p5), .val (.int p6), .val (.int vdc), .val (.int vd0), .val (.int vd1), .val (.int vd2), .val (.int z0), .val (.int z1), .val (.int z2), .val (.int vcap), .val (.ref pp), .val (.ref rr)] [(.ref rr)])) _
    refine XS.iconst X3.here hx rfl (hb hby at_275) ?_
    show Steps p.tables e below (T3.setTop (mkF m 276 #[.val (.int p1), .val (.int p2), .val (.int p3), .val (.int p4), .val (.int p5), .val (.int p6), .val (.int vdc), .val (.int vd0), .val (.int vd1), .val (.int vd2), .val (.int z0), .val (.int z1), .val (.int z2), .val (.int vcap), .val (.ref pp), .val (.ref rr)] [(.int (3 : Int32)), (.ref rr)])) _
    refine XS.iload X3.here hx rfl (hb hby at_276) rfl ?_
    show Steps p.tables e below (T3.setTop (mkF m 278 #[.val (.int p1), .val (.int p2), .val (.int p3), .val (.int p4), .val (.int p5), .val (.int p6), .val (.int vdc), .val (.int vd0), .val (.int vd1), .val (.int vd2), .val (.int z0), .val (.int z1), .val (.int z2), .val (.int vcap), .val (.ref pp), .val (.ref rr)] [(.int vdc), (.int (3 : Int32)), (.ref rr)])) _
    refine XS.iload X3.here hx rfl (hb hby at_278) rfl ?_
    show Steps p.tables e below (T3.setTop (mkF m 280 #[.val (.int p1), .val (.int p2), .val (.int p3), .val (.int p4), .val (.int p5), .val (.int p6), .val (.int vdc), .val (.int vd0), .val (.int vd1), .val (.int vd2), .val (.int z0), .val (.int z1), .val (.int z2), .val (.int vcap), .val (.ref pp), .val (.ref rr)] [(.int z0), (.int vdc), (.int (3 : Int32)), (.ref rr)])) _
    refine XS.iload X3.here hx rfl (hb hby at_280) rfl ?_
    show Steps p.tables e below (T3.setTop (mkF m 282 #[.val (.int p1), .val (.int p2), .val (.int p3), .val (.int p4), .val (.int p5), .val (.int p6), .val (.int vdc), .val (.int vd0), .val (.int vd1), .val (.int vd2), .val (.int z0), .val (.int z1), .val (.int z2), .val (.int vcap), .val (.ref pp), .val (.ref rr)] [(.int vd0), (.int z0), (.int vdc), (.int (3 : Int32)), (.ref rr)])) _
    refine XS.iloadN X3.here hx rfl (hb hby at_282) rfl ?_
    show Steps p.tables e below (T3.setTop (mkF m 283 #[.val (.int p1), .val (.int p2), .val (.int p3), .val (.int p4), .val (.int p5), .val (.int p6), .val (.int vdc), .val (.int vd0), .val (.int vd1), .val (.int vd2), .val (.int z0), .val (.int z1), .val (.int z2), .val (.int vcap), .val (.ref pp), .val (.ref rr)] [(.int p3), (.int vd0), (.int z0), (.int vdc), (.int (3 : Int32)), (.ref rr)])) _
    refine XS.iload X3.here hx rfl (hb hby at_283) rfl ?_
    show Steps p.tables e below (T3.setTop (mkF m 285 #[.val (.int p1), .val (.int p2), .val (.int p3), .val (.int p4), .val (.int p5), .val (.int p6), .val (.int vdc), .val (.int vd0), .val (.int vd1), .val (.int vd2), .val (.int z0), .val (.int z1), .val (.int z2), .val (.int vcap), .val (.ref pp), .val (.ref rr)] [(.int z1), (.int p3), (.int vd0), (.int z0), (.int vdc), (.int (3 : Int32)), (.ref rr)])) _
    refine XS.iload X3.here hx rfl (hb hby at_285) rfl ?_
    show Steps p.tables e below (T3.setTop (mkF m 287 #[.val (.int p1), .val (.int p2), .val (.int p3), .val (.int p4), .val (.int p5), .val (.int p6), .val (.int vdc), .val (.int vd0), .val (.int vd1), .val (.int vd2), .val (.int z0), .val (.int z1), .val (.int z2), .val (.int vcap), .val (.ref pp), .val (.ref rr)] [(.int vd1), (.int z1), (.int p3), (.int vd0), (.int z0), (.int vdc), (.int (3 : Int32)), (.ref rr)])) _
    refine XS.iloadN X3.here hx rfl (hb hby at_287) rfl ?_
    show Steps p.tables e below (T3.setTop (mkF m 288 #[.val (.int p1), .val (.int p2), .val (.int p3), .val (.int p4), .val (.int p5), .val (.int p6), .val (.int vdc), .val (.int vd0), .val (.int vd1), .val (.int vd2), .val (.int z0), .val (.int z1), .val (.int z2), .val (.int vcap), .val (.ref pp), .val (.ref rr)] [(.int p4), (.int vd1), (.int z1), (.int p3), (.int vd0), (.int z0), (.int vdc), (.int (3 : Int32)), (.ref rr)])) _
    refine XS.iload X3.here hx rfl (hb hby at_288) rfl ?_
    show Steps p.tables e below (T3.setTop (mkF m 290 #[.val (.int p1), .val (.int p2), .val (.int p3), .val (.int p4), .val (.int p5), .val (.int p6), .val (.int vdc), .val (.int vd0), .val (.int vd1), .val (.int vd2), .val (.int z0), .val (.int z1), .val (.int z2), .val (.int vcap), .val (.ref pp), .val (.ref rr)] [(.int z2), (.int p4), (.int vd1), (.int z1), (.int p3), (.int vd0), (.int z0), (.int vdc), (.int (3 : Int32)), (.ref rr)])) _
    refine XS.iload X3.here hx rfl (hb hby at_290) rfl ?_
    show Steps p.tables e below (T3.setTop (mkF m 292 #[.val (.int p1), .val (.int p2), .val (.int p3), .val (.int p4), .val (.int p5), .val (.int p6), .val (.int vdc), .val (.int vd0), .val (.int vd1), .val (.int vd2), .val (.int z0), .val (.int z1), .val (.int z2), .val (.int vcap), .val (.ref pp), .val (.ref rr)] [(.int vd2), (.int z2), (.int p4), (.int vd1), (.int z1), (.int p3), (.int vd0), (.int z0), (.int vdc), (.int (3 : Int32)), (.ref rr)])) _
    refine XS.iload X3.here hx rfl (hb hby at_292) rfl ?_
    exact k
  obtain ⟨_, _, ⟨T4, L4, k4, n4⟩, -, X4, ⟨Lc4, hQ4, l4, y4, z4⟩, st4⟩ := Jvm.LawKit.callS X3 hx (y := (⟨"com/example/libqlm/libqlm/PostingsFrequenciesByDocumentPinLaw", "at", "([IIIZIIZIIZII)Z"⟩ : MethodName)) hown (mvT hZ (hw _ (List.mem_of_getElem? (i := 24) rfl))) (mvT hZ (hw _ (List.mem_of_getElem? (i := 25) rfl))) (mvT hZ (hw _ (List.mem_of_getElem? (i := 26) rfl))) (mvT hZ (hw _ (List.mem_of_getElem? (i := 27) rfl))) (by decide) (backOf (W := 0) (rm4 l Z a0 hw [] rr (3 : Int32) vdc z0 vd0 p3 z1 vd1 p4 z2 vd2 p5 (own_gv hs (3 : Int32)) cl_r h0 n0 Z0 Ar_r (fun q => inb_of S_r ⟨by decide, q⟩) (fun q => atH H_r (inb_of S_r ⟨by decide, q⟩) (own_getH hs (3 : Int32) (by decide)))) hZ (hw _ (List.mem_of_getElem? (i := 27) rfl)) (hw _ (List.mem_of_getElem? (i := 26) rfl)) (by decide) (by decide)) (g := (mkF m 294 #[.val (.int p1), .val (.int p2), .val (.int p3), .val (.int p4), .val (.int p5), .val (.int p6), .val (.int vdc), .val (.int vd0), .val (.int vd1), .val (.int vd2), .val (.int z0), .val (.int z1), .val (.int z2), .val (.int vcap), .val (.ref pp), .val (.ref rr)] [(.int p5), (.int vd2), (.int z2), (.int p4), (.int vd1), (.int z1), (.int p3), (.int vd0), (.int z0), (.int vdc), (.int (3 : Int32)), (.ref rr)])) rfl (by rw [hml]; rfl) (argsL := [(.ref rr), (.int (3 : Int32)), (.int vdc), (.int z0), (.int vd0), (.int p3), (.int z1), (.int vd1), (.int p4), (.int z2), (.int vd2), (.int p5)]) (rest := []) (lenOf own_pd2 rfl) rfl (by show 2 * 0 + _ ≤ _; exact Nat.le_of_eq rfl) (hb hby at_294) (fun _ _ => ⟨rfl, eq3, hcl, hsl⟩)
  dsimp only [Pt.U, Pt.locs, Pt.cells, Pt.slots] at X4 l4 y4 z4 st4 hQ4
  subst l4 y4 z4
  obtain ⟨rfl, N4q, eq4⟩ := hQ4
  have N4 := Fr.app N3 N4q
  refine own_go (B := T4.setTop (mkF m 297 #[.val (.int p1), .val (.int p2), .val (.int p3), .val (.int p4), .val (.int p5), .val (.int p6), .val (.int vdc), .val (.int vd0), .val (.int vd1), .val (.int vd2), .val (.int z0), .val (.int z1), .val (.int z2), .val (.int vcap), .val (.ref pp), .val (.ref rr)] [(.int (own_at (own_gv hs (3 : Int32)) (3 : Int32) vdc z0 vd0 p3 z1 vd1 p4 z2 vd2 p5))])) (fun t k => st4 _ k) ?_
  refine own_go (B := T4.setTop (mkF m 321 #[.val (.int p1), .val (.int p2), .val (.int p3), .val (.int p4), .val (.int p5), .val (.int p6), .val (.int vdc), .val (.int vd0), .val (.int vd1), .val (.int vd2), .val (.int z0), .val (.int z1), .val (.int z2), .val (.int vcap), .val (.ref pp), .val (.ref rr)] [(.int p5), (.int vd2), (.int z2), (.int p4), (.int vd1), (.int z1), (.int p3), (.int vd0), (.int z0), (.int vdc), (.int (4 : Int32)), (.ref rr)])) (fun t k => ?_) ?_
  · show Steps p.tables e below (T4.setTop (mkF m 297 #[.val (.int p1), .val (.int p2), .val (.int p3), .val (.int p4), .val (.int p5), .val (.int p6), .val (.int vdc), .val (.int vd0), .val (.int vd1), .val (.int vd2), .val (.int z0), .val (.int z1), .val (.int z2), .val (.int vcap), .val (.ref pp), .val (.ref rr)] [(.int (own_at (own_gv hs (3 : Int32)) (3 : Int32) vdc z0 vd0 p3 z1 vd1 p4 z2 vd2 p5))])) _
    refine XS.ifNo X4.here hx rfl (hb hby at_297) rfl ((if0 _ _).trans (feq (own_at_ok (hok _))).1) ?_
    show Steps p.tables e below (T4.setTop (mkF m 300 #[.val (.int p1), .val (.int p2), .val (.int p3), .val (.int p4), .val (.int p5), .val (.int p6), .val (.int vdc), .val (.int vd0), .val (.int vd1), .val (.int vd2), .val (.int z0), .val (.int z1), .val (.int z2), .val (.int vcap), .val (.ref pp), .val (.ref rr)] [])) _
    refine XS.aload X4.here hx rfl (hb hby at_300) rfl rfl ?_
    show Steps p.tables e below (T4.setTop (mkF m 302 #[.val (.int p1), .val (.int p2), .val (.int p3), .val (.int p4), .val (.int p5), .val (.int p6), .val (.int vdc), .val (.int vd0), .val (.int vd1), .val (.int vd2), .val (.int z0), .val (.int z1), .val (.int z2), .val (.int vcap), .val (.ref pp), .val (.ref rr)] [(.ref rr)])) _
    refine XS.iconst X4.here hx rfl (hb hby at_302) ?_
    show Steps p.tables e below (T4.setTop (mkF m 303 #[.val (.int p1), .val (.int p2), .val (.int p3), .val (.int p4), .val (.int p5), .val (.int p6), .val (.int vdc), .val (.int vd0), .val (.int vd1), .val (.int vd2), .val (.int z0), .val (.int z1), .val (.int z2), .val (.int vcap), .val (.ref pp), .val (.ref rr)] [(.int (4 : Int32)), (.ref rr)])) _
    refine XS.iload X4.here hx rfl (hb hby at_303) rfl ?_
    show Steps p.tables e below (T4.setTop (mkF m 305 #[.val (.int p1), .val (.int p2), .val (.int p3), .val (.int p4), .val (.int p5), .val (.int p6), .val (.int vdc), .val (.int vd0), .val (.int vd1), .val (.int vd2), .val (.int z0), .val (.int z1), .val (.int z2), .val (.int vcap), .val (.ref pp), .val (.ref rr)] [(.int vdc), (.int (4 : Int32)), (.ref rr)])) _
    refine XS.iload X4.here hx rfl (hb hby at_305) rfl ?_
    show Steps p.tables e below (T4.setTop (mkF m 307 #[.val (.int p1), .val (.int p2), .val (.int p3), .val (.int p4), .val (.int p5), .val (.int p6), .val (.int vdc), .val (.int vd0), .val (.int vd1), .val (.int vd2), .val (.int z0), .val (.int z1), .val (.int z2), .val (.int vcap), .val (.ref pp), .val (.ref rr)] [(.int z0), (.int vdc), (.int (4 : Int32)), (.ref rr)])) _
    refine XS.iload X4.here hx rfl (hb hby at_307) rfl ?_
    show Steps p.tables e below (T4.setTop (mkF m 309 #[.val (.int p1), .val (.int p2), .val (.int p3), .val (.int p4), .val (.int p5), .val (.int p6), .val (.int vdc), .val (.int vd0), .val (.int vd1), .val (.int vd2), .val (.int z0), .val (.int z1), .val (.int z2), .val (.int vcap), .val (.ref pp), .val (.ref rr)] [(.int vd0), (.int z0), (.int vdc), (.int (4 : Int32)), (.ref rr)])) _
    refine XS.iloadN X4.here hx rfl (hb hby at_309) rfl ?_
    show Steps p.tables e below (T4.setTop (mkF m 310 #[.val (.int p1), .val (.int p2), .val (.int p3), .val (.int p4), .val (.int p5), .val (.int p6), .val (.int vdc), .val (.int vd0), .val (.int vd1), .val (.int vd2), .val (.int z0), .val (.int z1), .val (.int z2), .val (.int vcap), .val (.ref pp), .val (.ref rr)] [(.int p3), (.int vd0), (.int z0), (.int vdc), (.int (4 : Int32)), (.ref rr)])) _
    refine XS.iload X4.here hx rfl (hb hby at_310) rfl ?_
    show Steps p.tables e below (T4.setTop (mkF m 312 #[.val (.int p1), .val (.int p2), .val (.int p3), .val (.int p4), .val (.int p5), .val (.int p6), .val (.int vdc), .val (.int vd0), .val (.int vd1), .val (.int vd2), .val (.int z0), .val (.int z1), .val (.int z2), .val (.int vcap), .val (.ref pp), .val (.ref rr)] [(.int z1), (.int p3), (.int vd0), (.int z0), (.int vdc), (.int (4 : Int32)), (.ref rr)])) _
    refine XS.iload X4.here hx rfl (hb hby at_312) rfl ?_
    show Steps p.tables e below (T4.setTop (mkF m 314 #[.val (.int p1), .val (.int p2), .val (.int p3), .val (.int p4), .val (.int p5), .val (.int p6), .val (.int vdc), .val (.int vd0), .val (.int vd1), .val (.int vd2), .val (.int z0), .val (.int z1), .val (.int z2), .val (.int vcap), .val (.ref pp), .val (.ref rr)] [(.int vd1), (.int z1), (.int p3), (.int vd0), (.int z0), (.int vdc), (.int (4 : Int32)), (.ref rr)])) _
    refine XS.iloadN X4.here hx rfl (hb hby at_314) rfl ?_
    show Steps p.tables e below (T4.setTop (mkF m 315 #[.val (.int p1), .val (.int p2), .val (.int p3), .val (.int p4), .val (.int p5), .val (.int p6), .val (.int vdc), .val (.int vd0), .val (.int vd1), .val (.int vd2), .val (.int z0), .val (.int z1), .val (.int z2), .val (.int vcap), .val (.ref pp), .val (.ref rr)] [(.int p4), (.int vd1), (.int z1), (.int p3), (.int vd0), (.int z0), (.int vdc), (.int (4 : Int32)), (.ref rr)])) _
    refine XS.iload X4.here hx rfl (hb hby at_315) rfl ?_
    show Steps p.tables e below (T4.setTop (mkF m 317 #[.val (.int p1), .val (.int p2), .val (.int p3), .val (.int p4), .val (.int p5), .val (.int p6), .val (.int vdc), .val (.int vd0), .val (.int vd1), .val (.int vd2), .val (.int z0), .val (.int z1), .val (.int z2), .val (.int vcap), .val (.ref pp), .val (.ref rr)] [(.int z2), (.int p4), (.int vd1), (.int z1), (.int p3), (.int vd0), (.int z0), (.int vdc), (.int (4 : Int32)), (.ref rr)])) _
    refine XS.iload X4.here hx rfl (hb hby at_317) rfl ?_
    show Steps p.tables e below (T4.setTop (mkF m 319 #[.val (.int p1), .val (.int p2), .val (.int p3), .val (.int p4), .val (.int p5), .val (.int p6), .val (.int vdc), .val (.int vd0), .val (.int vd1), .val (.int vd2), .val (.int z0), .val (.int z1), .val (.int z2), .val (.int vcap), .val (.ref pp), .val (.ref rr)] [(.int vd2), (.int z2), (.int p4), (.int vd1), (.int z1), (.int p3), (.int vd0), (.int z0), (.int vdc), (.int (4 : Int32)), (.ref rr)])) _
    refine XS.iload X4.here hx rfl (hb hby at_319) rfl ?_
    exact k
  obtain ⟨_, _, ⟨T5, L5, k5, n5⟩, -, X5, ⟨Lc5, hQ5, l5, y5, z5⟩, st5⟩ := Jvm.LawKit.callS X4 hx (y := (⟨"com/example/libqlm/libqlm/PostingsFrequenciesByDocumentPinLaw", "at", "([IIIZIIZIIZII)Z"⟩ : MethodName)) hown (mvT hZ (hw _ (List.mem_of_getElem? (i := 24) rfl))) (mvT hZ (hw _ (List.mem_of_getElem? (i := 25) rfl))) (mvT hZ (hw _ (List.mem_of_getElem? (i := 26) rfl))) (mvT hZ (hw _ (List.mem_of_getElem? (i := 27) rfl))) (by decide) (backOf (W := 0) (rm4 l Z a0 hw [] rr (4 : Int32) vdc z0 vd0 p3 z1 vd1 p4 z2 vd2 p5 (own_gv hs (4 : Int32)) cl_r h0 n0 Z0 Ar_r (fun q => inb_of S_r ⟨by decide, q⟩) (fun q => atH H_r (inb_of S_r ⟨by decide, q⟩) (own_getH hs (4 : Int32) (by decide)))) hZ (hw _ (List.mem_of_getElem? (i := 27) rfl)) (hw _ (List.mem_of_getElem? (i := 26) rfl)) (by decide) (by decide)) (g := (mkF m 321 #[.val (.int p1), .val (.int p2), .val (.int p3), .val (.int p4), .val (.int p5), .val (.int p6), .val (.int vdc), .val (.int vd0), .val (.int vd1), .val (.int vd2), .val (.int z0), .val (.int z1), .val (.int z2), .val (.int vcap), .val (.ref pp), .val (.ref rr)] [(.int p5), (.int vd2), (.int z2), (.int p4), (.int vd1), (.int z1), (.int p3), (.int vd0), (.int z0), (.int vdc), (.int (4 : Int32)), (.ref rr)])) rfl (by rw [hml]; rfl) (argsL := [(.ref rr), (.int (4 : Int32)), (.int vdc), (.int z0), (.int vd0), (.int p3), (.int z1), (.int vd1), (.int p4), (.int z2), (.int vd2), (.int p5)]) (rest := []) (lenOf own_pd2 rfl) rfl (by show 2 * 0 + _ ≤ _; exact Nat.le_of_eq rfl) (hb hby at_321) (fun _ _ => ⟨rfl, eq4, hcl, hsl⟩)
  dsimp only [Pt.U, Pt.locs, Pt.cells, Pt.slots] at X5 l5 y5 z5 st5 hQ5
  subst l5 y5 z5
  obtain ⟨rfl, N5q, eq5⟩ := hQ5
  have N5 := Fr.app N4 N5q
  refine own_go (B := T5.setTop (mkF m 324 #[.val (.int p1), .val (.int p2), .val (.int p3), .val (.int p4), .val (.int p5), .val (.int p6), .val (.int vdc), .val (.int vd0), .val (.int vd1), .val (.int vd2), .val (.int z0), .val (.int z1), .val (.int z2), .val (.int vcap), .val (.ref pp), .val (.ref rr)] [(.int (own_at (own_gv hs (4 : Int32)) (4 : Int32) vdc z0 vd0 p3 z1 vd1 p4 z2 vd2 p5))])) (fun t k => st5 _ k) ?_
  refine own_go (B := T5.setTop (mkF m 348 #[.val (.int p1), .val (.int p2), .val (.int p3), .val (.int p4), .val (.int p5), .val (.int p6), .val (.int vdc), .val (.int vd0), .val (.int vd1), .val (.int vd2), .val (.int z0), .val (.int z1), .val (.int z2), .val (.int vcap), .val (.ref pp), .val (.ref rr)] [(.int p5), (.int vd2), (.int z2), (.int p4), (.int vd1), (.int z1), (.int p3), (.int vd0), (.int z0), (.int vdc), (.int (5 : Int32)), (.ref rr)])) (fun t k => ?_) ?_
  · show Steps p.tables e below (T5.setTop (mkF m 324 #[.val (.int p1), .val (.int p2), .val (.int p3), .val (.int p4), .val (.int p5), .val (.int p6), .val (.int vdc), .val (.int vd0), .val (.int vd1), .val (.int vd2), .val (.int z0), .val (.int z1), .val (.int z2), .val (.int vcap), .val (.ref pp), .val (.ref rr)] [(.int (own_at (own_gv hs (4 : Int32)) (4 : Int32) vdc z0 vd0 p3 z1 vd1 p4 z2 vd2 p5))])) _
    refine XS.ifNo X5.here hx rfl (hb hby at_324) rfl ((if0 _ _).trans (feq (own_at_ok (hok _))).1) ?_
    show Steps p.tables e below (T5.setTop (mkF m 327 #[.val (.int p1), .val (.int p2), .val (.int p3), .val (.int p4), .val (.int p5), .val (.int p6), .val (.int vdc), .val (.int vd0), .val (.int vd1), .val (.int vd2), .val (.int z0), .val (.int z1), .val (.int z2), .val (.int vcap), .val (.ref pp), .val (.ref rr)] [])) _
    refine XS.aload X5.here hx rfl (hb hby at_327) rfl rfl ?_
    show Steps p.tables e below (T5.setTop (mkF m 329 #[.val (.int p1), .val (.int p2), .val (.int p3), .val (.int p4), .val (.int p5), .val (.int p6), .val (.int vdc), .val (.int vd0), .val (.int vd1), .val (.int vd2), .val (.int z0), .val (.int z1), .val (.int z2), .val (.int vcap), .val (.ref pp), .val (.ref rr)] [(.ref rr)])) _
    refine XS.iconst X5.here hx rfl (hb hby at_329) ?_
    show Steps p.tables e below (T5.setTop (mkF m 330 #[.val (.int p1), .val (.int p2), .val (.int p3), .val (.int p4), .val (.int p5), .val (.int p6), .val (.int vdc), .val (.int vd0), .val (.int vd1), .val (.int vd2), .val (.int z0), .val (.int z1), .val (.int z2), .val (.int vcap), .val (.ref pp), .val (.ref rr)] [(.int (5 : Int32)), (.ref rr)])) _
    refine XS.iload X5.here hx rfl (hb hby at_330) rfl ?_
    show Steps p.tables e below (T5.setTop (mkF m 332 #[.val (.int p1), .val (.int p2), .val (.int p3), .val (.int p4), .val (.int p5), .val (.int p6), .val (.int vdc), .val (.int vd0), .val (.int vd1), .val (.int vd2), .val (.int z0), .val (.int z1), .val (.int z2), .val (.int vcap), .val (.ref pp), .val (.ref rr)] [(.int vdc), (.int (5 : Int32)), (.ref rr)])) _
    refine XS.iload X5.here hx rfl (hb hby at_332) rfl ?_
    show Steps p.tables e below (T5.setTop (mkF m 334 #[.val (.int p1), .val (.int p2), .val (.int p3), .val (.int p4), .val (.int p5), .val (.int p6), .val (.int vdc), .val (.int vd0), .val (.int vd1), .val (.int vd2), .val (.int z0), .val (.int z1), .val (.int z2), .val (.int vcap), .val (.ref pp), .val (.ref rr)] [(.int z0), (.int vdc), (.int (5 : Int32)), (.ref rr)])) _
    refine XS.iload X5.here hx rfl (hb hby at_334) rfl ?_
    show Steps p.tables e below (T5.setTop (mkF m 336 #[.val (.int p1), .val (.int p2), .val (.int p3), .val (.int p4), .val (.int p5), .val (.int p6), .val (.int vdc), .val (.int vd0), .val (.int vd1), .val (.int vd2), .val (.int z0), .val (.int z1), .val (.int z2), .val (.int vcap), .val (.ref pp), .val (.ref rr)] [(.int vd0), (.int z0), (.int vdc), (.int (5 : Int32)), (.ref rr)])) _
    refine XS.iloadN X5.here hx rfl (hb hby at_336) rfl ?_
    show Steps p.tables e below (T5.setTop (mkF m 337 #[.val (.int p1), .val (.int p2), .val (.int p3), .val (.int p4), .val (.int p5), .val (.int p6), .val (.int vdc), .val (.int vd0), .val (.int vd1), .val (.int vd2), .val (.int z0), .val (.int z1), .val (.int z2), .val (.int vcap), .val (.ref pp), .val (.ref rr)] [(.int p3), (.int vd0), (.int z0), (.int vdc), (.int (5 : Int32)), (.ref rr)])) _
    refine XS.iload X5.here hx rfl (hb hby at_337) rfl ?_
    show Steps p.tables e below (T5.setTop (mkF m 339 #[.val (.int p1), .val (.int p2), .val (.int p3), .val (.int p4), .val (.int p5), .val (.int p6), .val (.int vdc), .val (.int vd0), .val (.int vd1), .val (.int vd2), .val (.int z0), .val (.int z1), .val (.int z2), .val (.int vcap), .val (.ref pp), .val (.ref rr)] [(.int z1), (.int p3), (.int vd0), (.int z0), (.int vdc), (.int (5 : Int32)), (.ref rr)])) _
    refine XS.iload X5.here hx rfl (hb hby at_339) rfl ?_
    show Steps p.tables e below (T5.setTop (mkF m 341 #[.val (.int p1), .val (.int p2), .val (.int p3), .val (.int p4), .val (.int p5), .val (.int p6), .val (.int vdc), .val (.int vd0), .val (.int vd1), .val (.int vd2), .val (.int z0), .val (.int z1), .val (.int z2), .val (.int vcap), .val (.ref pp), .val (.ref rr)] [(.int vd1), (.int z1), (.int p3), (.int vd0), (.int z0), (.int vdc), (.int (5 : Int32)), (.ref rr)])) _
    refine XS.iloadN X5.here hx rfl (hb hby at_341) rfl ?_
    show Steps p.tables e below (T5.setTop (mkF m 342 #[.val (.int p1), .val (.int p2), .val (.int p3), .val (.int p4), .val (.int p5), .val (.int p6), .val (.int vdc), .val (.int vd0), .val (.int vd1), .val (.int vd2), .val (.int z0), .val (.int z1), .val (.int z2), .val (.int vcap), .val (.ref pp), .val (.ref rr)] [(.int p4), (.int vd1), (.int z1), (.int p3), (.int vd0), (.int z0), (.int vdc), (.int (5 : Int32)), (.ref rr)])) _
    refine XS.iload X5.here hx rfl (hb hby at_342) rfl ?_
    show Steps p.tables e below (T5.setTop (mkF m 344 #[.val (.int p1), .val (.int p2), .val (.int p3), .val (.int p4), .val (.int p5), .val (.int p6), .val (.int vdc), .val (.int vd0), .val (.int vd1), .val (.int vd2), .val (.int z0), .val (.int z1), .val (.int z2), .val (.int vcap), .val (.ref pp), .val (.ref rr)] [(.int z2), (.int p4), (.int vd1), (.int z1), (.int p3), (.int vd0), (.int z0), (.int vdc), (.int (5 : Int32)), (.ref rr)])) _
    refine XS.iload X5.here hx rfl (hb hby at_344) rfl ?_
    show Steps p.tables e below (T5.setTop (mkF m 346 #[.val (.int p1), .val (.int p2), .val (.int p3), .val (.int p4), .val (.int p5), .val (.int p6), .val (.int vdc), .val (.int vd0), .val (.int vd1), .val (.int vd2), .val (.int z0), .val (.int z1), .val (.int z2), .val (.int vcap), .val (.ref pp), .val (.ref rr)] [(.int vd2), (.int z2), (.int p4), (.int vd1), (.int z1), (.int p3), (.int vd0), (.int z0), (.int vdc), (.int (5 : Int32)), (.ref rr)])) _
    refine XS.iload X5.here hx rfl (hb hby at_346) rfl ?_
    exact k
  obtain ⟨_, _, ⟨T6, L6, k6, n6⟩, -, X6, ⟨Lc6, hQ6, l6, y6, z6⟩, st6⟩ := Jvm.LawKit.callS X5 hx (y := (⟨"com/example/libqlm/libqlm/PostingsFrequenciesByDocumentPinLaw", "at", "([IIIZIIZIIZII)Z"⟩ : MethodName)) hown (mvT hZ (hw _ (List.mem_of_getElem? (i := 24) rfl))) (mvT hZ (hw _ (List.mem_of_getElem? (i := 25) rfl))) (mvT hZ (hw _ (List.mem_of_getElem? (i := 26) rfl))) (mvT hZ (hw _ (List.mem_of_getElem? (i := 27) rfl))) (by decide) (backOf (W := 0) (rm4 l Z a0 hw [] rr (5 : Int32) vdc z0 vd0 p3 z1 vd1 p4 z2 vd2 p5 (own_gv hs (5 : Int32)) cl_r h0 n0 Z0 Ar_r (fun q => inb_of S_r ⟨by decide, q⟩) (fun q => atH H_r (inb_of S_r ⟨by decide, q⟩) (own_getH hs (5 : Int32) (by decide)))) hZ (hw _ (List.mem_of_getElem? (i := 27) rfl)) (hw _ (List.mem_of_getElem? (i := 26) rfl)) (by decide) (by decide)) (g := (mkF m 348 #[.val (.int p1), .val (.int p2), .val (.int p3), .val (.int p4), .val (.int p5), .val (.int p6), .val (.int vdc), .val (.int vd0), .val (.int vd1), .val (.int vd2), .val (.int z0), .val (.int z1), .val (.int z2), .val (.int vcap), .val (.ref pp), .val (.ref rr)] [(.int p5), (.int vd2), (.int z2), (.int p4), (.int vd1), (.int z1), (.int p3), (.int vd0), (.int z0), (.int vdc), (.int (5 : Int32)), (.ref rr)])) rfl (by rw [hml]; rfl) (argsL := [(.ref rr), (.int (5 : Int32)), (.int vdc), (.int z0), (.int vd0), (.int p3), (.int z1), (.int vd1), (.int p4), (.int z2), (.int vd2), (.int p5)]) (rest := []) (lenOf own_pd2 rfl) rfl (by show 2 * 0 + _ ≤ _; exact Nat.le_of_eq rfl) (hb hby at_348) (fun _ _ => ⟨rfl, eq5, hcl, hsl⟩)
  dsimp only [Pt.U, Pt.locs, Pt.cells, Pt.slots] at X6 l6 y6 z6 st6 hQ6
  subst l6 y6 z6
  obtain ⟨rfl, N6q, eq6⟩ := hQ6
  have N6 := Fr.app N5 N6q
  refine own_go (B := T6.setTop (mkF m 351 #[.val (.int p1), .val (.int p2), .val (.int p3), .val (.int p4), .val (.int p5), .val (.int p6), .val (.int vdc), .val (.int vd0), .val (.int vd1), .val (.int vd2), .val (.int z0), .val (.int z1), .val (.int z2), .val (.int vcap), .val (.ref pp), .val (.ref rr)] [(.int (own_at (own_gv hs (5 : Int32)) (5 : Int32) vdc z0 vd0 p3 z1 vd1 p4 z2 vd2 p5))])) (fun t k => st6 _ k) ?_
  refine own_go (B := T6.setTop (mkF m 376 #[.val (.int p1), .val (.int p2), .val (.int p3), .val (.int p4), .val (.int p5), .val (.int p6), .val (.int vdc), .val (.int vd0), .val (.int vd1), .val (.int vd2), .val (.int z0), .val (.int z1), .val (.int z2), .val (.int vcap), .val (.ref pp), .val (.ref rr)] [(.int p5), (.int vd2), (.int z2), (.int p4), (.int vd1), (.int z1), (.int p3), (.int vd0), (.int z0), (.int vdc), (.int (6 : Int32)), (.ref rr)])) (fun t k => ?_) ?_
  · show Steps p.tables e below (T6.setTop (mkF m 351 #[.val (.int p1), .val (.int p2), .val (.int p3), .val (.int p4), .val (.int p5), .val (.int p6), .val (.int vdc), .val (.int vd0), .val (.int vd1), .val (.int vd2), .val (.int z0), .val (.int z1), .val (.int z2), .val (.int vcap), .val (.ref pp), .val (.ref rr)] [(.int (own_at (own_gv hs (5 : Int32)) (5 : Int32) vdc z0 vd0 p3 z1 vd1 p4 z2 vd2 p5))])) _
    refine XS.ifNo X6.here hx rfl (hb hby at_351) rfl ((if0 _ _).trans (feq (own_at_ok (hok _))).1) ?_
    show Steps p.tables e below (T6.setTop (mkF m 354 #[.val (.int p1), .val (.int p2), .val (.int p3), .val (.int p4), .val (.int p5), .val (.int p6), .val (.int vdc), .val (.int vd0), .val (.int vd1), .val (.int vd2), .val (.int z0), .val (.int z1), .val (.int z2), .val (.int vcap), .val (.ref pp), .val (.ref rr)] [])) _
    refine XS.aload X6.here hx rfl (hb hby at_354) rfl rfl ?_
    show Steps p.tables e below (T6.setTop (mkF m 356 #[.val (.int p1), .val (.int p2), .val (.int p3), .val (.int p4), .val (.int p5), .val (.int p6), .val (.int vdc), .val (.int vd0), .val (.int vd1), .val (.int vd2), .val (.int z0), .val (.int z1), .val (.int z2), .val (.int vcap), .val (.ref pp), .val (.ref rr)] [(.ref rr)])) _
    refine XS.bipush X6.here hx rfl (hb hby at_356) ?_
    show Steps p.tables e below (T6.setTop (mkF m 358 #[.val (.int p1), .val (.int p2), .val (.int p3), .val (.int p4), .val (.int p5), .val (.int p6), .val (.int vdc), .val (.int vd0), .val (.int vd1), .val (.int vd2), .val (.int z0), .val (.int z1), .val (.int z2), .val (.int vcap), .val (.ref pp), .val (.ref rr)] [(.int (6 : Int32)), (.ref rr)])) _
    refine XS.iload X6.here hx rfl (hb hby at_358) rfl ?_
    show Steps p.tables e below (T6.setTop (mkF m 360 #[.val (.int p1), .val (.int p2), .val (.int p3), .val (.int p4), .val (.int p5), .val (.int p6), .val (.int vdc), .val (.int vd0), .val (.int vd1), .val (.int vd2), .val (.int z0), .val (.int z1), .val (.int z2), .val (.int vcap), .val (.ref pp), .val (.ref rr)] [(.int vdc), (.int (6 : Int32)), (.ref rr)])) _
    refine XS.iload X6.here hx rfl (hb hby at_360) rfl ?_
    show Steps p.tables e below (T6.setTop (mkF m 362 #[.val (.int p1), .val (.int p2), .val (.int p3), .val (.int p4), .val (.int p5), .val (.int p6), .val (.int vdc), .val (.int vd0), .val (.int vd1), .val (.int vd2), .val (.int z0), .val (.int z1), .val (.int z2), .val (.int vcap), .val (.ref pp), .val (.ref rr)] [(.int z0), (.int vdc), (.int (6 : Int32)), (.ref rr)])) _
    refine XS.iload X6.here hx rfl (hb hby at_362) rfl ?_
    show Steps p.tables e below (T6.setTop (mkF m 364 #[.val (.int p1), .val (.int p2), .val (.int p3), .val (.int p4), .val (.int p5), .val (.int p6), .val (.int vdc), .val (.int vd0), .val (.int vd1), .val (.int vd2), .val (.int z0), .val (.int z1), .val (.int z2), .val (.int vcap), .val (.ref pp), .val (.ref rr)] [(.int vd0), (.int z0), (.int vdc), (.int (6 : Int32)), (.ref rr)])) _
    refine XS.iloadN X6.here hx rfl (hb hby at_364) rfl ?_
    show Steps p.tables e below (T6.setTop (mkF m 365 #[.val (.int p1), .val (.int p2), .val (.int p3), .val (.int p4), .val (.int p5), .val (.int p6), .val (.int vdc), .val (.int vd0), .val (.int vd1), .val (.int vd2), .val (.int z0), .val (.int z1), .val (.int z2), .val (.int vcap), .val (.ref pp), .val (.ref rr)] [(.int p3), (.int vd0), (.int z0), (.int vdc), (.int (6 : Int32)), (.ref rr)])) _
    refine XS.iload X6.here hx rfl (hb hby at_365) rfl ?_
    show Steps p.tables e below (T6.setTop (mkF m 367 #[.val (.int p1), .val (.int p2), .val (.int p3), .val (.int p4), .val (.int p5), .val (.int p6), .val (.int vdc), .val (.int vd0), .val (.int vd1), .val (.int vd2), .val (.int z0), .val (.int z1), .val (.int z2), .val (.int vcap), .val (.ref pp), .val (.ref rr)] [(.int z1), (.int p3), (.int vd0), (.int z0), (.int vdc), (.int (6 : Int32)), (.ref rr)])) _
    refine XS.iload X6.here hx rfl (hb hby at_367) rfl ?_
    show Steps p.tables e below (T6.setTop (mkF m 369 #[.val (.int p1), .val (.int p2), .val (.int p3), .val (.int p4), .val (.int p5), .val (.int p6), .val (.int vdc), .val (.int vd0), .val (.int vd1), .val (.int vd2), .val (.int z0), .val (.int z1), .val (.int z2), .val (.int vcap), .val (.ref pp), .val (.ref rr)] [(.int vd1), (.int z1), (.int p3), (.int vd0), (.int z0), (.int vdc), (.int (6 : Int32)), (.ref rr)])) _
    refine XS.iloadN X6.here hx rfl (hb hby at_369) rfl ?_
    show Steps p.tables e below (T6.setTop (mkF m 370 #[.val (.int p1), .val (.int p2), .val (.int p3), .val (.int p4), .val (.int p5), .val (.int p6), .val (.int vdc), .val (.int vd0), .val (.int vd1), .val (.int vd2), .val (.int z0), .val (.int z1), .val (.int z2), .val (.int vcap), .val (.ref pp), .val (.ref rr)] [(.int p4), (.int vd1), (.int z1), (.int p3), (.int vd0), (.int z0), (.int vdc), (.int (6 : Int32)), (.ref rr)])) _
    refine XS.iload X6.here hx rfl (hb hby at_370) rfl ?_
    show Steps p.tables e below (T6.setTop (mkF m 372 #[.val (.int p1), .val (.int p2), .val (.int p3), .val (.int p4), .val (.int p5), .val (.int p6), .val (.int vdc), .val (.int vd0), .val (.int vd1), .val (.int vd2), .val (.int z0), .val (.int z1), .val (.int z2), .val (.int vcap), .val (.ref pp), .val (.ref rr)] [(.int z2), (.int p4), (.int vd1), (.int z1), (.int p3), (.int vd0), (.int z0), (.int vdc), (.int (6 : Int32)), (.ref rr)])) _
    refine XS.iload X6.here hx rfl (hb hby at_372) rfl ?_
    show Steps p.tables e below (T6.setTop (mkF m 374 #[.val (.int p1), .val (.int p2), .val (.int p3), .val (.int p4), .val (.int p5), .val (.int p6), .val (.int vdc), .val (.int vd0), .val (.int vd1), .val (.int vd2), .val (.int z0), .val (.int z1), .val (.int z2), .val (.int vcap), .val (.ref pp), .val (.ref rr)] [(.int vd2), (.int z2), (.int p4), (.int vd1), (.int z1), (.int p3), (.int vd0), (.int z0), (.int vdc), (.int (6 : Int32)), (.ref rr)])) _
    refine XS.iload X6.here hx rfl (hb hby at_374) rfl ?_
    exact k
  obtain ⟨_, _, ⟨T7, L7, k7, n7⟩, -, X7, ⟨Lc7, hQ7, l7, y7, z7⟩, st7⟩ := Jvm.LawKit.callS X6 hx (y := (⟨"com/example/libqlm/libqlm/PostingsFrequenciesByDocumentPinLaw", "at", "([IIIZIIZIIZII)Z"⟩ : MethodName)) hown (mvT hZ (hw _ (List.mem_of_getElem? (i := 24) rfl))) (mvT hZ (hw _ (List.mem_of_getElem? (i := 25) rfl))) (mvT hZ (hw _ (List.mem_of_getElem? (i := 26) rfl))) (mvT hZ (hw _ (List.mem_of_getElem? (i := 27) rfl))) (by decide) (backOf (W := 0) (rm4 l Z a0 hw [] rr (6 : Int32) vdc z0 vd0 p3 z1 vd1 p4 z2 vd2 p5 (own_gv hs (6 : Int32)) cl_r h0 n0 Z0 Ar_r (fun q => inb_of S_r ⟨by decide, q⟩) (fun q => atH H_r (inb_of S_r ⟨by decide, q⟩) (own_getH hs (6 : Int32) (by decide)))) hZ (hw _ (List.mem_of_getElem? (i := 27) rfl)) (hw _ (List.mem_of_getElem? (i := 26) rfl)) (by decide) (by decide)) (g := (mkF m 376 #[.val (.int p1), .val (.int p2), .val (.int p3), .val (.int p4), .val (.int p5), .val (.int p6), .val (.int vdc), .val (.int vd0), .val (.int vd1), .val (.int vd2), .val (.int z0), .val (.int z1), .val (.int z2), .val (.int vcap), .val (.ref pp), .val (.ref rr)] [(.int p5), (.int vd2), (.int z2), (.int p4), (.int vd1), (.int z1), (.int p3), (.int vd0), (.int z0), (.int vdc), (.int (6 : Int32)), (.ref rr)])) rfl (by rw [hml]; rfl) (argsL := [(.ref rr), (.int (6 : Int32)), (.int vdc), (.int z0), (.int vd0), (.int p3), (.int z1), (.int vd1), (.int p4), (.int z2), (.int vd2), (.int p5)]) (rest := []) (lenOf own_pd2 rfl) rfl (by show 2 * 0 + _ ≤ _; exact Nat.le_of_eq rfl) (hb hby at_376) (fun _ _ => ⟨rfl, eq6, hcl, hsl⟩)
  dsimp only [Pt.U, Pt.locs, Pt.cells, Pt.slots] at X7 l7 y7 z7 st7 hQ7
  subst l7 y7 z7
  obtain ⟨rfl, N7q, eq7⟩ := hQ7
  have N7 := Fr.app N6 N7q
  refine own_go (B := T7.setTop (mkF m 379 #[.val (.int p1), .val (.int p2), .val (.int p3), .val (.int p4), .val (.int p5), .val (.int p6), .val (.int vdc), .val (.int vd0), .val (.int vd1), .val (.int vd2), .val (.int z0), .val (.int z1), .val (.int z2), .val (.int vcap), .val (.ref pp), .val (.ref rr)] [(.int (own_at (own_gv hs (6 : Int32)) (6 : Int32) vdc z0 vd0 p3 z1 vd1 p4 z2 vd2 p5))])) (fun t k => st7 _ k) ?_
  refine own_go (B := T7.setTop (mkF m 404 #[.val (.int p1), .val (.int p2), .val (.int p3), .val (.int p4), .val (.int p5), .val (.int p6), .val (.int vdc), .val (.int vd0), .val (.int vd1), .val (.int vd2), .val (.int z0), .val (.int z1), .val (.int z2), .val (.int vcap), .val (.ref pp), .val (.ref rr)] [(.int p5), (.int vd2), (.int z2), (.int p4), (.int vd1), (.int z1), (.int p3), (.int vd0), (.int z0), (.int vdc), (.int (7 : Int32)), (.ref rr)])) (fun t k => ?_) ?_
  · show Steps p.tables e below (T7.setTop (mkF m 379 #[.val (.int p1), .val (.int p2), .val (.int p3), .val (.int p4), .val (.int p5), .val (.int p6), .val (.int vdc), .val (.int vd0), .val (.int vd1), .val (.int vd2), .val (.int z0), .val (.int z1), .val (.int z2), .val (.int vcap), .val (.ref pp), .val (.ref rr)] [(.int (own_at (own_gv hs (6 : Int32)) (6 : Int32) vdc z0 vd0 p3 z1 vd1 p4 z2 vd2 p5))])) _
    refine XS.ifNo X7.here hx rfl (hb hby at_379) rfl ((if0 _ _).trans (feq (own_at_ok (hok _))).1) ?_
    show Steps p.tables e below (T7.setTop (mkF m 382 #[.val (.int p1), .val (.int p2), .val (.int p3), .val (.int p4), .val (.int p5), .val (.int p6), .val (.int vdc), .val (.int vd0), .val (.int vd1), .val (.int vd2), .val (.int z0), .val (.int z1), .val (.int z2), .val (.int vcap), .val (.ref pp), .val (.ref rr)] [])) _
    refine XS.aload X7.here hx rfl (hb hby at_382) rfl rfl ?_
    show Steps p.tables e below (T7.setTop (mkF m 384 #[.val (.int p1), .val (.int p2), .val (.int p3), .val (.int p4), .val (.int p5), .val (.int p6), .val (.int vdc), .val (.int vd0), .val (.int vd1), .val (.int vd2), .val (.int z0), .val (.int z1), .val (.int z2), .val (.int vcap), .val (.ref pp), .val (.ref rr)] [(.ref rr)])) _
    refine XS.bipush X7.here hx rfl (hb hby at_384) ?_
    show Steps p.tables e below (T7.setTop (mkF m 386 #[.val (.int p1), .val (.int p2), .val (.int p3), .val (.int p4), .val (.int p5), .val (.int p6), .val (.int vdc), .val (.int vd0), .val (.int vd1), .val (.int vd2), .val (.int z0), .val (.int z1), .val (.int z2), .val (.int vcap), .val (.ref pp), .val (.ref rr)] [(.int (7 : Int32)), (.ref rr)])) _
    refine XS.iload X7.here hx rfl (hb hby at_386) rfl ?_
    show Steps p.tables e below (T7.setTop (mkF m 388 #[.val (.int p1), .val (.int p2), .val (.int p3), .val (.int p4), .val (.int p5), .val (.int p6), .val (.int vdc), .val (.int vd0), .val (.int vd1), .val (.int vd2), .val (.int z0), .val (.int z1), .val (.int z2), .val (.int vcap), .val (.ref pp), .val (.ref rr)] [(.int vdc), (.int (7 : Int32)), (.ref rr)])) _
    refine XS.iload X7.here hx rfl (hb hby at_388) rfl ?_
    show Steps p.tables e below (T7.setTop (mkF m 390 #[.val (.int p1), .val (.int p2), .val (.int p3), .val (.int p4), .val (.int p5), .val (.int p6), .val (.int vdc), .val (.int vd0), .val (.int vd1), .val (.int vd2), .val (.int z0), .val (.int z1), .val (.int z2), .val (.int vcap), .val (.ref pp), .val (.ref rr)] [(.int z0), (.int vdc), (.int (7 : Int32)), (.ref rr)])) _
    refine XS.iload X7.here hx rfl (hb hby at_390) rfl ?_
    show Steps p.tables e below (T7.setTop (mkF m 392 #[.val (.int p1), .val (.int p2), .val (.int p3), .val (.int p4), .val (.int p5), .val (.int p6), .val (.int vdc), .val (.int vd0), .val (.int vd1), .val (.int vd2), .val (.int z0), .val (.int z1), .val (.int z2), .val (.int vcap), .val (.ref pp), .val (.ref rr)] [(.int vd0), (.int z0), (.int vdc), (.int (7 : Int32)), (.ref rr)])) _
    refine XS.iloadN X7.here hx rfl (hb hby at_392) rfl ?_
    show Steps p.tables e below (T7.setTop (mkF m 393 #[.val (.int p1), .val (.int p2), .val (.int p3), .val (.int p4), .val (.int p5), .val (.int p6), .val (.int vdc), .val (.int vd0), .val (.int vd1), .val (.int vd2), .val (.int z0), .val (.int z1), .val (.int z2), .val (.int vcap), .val (.ref pp), .val (.ref rr)] [(.int p3), (.int vd0), (.int z0), (.int vdc), (.int (7 : Int32)), (.ref rr)])) _
    refine XS.iload X7.here hx rfl (hb hby at_393) rfl ?_
    show Steps p.tables e below (T7.setTop (mkF m 395 #[.val (.int p1), .val (.int p2), .val (.int p3), .val (.int p4), .val (.int p5), .val (.int p6), .val (.int vdc), .val (.int vd0), .val (.int vd1), .val (.int vd2), .val (.int z0), .val (.int z1), .val (.int z2), .val (.int vcap), .val (.ref pp), .val (.ref rr)] [(.int z1), (.int p3), (.int vd0), (.int z0), (.int vdc), (.int (7 : Int32)), (.ref rr)])) _
    refine XS.iload X7.here hx rfl (hb hby at_395) rfl ?_
    show Steps p.tables e below (T7.setTop (mkF m 397 #[.val (.int p1), .val (.int p2), .val (.int p3), .val (.int p4), .val (.int p5), .val (.int p6), .val (.int vdc), .val (.int vd0), .val (.int vd1), .val (.int vd2), .val (.int z0), .val (.int z1), .val (.int z2), .val (.int vcap), .val (.ref pp), .val (.ref rr)] [(.int vd1), (.int z1), (.int p3), (.int vd0), (.int z0), (.int vdc), (.int (7 : Int32)), (.ref rr)])) _
    refine XS.iloadN X7.here hx rfl (hb hby at_397) rfl ?_
    show Steps p.tables e below (T7.setTop (mkF m 398 #[.val (.int p1), .val (.int p2), .val (.int p3), .val (.int p4), .val (.int p5), .val (.int p6), .val (.int vdc), .val (.int vd0), .val (.int vd1), .val (.int vd2), .val (.int z0), .val (.int z1), .val (.int z2), .val (.int vcap), .val (.ref pp), .val (.ref rr)] [(.int p4), (.int vd1), (.int z1), (.int p3), (.int vd0), (.int z0), (.int vdc), (.int (7 : Int32)), (.ref rr)])) _
    refine XS.iload X7.here hx rfl (hb hby at_398) rfl ?_
    show Steps p.tables e below (T7.setTop (mkF m 400 #[.val (.int p1), .val (.int p2), .val (.int p3), .val (.int p4), .val (.int p5), .val (.int p6), .val (.int vdc), .val (.int vd0), .val (.int vd1), .val (.int vd2), .val (.int z0), .val (.int z1), .val (.int z2), .val (.int vcap), .val (.ref pp), .val (.ref rr)] [(.int z2), (.int p4), (.int vd1), (.int z1), (.int p3), (.int vd0), (.int z0), (.int vdc), (.int (7 : Int32)), (.ref rr)])) _
    refine XS.iload X7.here hx rfl (hb hby at_400) rfl ?_
    show Steps p.tables e below (T7.setTop (mkF m 402 #[.val (.int p1), .val (.int p2), .val (.int p3), .val (.int p4), .val (.int p5), .val (.int p6), .val (.int vdc), .val (.int vd0), .val (.int vd1), .val (.int vd2), .val (.int z0), .val (.int z1), .val (.int z2), .val (.int vcap), .val (.ref pp), .val (.ref rr)] [(.int vd2), (.int z2), (.int p4), (.int vd1), (.int z1), (.int p3), (.int vd0), (.int z0), (.int vdc), (.int (7 : Int32)), (.ref rr)])) _
    refine XS.iload X7.here hx rfl (hb hby at_402) rfl ?_
    exact k
  obtain ⟨_, _, ⟨T8, L8, k8, n8⟩, -, X8, ⟨Lc8, hQ8, l8, y8, z8⟩, st8⟩ := Jvm.LawKit.callS X7 hx (y := (⟨"com/example/libqlm/libqlm/PostingsFrequenciesByDocumentPinLaw", "at", "([IIIZIIZIIZII)Z"⟩ : MethodName)) hown (mvT hZ (hw _ (List.mem_of_getElem? (i := 24) rfl))) (mvT hZ (hw _ (List.mem_of_getElem? (i := 25) rfl))) (mvT hZ (hw _ (List.mem_of_getElem? (i := 26) rfl))) (mvT hZ (hw _ (List.mem_of_getElem? (i := 27) rfl))) (by decide) (backOf (W := 0) (rm4 l Z a0 hw [] rr (7 : Int32) vdc z0 vd0 p3 z1 vd1 p4 z2 vd2 p5 (own_gv hs (7 : Int32)) cl_r h0 n0 Z0 Ar_r (fun q => inb_of S_r ⟨by decide, q⟩) (fun q => atH H_r (inb_of S_r ⟨by decide, q⟩) (own_getH hs (7 : Int32) (by decide)))) hZ (hw _ (List.mem_of_getElem? (i := 27) rfl)) (hw _ (List.mem_of_getElem? (i := 26) rfl)) (by decide) (by decide)) (g := (mkF m 404 #[.val (.int p1), .val (.int p2), .val (.int p3), .val (.int p4), .val (.int p5), .val (.int p6), .val (.int vdc), .val (.int vd0), .val (.int vd1), .val (.int vd2), .val (.int z0), .val (.int z1), .val (.int z2), .val (.int vcap), .val (.ref pp), .val (.ref rr)] [(.int p5), (.int vd2), (.int z2), (.int p4), (.int vd1), (.int z1), (.int p3), (.int vd0), (.int z0), (.int vdc), (.int (7 : Int32)), (.ref rr)])) rfl (by rw [hml]; rfl) (argsL := [(.ref rr), (.int (7 : Int32)), (.int vdc), (.int z0), (.int vd0), (.int p3), (.int z1), (.int vd1), (.int p4), (.int z2), (.int vd2), (.int p5)]) (rest := []) (lenOf own_pd2 rfl) rfl (by show 2 * 0 + _ ≤ _; exact Nat.le_of_eq rfl) (hb hby at_404) (fun _ _ => ⟨rfl, eq7, hcl, hsl⟩)
  dsimp only [Pt.U, Pt.locs, Pt.cells, Pt.slots] at X8 l8 y8 z8 st8 hQ8
  subst l8 y8 z8
  obtain ⟨rfl, N8q, eq8⟩ := hQ8
  have N8 := Fr.app N7 N8q
  refine own_go (B := T8.setTop (mkF m 407 #[.val (.int p1), .val (.int p2), .val (.int p3), .val (.int p4), .val (.int p5), .val (.int p6), .val (.int vdc), .val (.int vd0), .val (.int vd1), .val (.int vd2), .val (.int z0), .val (.int z1), .val (.int z2), .val (.int vcap), .val (.ref pp), .val (.ref rr)] [(.int (own_at (own_gv hs (7 : Int32)) (7 : Int32) vdc z0 vd0 p3 z1 vd1 p4 z2 vd2 p5))])) (fun t k => st8 _ k) ?_
  obtain ⟨fs, hr, hrun, hended, hW, hsame⟩ := X8.leave (v := some (.int (1 : Int32))) (fun h => by rw [Bd.returns] at h; cases h)
  refine ⟨_, _, ?_, hrun, hended, _, _, rfl, ?_, ⟨_, rfl⟩, hW, hsame.mono hcl hsl⟩
  · show Steps p.tables e below (T8.setTop (mkF m 407 #[.val (.int p1), .val (.int p2), .val (.int p3), .val (.int p4), .val (.int p5), .val (.int p6), .val (.int vdc), .val (.int vd0), .val (.int vd1), .val (.int vd2), .val (.int z0), .val (.int z1), .val (.int z2), .val (.int vcap), .val (.ref pp), .val (.ref rr)] [(.int (own_at (own_gv hs (7 : Int32)) (7 : Int32) vdc z0 vd0 p3 z1 vd1 p4 z2 vd2 p5))])) _
    refine XS.ifNo X8.here hx rfl (hb hby at_407) rfl ((if0 _ _).trans (feq (own_at_ok (hok _))).1) ?_
    show Steps p.tables e below (T8.setTop (mkF m 410 #[.val (.int p1), .val (.int p2), .val (.int p3), .val (.int p4), .val (.int p5), .val (.int p6), .val (.int vdc), .val (.int vd0), .val (.int vd1), .val (.int vd2), .val (.int z0), .val (.int z1), .val (.int z2), .val (.int vcap), .val (.ref pp), .val (.ref rr)] [])) _
    refine XS.iconst X8.here hx rfl (hb hby at_410) ?_
    show Steps p.tables e below (T8.setTop (mkF m 411 #[.val (.int p1), .val (.int p2), .val (.int p3), .val (.int p4), .val (.int p5), .val (.int p6), .val (.int vdc), .val (.int vd0), .val (.int vd1), .val (.int vd2), .val (.int z0), .val (.int z1), .val (.int z2), .val (.int vcap), .val (.ref pp), .val (.ref rr)] [(.int (1 : Int32))])) _
    refine XS.goto X8.here hx rfl (pc0 := 411) (pc' := 415) rfl (hb hby at_411) (by decide) (by decide) ?_
    show Steps p.tables e below (T8.setTop (mkF m 415 #[.val (.int p1), .val (.int p2), .val (.int p3), .val (.int p4), .val (.int p5), .val (.int p6), .val (.int vdc), .val (.int vd0), .val (.int vd1), .val (.int vd2), .val (.int z0), .val (.int z1), .val (.int z2), .val (.int vcap), .val (.ref pp), .val (.ref rr)] [(.int (1 : Int32))])) _
    exact retN X8 hx (t := .boolean) Bd.returns (by simp) (hb hby at_415) hr
  · show Q0 Z p1 p2 p3 p4 p5 p6 h0 n0 _ T8.heap _
    rw [eq8]
    exact ⟨rfl, N8⟩
set_option maxRecDepth 65536 in
set_option maxHeartbeats 40000000 in
theorem rm0 (l : Launch) (Z : State) (a0 : Array Value) (hw : ∀ d ∈ tables_1, d.before a0 Z = true) (ws : List Jvm.Cond) (p1 : Int32) (p2 : Int32) (p3 : Int32) (p4 : Int32) (p5 : Int32) (p6 : Int32) (h0 : Heap) (n0 : Nat) (Z0 : n0 ≤ h0.size) :
    MetFree l x (head1 (Jvm.Cond.code x code maxLocals ret :: ws) room_1) (fun a U => a = #[(.int p1), (.int p2), (.int p3), (.int p4), (.int p5), (.int p6)] ∧ Z.Warmed39 U.vm ∧ U.heap = h0) (fun _ _ _ _ _ => True) (fun _ U o U' => ∃ v L, o = .returned v ∧ Q0 Z p1 p2 p3 p4 p5 p6 h0 n0 v U'.heap L ∧ FrameEnd U o U' L room_1.cells room_1.slots) := by
  refine MetFree.of_bodySF (plainFor_of_name pn_0) hisR ?_
  intro p e s m args below meth c s₁ Bd hml0 hP hK
  obtain ⟨rfl, hZ, hh⟩ := hP
  have hx := Bd.exec
  have hby := Bd.bytes
  have hml : c.maxLocals = 16 := hml0
  have hown : s.vm.findClass "com/example/libqlm/libqlm/PostingsFrequenciesByDocumentPinLaw" = some m.cls := findClass_of_methodNamed Bd.named
  have hnm := (name_of_methodNamed Bd.named Bd.method).1
  have X0 : Stand p l e room_1 s m #[(.int p1), (.int p2), (.int p3), (.int p4), (.int p5), (.int p6)] below meth c s₁ [] 0 0 := Stand.of_body Bd
  have e0 : s₁.heap = h0 := by rw [← hh, Bd.state]; rfl
  have N0 := Fr.nil n0
  refine own_go (B := s₁.setTop (mkF m 0 #[.val (.int p1), .val (.int p2), .val (.int p3), .val (.int p4), .val (.int p5), .val (.int p6), .unset, .unset, .unset, .unset, .unset, .unset, .unset, .unset, .unset, .unset] [])) (fun t k => castTop (ef_0 m p1 p2 p3 p4 p5 p6) k) ?_
  refine own_go (B := s₁.setTop (mkF m 9 #[.val (.int p1), .val (.int p2), .val (.int p3), .val (.int p4), .val (.int p5), .val (.int p6), .val (.int ((p1 &&& (2147483647 : Int32)) % (9 : Int32))), .unset, .unset, .unset, .unset, .unset, .unset, .unset, .unset, .unset] [])) (fun t k => ?_) ?_
  · show Steps p.tables e below (s₁.setTop (mkF m 0 #[.val (.int p1), .val (.int p2), .val (.int p3), .val (.int p4), .val (.int p5), .val (.int p6), .unset, .unset, .unset, .unset, .unset, .unset, .unset, .unset, .unset, .unset] [])) _
    refine XS.iloadN X0.here hx rfl (hb hby at_0) rfl ?_
    show Steps p.tables e below (s₁.setTop (mkF m 1 #[.val (.int p1), .val (.int p2), .val (.int p3), .val (.int p4), .val (.int p5), .val (.int p6), .unset, .unset, .unset, .unset, .unset, .unset, .unset, .unset, .unset, .unset] [(.int p1)])) _
    refine X0.ldcInt hx hown (mvT hZ (hw _ (List.mem_of_getElem? (i := 0) rfl))) (g := (mkF m 1 #[.val (.int p1), .val (.int p2), .val (.int p3), .val (.int p4), .val (.int p5), .val (.int p6), .unset, .unset, .unset, .unset, .unset, .unset, .unset, .unset, .unset, .unset] [(.int p1)])) rfl (hb hby at_1) _ ?_
    show Steps p.tables e below (s₁.setTop (mkF m 3 #[.val (.int p1), .val (.int p2), .val (.int p3), .val (.int p4), .val (.int p5), .val (.int p6), .unset, .unset, .unset, .unset, .unset, .unset, .unset, .unset, .unset, .unset] [(.int (2147483647 : Int32)), (.int p1)])) _
    refine XS.iand X0.here hx rfl (hb hby at_3) rfl ?_
    show Steps p.tables e below (s₁.setTop (mkF m 4 #[.val (.int p1), .val (.int p2), .val (.int p3), .val (.int p4), .val (.int p5), .val (.int p6), .unset, .unset, .unset, .unset, .unset, .unset, .unset, .unset, .unset, .unset] [(.int (p1 &&& (2147483647 : Int32)))])) _
    refine XS.bipush X0.here hx rfl (hb hby at_4) ?_
    show Steps p.tables e below (s₁.setTop (mkF m 6 #[.val (.int p1), .val (.int p2), .val (.int p3), .val (.int p4), .val (.int p5), .val (.int p6), .unset, .unset, .unset, .unset, .unset, .unset, .unset, .unset, .unset, .unset] [(.int (9 : Int32)), (.int (p1 &&& (2147483647 : Int32)))])) _
    refine iremM X0 hx rfl (hb hby at_6) rfl (by decide) ?_
    show Steps p.tables e below (s₁.setTop (mkF m 7 #[.val (.int p1), .val (.int p2), .val (.int p3), .val (.int p4), .val (.int p5), .val (.int p6), .unset, .unset, .unset, .unset, .unset, .unset, .unset, .unset, .unset, .unset] [(.int ((p1 &&& (2147483647 : Int32)) % (9 : Int32)))])) _
    refine XS.istore X0.here hx rfl (hb hby at_7) rfl (l' := #[.val (.int p1), .val (.int p2), .val (.int p3), .val (.int p4), .val (.int p5), .val (.int p6), .val (.int ((p1 &&& (2147483647 : Int32)) % (9 : Int32))), .unset, .unset, .unset, .unset, .unset, .unset, .unset, .unset, .unset]) rfl ?_
    exact k
  obtain ⟨vdc, hvdc⟩ : ∃ z : Int32, z = ((p1 &&& (2147483647 : Int32)) % (9 : Int32)) := ⟨_, rfl⟩
  refine own_go (B := s₁.setTop (mkF m 9 #[.val (.int p1), .val (.int p2), .val (.int p3), .val (.int p4), .val (.int p5), .val (.int p6), .val (.int vdc), .unset, .unset, .unset, .unset, .unset, .unset, .unset, .unset, .unset] [])) (fun t k => by rw [hvdc] at k; exact k) ?_
  have hdc : 0 ≤ vdc.toInt ∧ vdc.toInt ≤ 8 := by rw [hvdc]; exact own_dc p1
  have hdcN : ¬ vdc < 0 ∧ vdc.toNatClampNeg ≤ 8 := own_clamp hdc.1 hdc.2
  refine own_go (B := s₁.setTop (mkF m 14 #[.val (.int p1), .val (.int p2), .val (.int p3), .val (.int p4), .val (.int p5), .val (.int p6), .val (.int vdc), .val (.int (p2 &&& (3 : Int32))), .unset, .unset, .unset, .unset, .unset, .unset, .unset, .unset] [])) (fun t k => ?_) ?_
  · show Steps p.tables e below (s₁.setTop (mkF m 9 #[.val (.int p1), .val (.int p2), .val (.int p3), .val (.int p4), .val (.int p5), .val (.int p6), .val (.int vdc), .unset, .unset, .unset, .unset, .unset, .unset, .unset, .unset, .unset] [])) _
    refine XS.iloadN X0.here hx rfl (hb hby at_9) rfl ?_
    show Steps p.tables e below (s₁.setTop (mkF m 10 #[.val (.int p1), .val (.int p2), .val (.int p3), .val (.int p4), .val (.int p5), .val (.int p6), .val (.int vdc), .unset, .unset, .unset, .unset, .unset, .unset, .unset, .unset, .unset] [(.int p2)])) _
    refine XS.iconst X0.here hx rfl (hb hby at_10) ?_
    show Steps p.tables e below (s₁.setTop (mkF m 11 #[.val (.int p1), .val (.int p2), .val (.int p3), .val (.int p4), .val (.int p5), .val (.int p6), .val (.int vdc), .unset, .unset, .unset, .unset, .unset, .unset, .unset, .unset, .unset] [(.int (3 : Int32)), (.int p2)])) _
    refine XS.iand X0.here hx rfl (hb hby at_11) rfl ?_
    show Steps p.tables e below (s₁.setTop (mkF m 12 #[.val (.int p1), .val (.int p2), .val (.int p3), .val (.int p4), .val (.int p5), .val (.int p6), .val (.int vdc), .unset, .unset, .unset, .unset, .unset, .unset, .unset, .unset, .unset] [(.int (p2 &&& (3 : Int32)))])) _
    refine XS.istore X0.here hx rfl (hb hby at_12) rfl (l' := #[.val (.int p1), .val (.int p2), .val (.int p3), .val (.int p4), .val (.int p5), .val (.int p6), .val (.int vdc), .val (.int (p2 &&& (3 : Int32))), .unset, .unset, .unset, .unset, .unset, .unset, .unset, .unset]) rfl ?_
    exact k
  obtain ⟨vd0, hvd0⟩ : ∃ z : Int32, z = (p2 &&& (3 : Int32)) := ⟨_, rfl⟩
  refine own_go (B := s₁.setTop (mkF m 14 #[.val (.int p1), .val (.int p2), .val (.int p3), .val (.int p4), .val (.int p5), .val (.int p6), .val (.int vdc), .val (.int vd0), .unset, .unset, .unset, .unset, .unset, .unset, .unset, .unset] [])) (fun t k => by rw [hvd0] at k; exact k) ?_
  have hd0 : 0 ≤ vd0.toInt ∧ vd0.toInt ≤ 3 := by rw [hvd0]; exact own_b3 p2
  have hnn_vd0 := own_nneg hd0.1
  refine own_go (B := s₁.setTop (mkF m 26 #[.val (.int p1), .val (.int p2), .val (.int p3), .val (.int p4), .val (.int p5), .val (.int p6), .val (.int vdc), .val (.int vd0), .val (.int ((vd0 + (1 : Int32)) + ((p2 >>> ((2 : Int32) &&& 31)) &&& (1 : Int32)))), .unset, .unset, .unset, .unset, .unset, .unset, .unset] [])) (fun t k => ?_) ?_
  · show Steps p.tables e below (s₁.setTop (mkF m 14 #[.val (.int p1), .val (.int p2), .val (.int p3), .val (.int p4), .val (.int p5), .val (.int p6), .val (.int vdc), .val (.int vd0), .unset, .unset, .unset, .unset, .unset, .unset, .unset, .unset] [])) _
    refine XS.iload X0.here hx rfl (hb hby at_14) rfl ?_
    show Steps p.tables e below (s₁.setTop (mkF m 16 #[.val (.int p1), .val (.int p2), .val (.int p3), .val (.int p4), .val (.int p5), .val (.int p6), .val (.int vdc), .val (.int vd0), .unset, .unset, .unset, .unset, .unset, .unset, .unset, .unset] [(.int vd0)])) _
    refine XS.iconst X0.here hx rfl (hb hby at_16) ?_
    show Steps p.tables e below (s₁.setTop (mkF m 17 #[.val (.int p1), .val (.int p2), .val (.int p3), .val (.int p4), .val (.int p5), .val (.int p6), .val (.int vdc), .val (.int vd0), .unset, .unset, .unset, .unset, .unset, .unset, .unset, .unset] [(.int (1 : Int32)), (.int vd0)])) _
    refine XS.iadd X0.here hx rfl (hb hby at_17) rfl ?_
    show Steps p.tables e below (s₁.setTop (mkF m 18 #[.val (.int p1), .val (.int p2), .val (.int p3), .val (.int p4), .val (.int p5), .val (.int p6), .val (.int vdc), .val (.int vd0), .unset, .unset, .unset, .unset, .unset, .unset, .unset, .unset] [(.int (vd0 + (1 : Int32)))])) _
    refine XS.iloadN X0.here hx rfl (hb hby at_18) rfl ?_
    show Steps p.tables e below (s₁.setTop (mkF m 19 #[.val (.int p1), .val (.int p2), .val (.int p3), .val (.int p4), .val (.int p5), .val (.int p6), .val (.int vdc), .val (.int vd0), .unset, .unset, .unset, .unset, .unset, .unset, .unset, .unset] [(.int p2), (.int (vd0 + (1 : Int32)))])) _
    refine XS.iconst X0.here hx rfl (hb hby at_19) ?_
    show Steps p.tables e below (s₁.setTop (mkF m 20 #[.val (.int p1), .val (.int p2), .val (.int p3), .val (.int p4), .val (.int p5), .val (.int p6), .val (.int vdc), .val (.int vd0), .unset, .unset, .unset, .unset, .unset, .unset, .unset, .unset] [(.int (2 : Int32)), (.int p2), (.int (vd0 + (1 : Int32)))])) _
    refine XS.ishr X0.here hx rfl (hb hby at_20) rfl ?_
    show Steps p.tables e below (s₁.setTop (mkF m 21 #[.val (.int p1), .val (.int p2), .val (.int p3), .val (.int p4), .val (.int p5), .val (.int p6), .val (.int vdc), .val (.int vd0), .unset, .unset, .unset, .unset, .unset, .unset, .unset, .unset] [(.int (p2 >>> ((2 : Int32) &&& 31))), (.int (vd0 + (1 : Int32)))])) _
    refine XS.iconst X0.here hx rfl (hb hby at_21) ?_
    show Steps p.tables e below (s₁.setTop (mkF m 22 #[.val (.int p1), .val (.int p2), .val (.int p3), .val (.int p4), .val (.int p5), .val (.int p6), .val (.int vdc), .val (.int vd0), .unset, .unset, .unset, .unset, .unset, .unset, .unset, .unset] [(.int (1 : Int32)), (.int (p2 >>> ((2 : Int32) &&& 31))), (.int (vd0 + (1 : Int32)))])) _
    refine XS.iand X0.here hx rfl (hb hby at_22) rfl ?_
    show Steps p.tables e below (s₁.setTop (mkF m 23 #[.val (.int p1), .val (.int p2), .val (.int p3), .val (.int p4), .val (.int p5), .val (.int p6), .val (.int vdc), .val (.int vd0), .unset, .unset, .unset, .unset, .unset, .unset, .unset, .unset] [(.int ((p2 >>> ((2 : Int32) &&& 31)) &&& (1 : Int32))), (.int (vd0 + (1 : Int32)))])) _
    refine XS.iadd X0.here hx rfl (hb hby at_23) rfl ?_
    show Steps p.tables e below (s₁.setTop (mkF m 24 #[.val (.int p1), .val (.int p2), .val (.int p3), .val (.int p4), .val (.int p5), .val (.int p6), .val (.int vdc), .val (.int vd0), .unset, .unset, .unset, .unset, .unset, .unset, .unset, .unset] [(.int ((vd0 + (1 : Int32)) + ((p2 >>> ((2 : Int32) &&& 31)) &&& (1 : Int32))))])) _
    refine XS.istore X0.here hx rfl (hb hby at_24) rfl (l' := #[.val (.int p1), .val (.int p2), .val (.int p3), .val (.int p4), .val (.int p5), .val (.int p6), .val (.int vdc), .val (.int vd0), .val (.int ((vd0 + (1 : Int32)) + ((p2 >>> ((2 : Int32) &&& 31)) &&& (1 : Int32)))), .unset, .unset, .unset, .unset, .unset, .unset, .unset]) rfl ?_
    exact k
  obtain ⟨vd1, hvd1⟩ : ∃ z : Int32, z = ((vd0 + (1 : Int32)) + ((p2 >>> ((2 : Int32) &&& 31)) &&& (1 : Int32))) := ⟨_, rfl⟩
  refine own_go (B := s₁.setTop (mkF m 26 #[.val (.int p1), .val (.int p2), .val (.int p3), .val (.int p4), .val (.int p5), .val (.int p6), .val (.int vdc), .val (.int vd0), .val (.int vd1), .unset, .unset, .unset, .unset, .unset, .unset, .unset] [])) (fun t k => by rw [hvd1] at k; exact k) ?_
  have hd1 : 0 ≤ vd1.toInt ∧ vd1.toInt ≤ vd0.toInt + 2 := by rw [hvd1]; exact own_nx vd0 _ hd0.1 (by omega)
  have hnn_vd1 := own_nneg hd1.1
  refine own_go (B := s₁.setTop (mkF m 38 #[.val (.int p1), .val (.int p2), .val (.int p3), .val (.int p4), .val (.int p5), .val (.int p6), .val (.int vdc), .val (.int vd0), .val (.int vd1), .val (.int ((vd1 + (1 : Int32)) + ((p2 >>> ((3 : Int32) &&& 31)) &&& (1 : Int32)))), .unset, .unset, .unset, .unset, .unset, .unset] [])) (fun t k => ?_) ?_
  · show Steps p.tables e below (s₁.setTop (mkF m 26 #[.val (.int p1), .val (.int p2), .val (.int p3), .val (.int p4), .val (.int p5), .val (.int p6), .val (.int vdc), .val (.int vd0), .val (.int vd1), .unset, .unset, .unset, .unset, .unset, .unset, .unset] [])) _
    refine XS.iload X0.here hx rfl (hb hby at_26) rfl ?_
    show Steps p.tables e below (s₁.setTop (mkF m 28 #[.val (.int p1), .val (.int p2), .val (.int p3), .val (.int p4), .val (.int p5), .val (.int p6), .val (.int vdc), .val (.int vd0), .val (.int vd1), .unset, .unset, .unset, .unset, .unset, .unset, .unset] [(.int vd1)])) _
    refine XS.iconst X0.here hx rfl (hb hby at_28) ?_
    show Steps p.tables e below (s₁.setTop (mkF m 29 #[.val (.int p1), .val (.int p2), .val (.int p3), .val (.int p4), .val (.int p5), .val (.int p6), .val (.int vdc), .val (.int vd0), .val (.int vd1), .unset, .unset, .unset, .unset, .unset, .unset, .unset] [(.int (1 : Int32)), (.int vd1)])) _
    refine XS.iadd X0.here hx rfl (hb hby at_29) rfl ?_
    show Steps p.tables e below (s₁.setTop (mkF m 30 #[.val (.int p1), .val (.int p2), .val (.int p3), .val (.int p4), .val (.int p5), .val (.int p6), .val (.int vdc), .val (.int vd0), .val (.int vd1), .unset, .unset, .unset, .unset, .unset, .unset, .unset] [(.int (vd1 + (1 : Int32)))])) _
    refine XS.iloadN X0.here hx rfl (hb hby at_30) rfl ?_
    show Steps p.tables e below (s₁.setTop (mkF m 31 #[.val (.int p1), .val (.int p2), .val (.int p3), .val (.int p4), .val (.int p5), .val (.int p6), .val (.int vdc), .val (.int vd0), .val (.int vd1), .unset, .unset, .unset, .unset, .unset, .unset, .unset] [(.int p2), (.int (vd1 + (1 : Int32)))])) _
    refine XS.iconst X0.here hx rfl (hb hby at_31) ?_
    show Steps p.tables e below (s₁.setTop (mkF m 32 #[.val (.int p1), .val (.int p2), .val (.int p3), .val (.int p4), .val (.int p5), .val (.int p6), .val (.int vdc), .val (.int vd0), .val (.int vd1), .unset, .unset, .unset, .unset, .unset, .unset, .unset] [(.int (3 : Int32)), (.int p2), (.int (vd1 + (1 : Int32)))])) _
    refine XS.ishr X0.here hx rfl (hb hby at_32) rfl ?_
    show Steps p.tables e below (s₁.setTop (mkF m 33 #[.val (.int p1), .val (.int p2), .val (.int p3), .val (.int p4), .val (.int p5), .val (.int p6), .val (.int vdc), .val (.int vd0), .val (.int vd1), .unset, .unset, .unset, .unset, .unset, .unset, .unset] [(.int (p2 >>> ((3 : Int32) &&& 31))), (.int (vd1 + (1 : Int32)))])) _
    refine XS.iconst X0.here hx rfl (hb hby at_33) ?_
    show Steps p.tables e below (s₁.setTop (mkF m 34 #[.val (.int p1), .val (.int p2), .val (.int p3), .val (.int p4), .val (.int p5), .val (.int p6), .val (.int vdc), .val (.int vd0), .val (.int vd1), .unset, .unset, .unset, .unset, .unset, .unset, .unset] [(.int (1 : Int32)), (.int (p2 >>> ((3 : Int32) &&& 31))), (.int (vd1 + (1 : Int32)))])) _
    refine XS.iand X0.here hx rfl (hb hby at_34) rfl ?_
    show Steps p.tables e below (s₁.setTop (mkF m 35 #[.val (.int p1), .val (.int p2), .val (.int p3), .val (.int p4), .val (.int p5), .val (.int p6), .val (.int vdc), .val (.int vd0), .val (.int vd1), .unset, .unset, .unset, .unset, .unset, .unset, .unset] [(.int ((p2 >>> ((3 : Int32) &&& 31)) &&& (1 : Int32))), (.int (vd1 + (1 : Int32)))])) _
    refine XS.iadd X0.here hx rfl (hb hby at_35) rfl ?_
    show Steps p.tables e below (s₁.setTop (mkF m 36 #[.val (.int p1), .val (.int p2), .val (.int p3), .val (.int p4), .val (.int p5), .val (.int p6), .val (.int vdc), .val (.int vd0), .val (.int vd1), .unset, .unset, .unset, .unset, .unset, .unset, .unset] [(.int ((vd1 + (1 : Int32)) + ((p2 >>> ((3 : Int32) &&& 31)) &&& (1 : Int32))))])) _
    refine XS.istore X0.here hx rfl (hb hby at_36) rfl (l' := #[.val (.int p1), .val (.int p2), .val (.int p3), .val (.int p4), .val (.int p5), .val (.int p6), .val (.int vdc), .val (.int vd0), .val (.int vd1), .val (.int ((vd1 + (1 : Int32)) + ((p2 >>> ((3 : Int32) &&& 31)) &&& (1 : Int32)))), .unset, .unset, .unset, .unset, .unset, .unset]) rfl ?_
    exact k
  obtain ⟨vd2, hvd2⟩ : ∃ z : Int32, z = ((vd1 + (1 : Int32)) + ((p2 >>> ((3 : Int32) &&& 31)) &&& (1 : Int32))) := ⟨_, rfl⟩
  refine own_go (B := s₁.setTop (mkF m 38 #[.val (.int p1), .val (.int p2), .val (.int p3), .val (.int p4), .val (.int p5), .val (.int p6), .val (.int vdc), .val (.int vd0), .val (.int vd1), .val (.int vd2), .unset, .unset, .unset, .unset, .unset, .unset] [])) (fun t k => by rw [hvd2] at k; exact k) ?_
  have hd2 : 0 ≤ vd2.toInt ∧ vd2.toInt ≤ vd1.toInt + 2 := by rw [hvd2]; exact own_nx vd1 _ hd1.1 (by omega)
  have hnn_vd2 := own_nneg hd2.1
  refine own_go (B := s₁.setTop (mkF m 43 #[.val (.int p1), .val (.int p2), .val (.int p3), .val (.int p4), .val (.int p5), .val (.int p6), .val (.int vdc), .val (.int vd0), .val (.int vd1), .val (.int vd2), .unset, .unset, .unset, .unset, .unset, .unset] [(.int ((p2 >>> ((4 : Int32) &&& 31)) &&& (1 : Int32)))])) (fun t k => ?_) ?_
  · show Steps p.tables e below (s₁.setTop (mkF m 38 #[.val (.int p1), .val (.int p2), .val (.int p3), .val (.int p4), .val (.int p5), .val (.int p6), .val (.int vdc), .val (.int vd0), .val (.int vd1), .val (.int vd2), .unset, .unset, .unset, .unset, .unset, .unset] [])) _
    refine XS.iloadN X0.here hx rfl (hb hby at_38) rfl ?_
    show Steps p.tables e below (s₁.setTop (mkF m 39 #[.val (.int p1), .val (.int p2), .val (.int p3), .val (.int p4), .val (.int p5), .val (.int p6), .val (.int vdc), .val (.int vd0), .val (.int vd1), .val (.int vd2), .unset, .unset, .unset, .unset, .unset, .unset] [(.int p2)])) _
    refine XS.iconst X0.here hx rfl (hb hby at_39) ?_
    show Steps p.tables e below (s₁.setTop (mkF m 40 #[.val (.int p1), .val (.int p2), .val (.int p3), .val (.int p4), .val (.int p5), .val (.int p6), .val (.int vdc), .val (.int vd0), .val (.int vd1), .val (.int vd2), .unset, .unset, .unset, .unset, .unset, .unset] [(.int (4 : Int32)), (.int p2)])) _
    refine XS.ishr X0.here hx rfl (hb hby at_40) rfl ?_
    show Steps p.tables e below (s₁.setTop (mkF m 41 #[.val (.int p1), .val (.int p2), .val (.int p3), .val (.int p4), .val (.int p5), .val (.int p6), .val (.int vdc), .val (.int vd0), .val (.int vd1), .val (.int vd2), .unset, .unset, .unset, .unset, .unset, .unset] [(.int (p2 >>> ((4 : Int32) &&& 31)))])) _
    refine XS.iconst X0.here hx rfl (hb hby at_41) ?_
    show Steps p.tables e below (s₁.setTop (mkF m 42 #[.val (.int p1), .val (.int p2), .val (.int p3), .val (.int p4), .val (.int p5), .val (.int p6), .val (.int vdc), .val (.int vd0), .val (.int vd1), .val (.int vd2), .unset, .unset, .unset, .unset, .unset, .unset] [(.int (1 : Int32)), (.int (p2 >>> ((4 : Int32) &&& 31)))])) _
    refine XS.iand X0.here hx rfl (hb hby at_42) rfl ?_
    exact k
  obtain ⟨z1, hz1⟩ : ∃ q : Int32, q = (if ((p2 >>> ((4 : Int32) &&& 31)) &&& (1 : Int32)) = (0 : Int32) then (0 : Int32) else (if vd0 < vdc then (1 : Int32) else (0 : Int32))) := ⟨_, rfl⟩
  refine own_go (B := s₁.setTop (mkF m 58 #[.val (.int p1), .val (.int p2), .val (.int p3), .val (.int p4), .val (.int p5), .val (.int p6), .val (.int vdc), .val (.int vd0), .val (.int vd1), .val (.int vd2), .unset, .unset, .unset, .unset, .unset, .unset] [(.int z1)])) (fun t k => ?_) ?_
  · by_cases hc43_2 : ((p2 >>> ((4 : Int32) &&& 31)) &&& (1 : Int32)) = (0 : Int32)
    · rw [show z1 = (0 : Int32) from hz1.trans (by rw [if_pos hc43_2])] at k
      show Steps p.tables e below (s₁.setTop (mkF m 43 #[.val (.int p1), .val (.int p2), .val (.int p3), .val (.int p4), .val (.int p5), .val (.int p6), .val (.int vdc), .val (.int vd0), .val (.int vd1), .val (.int vd2), .unset, .unset, .unset, .unset, .unset, .unset] [(.int ((p2 >>> ((4 : Int32) &&& 31)) &&& (1 : Int32)))])) _
      refine XS.ifYes X0.here hx rfl (pc0 := 43) (pc' := 57) rfl (hb hby at_43) rfl ((if0 _ _).trans (teq hc43_2).1) (by decide) (by decide) ?_
      show Steps p.tables e below (s₁.setTop (mkF m 57 #[.val (.int p1), .val (.int p2), .val (.int p3), .val (.int p4), .val (.int p5), .val (.int p6), .val (.int vdc), .val (.int vd0), .val (.int vd1), .val (.int vd2), .unset, .unset, .unset, .unset, .unset, .unset] [])) _
      refine XS.iconst X0.here hx rfl (hb hby at_57) ?_
      exact k
    · show Steps p.tables e below (s₁.setTop (mkF m 43 #[.val (.int p1), .val (.int p2), .val (.int p3), .val (.int p4), .val (.int p5), .val (.int p6), .val (.int vdc), .val (.int vd0), .val (.int vd1), .val (.int vd2), .unset, .unset, .unset, .unset, .unset, .unset] [(.int ((p2 >>> ((4 : Int32) &&& 31)) &&& (1 : Int32)))])) _
      refine XS.ifNo X0.here hx rfl (hb hby at_43) rfl ((if0 _ _).trans (feq hc43_2).1) ?_
      show Steps p.tables e below (s₁.setTop (mkF m 46 #[.val (.int p1), .val (.int p2), .val (.int p3), .val (.int p4), .val (.int p5), .val (.int p6), .val (.int vdc), .val (.int vd0), .val (.int vd1), .val (.int vd2), .unset, .unset, .unset, .unset, .unset, .unset] [])) _
      refine XS.iload X0.here hx rfl (hb hby at_46) rfl ?_
      show Steps p.tables e below (s₁.setTop (mkF m 48 #[.val (.int p1), .val (.int p2), .val (.int p3), .val (.int p4), .val (.int p5), .val (.int p6), .val (.int vdc), .val (.int vd0), .val (.int vd1), .val (.int vd2), .unset, .unset, .unset, .unset, .unset, .unset] [(.int vd0)])) _
      refine XS.iload X0.here hx rfl (hb hby at_48) rfl ?_
      by_cases hc50_3 : vd0 < vdc
      · rw [show z1 = (1 : Int32) from hz1.trans (by rw [if_neg hc43_2, if_pos hc50_3])] at k
        show Steps p.tables e below (s₁.setTop (mkF m 50 #[.val (.int p1), .val (.int p2), .val (.int p3), .val (.int p4), .val (.int p5), .val (.int p6), .val (.int vdc), .val (.int vd0), .val (.int vd1), .val (.int vd2), .unset, .unset, .unset, .unset, .unset, .unset] [(.int vdc), (.int vd0)])) _
        refine XS.icmpNo X0.here hx rfl (hb hby at_50) rfl (tlt hc50_3).2.1 ?_
        show Steps p.tables e below (s₁.setTop (mkF m 53 #[.val (.int p1), .val (.int p2), .val (.int p3), .val (.int p4), .val (.int p5), .val (.int p6), .val (.int vdc), .val (.int vd0), .val (.int vd1), .val (.int vd2), .unset, .unset, .unset, .unset, .unset, .unset] [])) _
        refine XS.iconst X0.here hx rfl (hb hby at_53) ?_
        show Steps p.tables e below (s₁.setTop (mkF m 54 #[.val (.int p1), .val (.int p2), .val (.int p3), .val (.int p4), .val (.int p5), .val (.int p6), .val (.int vdc), .val (.int vd0), .val (.int vd1), .val (.int vd2), .unset, .unset, .unset, .unset, .unset, .unset] [(.int (1 : Int32))])) _
        refine XS.goto X0.here hx rfl (pc0 := 54) (pc' := 58) rfl (hb hby at_54) (by decide) (by decide) ?_
        exact k
      · rw [show z1 = (0 : Int32) from hz1.trans (by rw [if_neg hc43_2, if_neg hc50_3])] at k
        show Steps p.tables e below (s₁.setTop (mkF m 50 #[.val (.int p1), .val (.int p2), .val (.int p3), .val (.int p4), .val (.int p5), .val (.int p6), .val (.int vdc), .val (.int vd0), .val (.int vd1), .val (.int vd2), .unset, .unset, .unset, .unset, .unset, .unset] [(.int vdc), (.int vd0)])) _
        refine XS.icmpYes X0.here hx rfl (pc0 := 50) (pc' := 57) rfl (hb hby at_50) rfl (flt hc50_3).2.1 (by decide) (by decide) ?_
        show Steps p.tables e below (s₁.setTop (mkF m 57 #[.val (.int p1), .val (.int p2), .val (.int p3), .val (.int p4), .val (.int p5), .val (.int p6), .val (.int vdc), .val (.int vd0), .val (.int vd1), .val (.int vd2), .unset, .unset, .unset, .unset, .unset, .unset] [])) _
        refine XS.iconst X0.here hx rfl (hb hby at_57) ?_
        exact k
  refine own_go (B := s₁.setTop (mkF m 65 #[.val (.int p1), .val (.int p2), .val (.int p3), .val (.int p4), .val (.int p5), .val (.int p6), .val (.int vdc), .val (.int vd0), .val (.int vd1), .val (.int vd2), .val (.int z1), .unset, .unset, .unset, .unset, .unset] [(.int ((p2 >>> ((5 : Int32) &&& 31)) &&& (1 : Int32)))])) (fun t k => ?_) ?_
  · show Steps p.tables e below (s₁.setTop (mkF m 58 #[.val (.int p1), .val (.int p2), .val (.int p3), .val (.int p4), .val (.int p5), .val (.int p6), .val (.int vdc), .val (.int vd0), .val (.int vd1), .val (.int vd2), .unset, .unset, .unset, .unset, .unset, .unset] [(.int z1)])) _
    refine XS.istore X0.here hx rfl (hb hby at_58) rfl (l' := #[.val (.int p1), .val (.int p2), .val (.int p3), .val (.int p4), .val (.int p5), .val (.int p6), .val (.int vdc), .val (.int vd0), .val (.int vd1), .val (.int vd2), .val (.int z1), .unset, .unset, .unset, .unset, .unset]) rfl ?_
    show Steps p.tables e below (s₁.setTop (mkF m 60 #[.val (.int p1), .val (.int p2), .val (.int p3), .val (.int p4), .val (.int p5), .val (.int p6), .val (.int vdc), .val (.int vd0), .val (.int vd1), .val (.int vd2), .val (.int z1), .unset, .unset, .unset, .unset, .unset] [])) _
    refine XS.iloadN X0.here hx rfl (hb hby at_60) rfl ?_
    show Steps p.tables e below (s₁.setTop (mkF m 61 #[.val (.int p1), .val (.int p2), .val (.int p3), .val (.int p4), .val (.int p5), .val (.int p6), .val (.int vdc), .val (.int vd0), .val (.int vd1), .val (.int vd2), .val (.int z1), .unset, .unset, .unset, .unset, .unset] [(.int p2)])) _
    refine XS.iconst X0.here hx rfl (hb hby at_61) ?_
    show Steps p.tables e below (s₁.setTop (mkF m 62 #[.val (.int p1), .val (.int p2), .val (.int p3), .val (.int p4), .val (.int p5), .val (.int p6), .val (.int vdc), .val (.int vd0), .val (.int vd1), .val (.int vd2), .val (.int z1), .unset, .unset, .unset, .unset, .unset] [(.int (5 : Int32)), (.int p2)])) _
    refine XS.ishr X0.here hx rfl (hb hby at_62) rfl ?_
    show Steps p.tables e below (s₁.setTop (mkF m 63 #[.val (.int p1), .val (.int p2), .val (.int p3), .val (.int p4), .val (.int p5), .val (.int p6), .val (.int vdc), .val (.int vd0), .val (.int vd1), .val (.int vd2), .val (.int z1), .unset, .unset, .unset, .unset, .unset] [(.int (p2 >>> ((5 : Int32) &&& 31)))])) _
    refine XS.iconst X0.here hx rfl (hb hby at_63) ?_
    show Steps p.tables e below (s₁.setTop (mkF m 64 #[.val (.int p1), .val (.int p2), .val (.int p3), .val (.int p4), .val (.int p5), .val (.int p6), .val (.int vdc), .val (.int vd0), .val (.int vd1), .val (.int vd2), .val (.int z1), .unset, .unset, .unset, .unset, .unset] [(.int (1 : Int32)), (.int (p2 >>> ((5 : Int32) &&& 31)))])) _
    refine XS.iand X0.here hx rfl (hb hby at_64) rfl ?_
    exact k
  obtain ⟨z4, hz4⟩ : ∃ q : Int32, q = (if ((p2 >>> ((5 : Int32) &&& 31)) &&& (1 : Int32)) = (0 : Int32) then (0 : Int32) else (if vd1 < vdc then (1 : Int32) else (0 : Int32))) := ⟨_, rfl⟩
  refine own_go (B := s₁.setTop (mkF m 80 #[.val (.int p1), .val (.int p2), .val (.int p3), .val (.int p4), .val (.int p5), .val (.int p6), .val (.int vdc), .val (.int vd0), .val (.int vd1), .val (.int vd2), .val (.int z1), .unset, .unset, .unset, .unset, .unset] [(.int z4)])) (fun t k => ?_) ?_
  · by_cases hc65_5 : ((p2 >>> ((5 : Int32) &&& 31)) &&& (1 : Int32)) = (0 : Int32)
    · rw [show z4 = (0 : Int32) from hz4.trans (by rw [if_pos hc65_5])] at k
      show Steps p.tables e below (s₁.setTop (mkF m 65 #[.val (.int p1), .val (.int p2), .val (.int p3), .val (.int p4), .val (.int p5), .val (.int p6), .val (.int vdc), .val (.int vd0), .val (.int vd1), .val (.int vd2), .val (.int z1), .unset, .unset, .unset, .unset, .unset] [(.int ((p2 >>> ((5 : Int32) &&& 31)) &&& (1 : Int32)))])) _
      refine XS.ifYes X0.here hx rfl (pc0 := 65) (pc' := 79) rfl (hb hby at_65) rfl ((if0 _ _).trans (teq hc65_5).1) (by decide) (by decide) ?_
      show Steps p.tables e below (s₁.setTop (mkF m 79 #[.val (.int p1), .val (.int p2), .val (.int p3), .val (.int p4), .val (.int p5), .val (.int p6), .val (.int vdc), .val (.int vd0), .val (.int vd1), .val (.int vd2), .val (.int z1), .unset, .unset, .unset, .unset, .unset] [])) _
      refine XS.iconst X0.here hx rfl (hb hby at_79) ?_
      exact k
    · show Steps p.tables e below (s₁.setTop (mkF m 65 #[.val (.int p1), .val (.int p2), .val (.int p3), .val (.int p4), .val (.int p5), .val (.int p6), .val (.int vdc), .val (.int vd0), .val (.int vd1), .val (.int vd2), .val (.int z1), .unset, .unset, .unset, .unset, .unset] [(.int ((p2 >>> ((5 : Int32) &&& 31)) &&& (1 : Int32)))])) _
      refine XS.ifNo X0.here hx rfl (hb hby at_65) rfl ((if0 _ _).trans (feq hc65_5).1) ?_
      show Steps p.tables e below (s₁.setTop (mkF m 68 #[.val (.int p1), .val (.int p2), .val (.int p3), .val (.int p4), .val (.int p5), .val (.int p6), .val (.int vdc), .val (.int vd0), .val (.int vd1), .val (.int vd2), .val (.int z1), .unset, .unset, .unset, .unset, .unset] [])) _
      refine XS.iload X0.here hx rfl (hb hby at_68) rfl ?_
      show Steps p.tables e below (s₁.setTop (mkF m 70 #[.val (.int p1), .val (.int p2), .val (.int p3), .val (.int p4), .val (.int p5), .val (.int p6), .val (.int vdc), .val (.int vd0), .val (.int vd1), .val (.int vd2), .val (.int z1), .unset, .unset, .unset, .unset, .unset] [(.int vd1)])) _
      refine XS.iload X0.here hx rfl (hb hby at_70) rfl ?_
      by_cases hc72_6 : vd1 < vdc
      · rw [show z4 = (1 : Int32) from hz4.trans (by rw [if_neg hc65_5, if_pos hc72_6])] at k
        show Steps p.tables e below (s₁.setTop (mkF m 72 #[.val (.int p1), .val (.int p2), .val (.int p3), .val (.int p4), .val (.int p5), .val (.int p6), .val (.int vdc), .val (.int vd0), .val (.int vd1), .val (.int vd2), .val (.int z1), .unset, .unset, .unset, .unset, .unset] [(.int vdc), (.int vd1)])) _
        refine XS.icmpNo X0.here hx rfl (hb hby at_72) rfl (tlt hc72_6).2.1 ?_
        show Steps p.tables e below (s₁.setTop (mkF m 75 #[.val (.int p1), .val (.int p2), .val (.int p3), .val (.int p4), .val (.int p5), .val (.int p6), .val (.int vdc), .val (.int vd0), .val (.int vd1), .val (.int vd2), .val (.int z1), .unset, .unset, .unset, .unset, .unset] [])) _
        refine XS.iconst X0.here hx rfl (hb hby at_75) ?_
        show Steps p.tables e below (s₁.setTop (mkF m 76 #[.val (.int p1), .val (.int p2), .val (.int p3), .val (.int p4), .val (.int p5), .val (.int p6), .val (.int vdc), .val (.int vd0), .val (.int vd1), .val (.int vd2), .val (.int z1), .unset, .unset, .unset, .unset, .unset] [(.int (1 : Int32))])) _
        refine XS.goto X0.here hx rfl (pc0 := 76) (pc' := 80) rfl (hb hby at_76) (by decide) (by decide) ?_
        exact k
      · rw [show z4 = (0 : Int32) from hz4.trans (by rw [if_neg hc65_5, if_neg hc72_6])] at k
        show Steps p.tables e below (s₁.setTop (mkF m 72 #[.val (.int p1), .val (.int p2), .val (.int p3), .val (.int p4), .val (.int p5), .val (.int p6), .val (.int vdc), .val (.int vd0), .val (.int vd1), .val (.int vd2), .val (.int z1), .unset, .unset, .unset, .unset, .unset] [(.int vdc), (.int vd1)])) _
        refine XS.icmpYes X0.here hx rfl (pc0 := 72) (pc' := 79) rfl (hb hby at_72) rfl (flt hc72_6).2.1 (by decide) (by decide) ?_
        show Steps p.tables e below (s₁.setTop (mkF m 79 #[.val (.int p1), .val (.int p2), .val (.int p3), .val (.int p4), .val (.int p5), .val (.int p6), .val (.int vdc), .val (.int vd0), .val (.int vd1), .val (.int vd2), .val (.int z1), .unset, .unset, .unset, .unset, .unset] [])) _
        refine XS.iconst X0.here hx rfl (hb hby at_79) ?_
        exact k
  refine own_go (B := s₁.setTop (mkF m 88 #[.val (.int p1), .val (.int p2), .val (.int p3), .val (.int p4), .val (.int p5), .val (.int p6), .val (.int vdc), .val (.int vd0), .val (.int vd1), .val (.int vd2), .val (.int z1), .val (.int z4), .unset, .unset, .unset, .unset] [(.int ((p2 >>> ((6 : Int32) &&& 31)) &&& (1 : Int32)))])) (fun t k => ?_) ?_
  · show Steps p.tables e below (s₁.setTop (mkF m 80 #[.val (.int p1), .val (.int p2), .val (.int p3), .val (.int p4), .val (.int p5), .val (.int p6), .val (.int vdc), .val (.int vd0), .val (.int vd1), .val (.int vd2), .val (.int z1), .unset, .unset, .unset, .unset, .unset] [(.int z4)])) _
    refine XS.istore X0.here hx rfl (hb hby at_80) rfl (l' := #[.val (.int p1), .val (.int p2), .val (.int p3), .val (.int p4), .val (.int p5), .val (.int p6), .val (.int vdc), .val (.int vd0), .val (.int vd1), .val (.int vd2), .val (.int z1), .val (.int z4), .unset, .unset, .unset, .unset]) rfl ?_
    show Steps p.tables e below (s₁.setTop (mkF m 82 #[.val (.int p1), .val (.int p2), .val (.int p3), .val (.int p4), .val (.int p5), .val (.int p6), .val (.int vdc), .val (.int vd0), .val (.int vd1), .val (.int vd2), .val (.int z1), .val (.int z4), .unset, .unset, .unset, .unset] [])) _
    refine XS.iloadN X0.here hx rfl (hb hby at_82) rfl ?_
    show Steps p.tables e below (s₁.setTop (mkF m 83 #[.val (.int p1), .val (.int p2), .val (.int p3), .val (.int p4), .val (.int p5), .val (.int p6), .val (.int vdc), .val (.int vd0), .val (.int vd1), .val (.int vd2), .val (.int z1), .val (.int z4), .unset, .unset, .unset, .unset] [(.int p2)])) _
    refine XS.bipush X0.here hx rfl (hb hby at_83) ?_
    show Steps p.tables e below (s₁.setTop (mkF m 85 #[.val (.int p1), .val (.int p2), .val (.int p3), .val (.int p4), .val (.int p5), .val (.int p6), .val (.int vdc), .val (.int vd0), .val (.int vd1), .val (.int vd2), .val (.int z1), .val (.int z4), .unset, .unset, .unset, .unset] [(.int (6 : Int32)), (.int p2)])) _
    refine XS.ishr X0.here hx rfl (hb hby at_85) rfl ?_
    show Steps p.tables e below (s₁.setTop (mkF m 86 #[.val (.int p1), .val (.int p2), .val (.int p3), .val (.int p4), .val (.int p5), .val (.int p6), .val (.int vdc), .val (.int vd0), .val (.int vd1), .val (.int vd2), .val (.int z1), .val (.int z4), .unset, .unset, .unset, .unset] [(.int (p2 >>> ((6 : Int32) &&& 31)))])) _
    refine XS.iconst X0.here hx rfl (hb hby at_86) ?_
    show Steps p.tables e below (s₁.setTop (mkF m 87 #[.val (.int p1), .val (.int p2), .val (.int p3), .val (.int p4), .val (.int p5), .val (.int p6), .val (.int vdc), .val (.int vd0), .val (.int vd1), .val (.int vd2), .val (.int z1), .val (.int z4), .unset, .unset, .unset, .unset] [(.int (1 : Int32)), (.int (p2 >>> ((6 : Int32) &&& 31)))])) _
    refine XS.iand X0.here hx rfl (hb hby at_87) rfl ?_
    exact k
  obtain ⟨z7, hz7⟩ : ∃ q : Int32, q = (if ((p2 >>> ((6 : Int32) &&& 31)) &&& (1 : Int32)) = (0 : Int32) then (0 : Int32) else (if vd2 < vdc then (1 : Int32) else (0 : Int32))) := ⟨_, rfl⟩
  refine own_go (B := s₁.setTop (mkF m 103 #[.val (.int p1), .val (.int p2), .val (.int p3), .val (.int p4), .val (.int p5), .val (.int p6), .val (.int vdc), .val (.int vd0), .val (.int vd1), .val (.int vd2), .val (.int z1), .val (.int z4), .unset, .unset, .unset, .unset] [(.int z7)])) (fun t k => ?_) ?_
  · by_cases hc88_8 : ((p2 >>> ((6 : Int32) &&& 31)) &&& (1 : Int32)) = (0 : Int32)
    · rw [show z7 = (0 : Int32) from hz7.trans (by rw [if_pos hc88_8])] at k
      show Steps p.tables e below (s₁.setTop (mkF m 88 #[.val (.int p1), .val (.int p2), .val (.int p3), .val (.int p4), .val (.int p5), .val (.int p6), .val (.int vdc), .val (.int vd0), .val (.int vd1), .val (.int vd2), .val (.int z1), .val (.int z4), .unset, .unset, .unset, .unset] [(.int ((p2 >>> ((6 : Int32) &&& 31)) &&& (1 : Int32)))])) _
      refine XS.ifYes X0.here hx rfl (pc0 := 88) (pc' := 102) rfl (hb hby at_88) rfl ((if0 _ _).trans (teq hc88_8).1) (by decide) (by decide) ?_
      show Steps p.tables e below (s₁.setTop (mkF m 102 #[.val (.int p1), .val (.int p2), .val (.int p3), .val (.int p4), .val (.int p5), .val (.int p6), .val (.int vdc), .val (.int vd0), .val (.int vd1), .val (.int vd2), .val (.int z1), .val (.int z4), .unset, .unset, .unset, .unset] [])) _
      refine XS.iconst X0.here hx rfl (hb hby at_102) ?_
      exact k
    · show Steps p.tables e below (s₁.setTop (mkF m 88 #[.val (.int p1), .val (.int p2), .val (.int p3), .val (.int p4), .val (.int p5), .val (.int p6), .val (.int vdc), .val (.int vd0), .val (.int vd1), .val (.int vd2), .val (.int z1), .val (.int z4), .unset, .unset, .unset, .unset] [(.int ((p2 >>> ((6 : Int32) &&& 31)) &&& (1 : Int32)))])) _
      refine XS.ifNo X0.here hx rfl (hb hby at_88) rfl ((if0 _ _).trans (feq hc88_8).1) ?_
      show Steps p.tables e below (s₁.setTop (mkF m 91 #[.val (.int p1), .val (.int p2), .val (.int p3), .val (.int p4), .val (.int p5), .val (.int p6), .val (.int vdc), .val (.int vd0), .val (.int vd1), .val (.int vd2), .val (.int z1), .val (.int z4), .unset, .unset, .unset, .unset] [])) _
      refine XS.iload X0.here hx rfl (hb hby at_91) rfl ?_
      show Steps p.tables e below (s₁.setTop (mkF m 93 #[.val (.int p1), .val (.int p2), .val (.int p3), .val (.int p4), .val (.int p5), .val (.int p6), .val (.int vdc), .val (.int vd0), .val (.int vd1), .val (.int vd2), .val (.int z1), .val (.int z4), .unset, .unset, .unset, .unset] [(.int vd2)])) _
      refine XS.iload X0.here hx rfl (hb hby at_93) rfl ?_
      by_cases hc95_9 : vd2 < vdc
      · rw [show z7 = (1 : Int32) from hz7.trans (by rw [if_neg hc88_8, if_pos hc95_9])] at k
        show Steps p.tables e below (s₁.setTop (mkF m 95 #[.val (.int p1), .val (.int p2), .val (.int p3), .val (.int p4), .val (.int p5), .val (.int p6), .val (.int vdc), .val (.int vd0), .val (.int vd1), .val (.int vd2), .val (.int z1), .val (.int z4), .unset, .unset, .unset, .unset] [(.int vdc), (.int vd2)])) _
        refine XS.icmpNo X0.here hx rfl (hb hby at_95) rfl (tlt hc95_9).2.1 ?_
        show Steps p.tables e below (s₁.setTop (mkF m 98 #[.val (.int p1), .val (.int p2), .val (.int p3), .val (.int p4), .val (.int p5), .val (.int p6), .val (.int vdc), .val (.int vd0), .val (.int vd1), .val (.int vd2), .val (.int z1), .val (.int z4), .unset, .unset, .unset, .unset] [])) _
        refine XS.iconst X0.here hx rfl (hb hby at_98) ?_
        show Steps p.tables e below (s₁.setTop (mkF m 99 #[.val (.int p1), .val (.int p2), .val (.int p3), .val (.int p4), .val (.int p5), .val (.int p6), .val (.int vdc), .val (.int vd0), .val (.int vd1), .val (.int vd2), .val (.int z1), .val (.int z4), .unset, .unset, .unset, .unset] [(.int (1 : Int32))])) _
        refine XS.goto X0.here hx rfl (pc0 := 99) (pc' := 103) rfl (hb hby at_99) (by decide) (by decide) ?_
        exact k
      · rw [show z7 = (0 : Int32) from hz7.trans (by rw [if_neg hc88_8, if_neg hc95_9])] at k
        show Steps p.tables e below (s₁.setTop (mkF m 95 #[.val (.int p1), .val (.int p2), .val (.int p3), .val (.int p4), .val (.int p5), .val (.int p6), .val (.int vdc), .val (.int vd0), .val (.int vd1), .val (.int vd2), .val (.int z1), .val (.int z4), .unset, .unset, .unset, .unset] [(.int vdc), (.int vd2)])) _
        refine XS.icmpYes X0.here hx rfl (pc0 := 95) (pc' := 102) rfl (hb hby at_95) rfl (flt hc95_9).2.1 (by decide) (by decide) ?_
        show Steps p.tables e below (s₁.setTop (mkF m 102 #[.val (.int p1), .val (.int p2), .val (.int p3), .val (.int p4), .val (.int p5), .val (.int p6), .val (.int vdc), .val (.int vd0), .val (.int vd1), .val (.int vd2), .val (.int z1), .val (.int z4), .unset, .unset, .unset, .unset] [])) _
        refine XS.iconst X0.here hx rfl (hb hby at_102) ?_
        exact k
  refine own_go (B := s₁.setTop (mkF m 115 #[.val (.int p1), .val (.int p2), .val (.int p3), .val (.int p4), .val (.int p5), .val (.int p6), .val (.int vdc), .val (.int vd0), .val (.int vd1), .val (.int vd2), .val (.int z1), .val (.int z4), .val (.int z7), .val (.int ((1 : Int32) + ((p2 >>> ((7 : Int32) &&& 31)) &&& (3 : Int32)))), .unset, .unset] [])) (fun t k => ?_) ?_
  · show Steps p.tables e below (s₁.setTop (mkF m 103 #[.val (.int p1), .val (.int p2), .val (.int p3), .val (.int p4), .val (.int p5), .val (.int p6), .val (.int vdc), .val (.int vd0), .val (.int vd1), .val (.int vd2), .val (.int z1), .val (.int z4), .unset, .unset, .unset, .unset] [(.int z7)])) _
    refine XS.istore X0.here hx rfl (hb hby at_103) rfl (l' := #[.val (.int p1), .val (.int p2), .val (.int p3), .val (.int p4), .val (.int p5), .val (.int p6), .val (.int vdc), .val (.int vd0), .val (.int vd1), .val (.int vd2), .val (.int z1), .val (.int z4), .val (.int z7), .unset, .unset, .unset]) rfl ?_
    show Steps p.tables e below (s₁.setTop (mkF m 105 #[.val (.int p1), .val (.int p2), .val (.int p3), .val (.int p4), .val (.int p5), .val (.int p6), .val (.int vdc), .val (.int vd0), .val (.int vd1), .val (.int vd2), .val (.int z1), .val (.int z4), .val (.int z7), .unset, .unset, .unset] [])) _
    refine XS.iconst X0.here hx rfl (hb hby at_105) ?_
    show Steps p.tables e below (s₁.setTop (mkF m 106 #[.val (.int p1), .val (.int p2), .val (.int p3), .val (.int p4), .val (.int p5), .val (.int p6), .val (.int vdc), .val (.int vd0), .val (.int vd1), .val (.int vd2), .val (.int z1), .val (.int z4), .val (.int z7), .unset, .unset, .unset] [(.int (1 : Int32))])) _
    refine XS.iloadN X0.here hx rfl (hb hby at_106) rfl ?_
    show Steps p.tables e below (s₁.setTop (mkF m 107 #[.val (.int p1), .val (.int p2), .val (.int p3), .val (.int p4), .val (.int p5), .val (.int p6), .val (.int vdc), .val (.int vd0), .val (.int vd1), .val (.int vd2), .val (.int z1), .val (.int z4), .val (.int z7), .unset, .unset, .unset] [(.int p2), (.int (1 : Int32))])) _
    refine XS.bipush X0.here hx rfl (hb hby at_107) ?_
    show Steps p.tables e below (s₁.setTop (mkF m 109 #[.val (.int p1), .val (.int p2), .val (.int p3), .val (.int p4), .val (.int p5), .val (.int p6), .val (.int vdc), .val (.int vd0), .val (.int vd1), .val (.int vd2), .val (.int z1), .val (.int z4), .val (.int z7), .unset, .unset, .unset] [(.int (7 : Int32)), (.int p2), (.int (1 : Int32))])) _
    refine XS.ishr X0.here hx rfl (hb hby at_109) rfl ?_
    show Steps p.tables e below (s₁.setTop (mkF m 110 #[.val (.int p1), .val (.int p2), .val (.int p3), .val (.int p4), .val (.int p5), .val (.int p6), .val (.int vdc), .val (.int vd0), .val (.int vd1), .val (.int vd2), .val (.int z1), .val (.int z4), .val (.int z7), .unset, .unset, .unset] [(.int (p2 >>> ((7 : Int32) &&& 31))), (.int (1 : Int32))])) _
    refine XS.iconst X0.here hx rfl (hb hby at_110) ?_
    show Steps p.tables e below (s₁.setTop (mkF m 111 #[.val (.int p1), .val (.int p2), .val (.int p3), .val (.int p4), .val (.int p5), .val (.int p6), .val (.int vdc), .val (.int vd0), .val (.int vd1), .val (.int vd2), .val (.int z1), .val (.int z4), .val (.int z7), .unset, .unset, .unset] [(.int (3 : Int32)), (.int (p2 >>> ((7 : Int32) &&& 31))), (.int (1 : Int32))])) _
    refine XS.iand X0.here hx rfl (hb hby at_111) rfl ?_
    show Steps p.tables e below (s₁.setTop (mkF m 112 #[.val (.int p1), .val (.int p2), .val (.int p3), .val (.int p4), .val (.int p5), .val (.int p6), .val (.int vdc), .val (.int vd0), .val (.int vd1), .val (.int vd2), .val (.int z1), .val (.int z4), .val (.int z7), .unset, .unset, .unset] [(.int ((p2 >>> ((7 : Int32) &&& 31)) &&& (3 : Int32))), (.int (1 : Int32))])) _
    refine XS.iadd X0.here hx rfl (hb hby at_112) rfl ?_
    show Steps p.tables e below (s₁.setTop (mkF m 113 #[.val (.int p1), .val (.int p2), .val (.int p3), .val (.int p4), .val (.int p5), .val (.int p6), .val (.int vdc), .val (.int vd0), .val (.int vd1), .val (.int vd2), .val (.int z1), .val (.int z4), .val (.int z7), .unset, .unset, .unset] [(.int ((1 : Int32) + ((p2 >>> ((7 : Int32) &&& 31)) &&& (3 : Int32))))])) _
    refine XS.istore X0.here hx rfl (hb hby at_113) rfl (l' := #[.val (.int p1), .val (.int p2), .val (.int p3), .val (.int p4), .val (.int p5), .val (.int p6), .val (.int vdc), .val (.int vd0), .val (.int vd1), .val (.int vd2), .val (.int z1), .val (.int z4), .val (.int z7), .val (.int ((1 : Int32) + ((p2 >>> ((7 : Int32) &&& 31)) &&& (3 : Int32)))), .unset, .unset]) rfl ?_
    exact k
  obtain ⟨vcap, hvcap⟩ : ∃ z : Int32, z = ((1 : Int32) + ((p2 >>> ((7 : Int32) &&& 31)) &&& (3 : Int32))) := ⟨_, rfl⟩
  refine own_go (B := s₁.setTop (mkF m 115 #[.val (.int p1), .val (.int p2), .val (.int p3), .val (.int p4), .val (.int p5), .val (.int p6), .val (.int vdc), .val (.int vd0), .val (.int vd1), .val (.int vd2), .val (.int z1), .val (.int z4), .val (.int z7), .val (.int vcap), .unset, .unset] [])) (fun t k => by rw [hvcap] at k; exact k) ?_
  have hvc : 1 ≤ vcap.toInt ∧ vcap.toInt ≤ 4 := by rw [hvcap]; exact own_cap _
  clear hvcap
  have hcapN : ¬ vcap < 0 ∧ vcap.toNatClampNeg ≤ 4 := own_clamp (by omega) hvc.2
  have hcap0 : (0 : Int32) < vcap := own_ltI (by show (0 : Int) < _; omega)
  obtain ⟨T10, h10, X10, e10, E10, A10, D10, -, st10⟩ := newO X0 hx hZ hown (hw _ (List.mem_of_getElem? (i := 1) rfl)) (hw _ (List.mem_of_getElem? (i := 2) rfl)) (hw _ (List.mem_of_getElem? (i := 3) rfl)) e0 (g := (mkF m 115 #[.val (.int p1), .val (.int p2), .val (.int p3), .val (.int p4), .val (.int p5), .val (.int p6), .val (.int vdc), .val (.int vd0), .val (.int vd1), .val (.int vd2), .val (.int z1), .val (.int z4), .val (.int z7), .val (.int vcap), .unset, .unset] [])) rfl (hb hby at_115) (by decide) (by decide)
  obtain ⟨b10, g10⟩ : ∃ z, z = h0.size := ⟨_, rfl⟩
  rw [← g10] at A10 D10 st10
  have g_b10 : n0 ≤ b10 := Nat.le_trans Z0 (Nat.le_of_eq g10.symm)
  have F10_term : Fld Z h10 b10 "com/example/libqlm/libqlm/Postings" "term" "I" (.int (0 : Int32)) := D10 (Or.inr (hw _ (List.mem_of_getElem? (i := 11) rfl))) (ty := .int) (by decide)
  have F10_documents : Fld Z h10 b10 "com/example/libqlm/libqlm/Postings" "documents" "[I" .null := D10 (Or.inl (hw _ (List.mem_of_getElem? (i := 14) rfl))) (ty := (.array .int)) (by decide)
  have F10_frequencies : Fld Z h10 b10 "com/example/libqlm/libqlm/Postings" "frequencies" "[I" .null := D10 (Or.inl (hw _ (List.mem_of_getElem? (i := 16) rfl))) (ty := (.array .int)) (by decide)
  have F10_size : Fld Z h10 b10 "com/example/libqlm/libqlm/Postings" "size" "I" (.int (0 : Int32)) := D10 (Or.inl (hw _ (List.mem_of_getElem? (i := 23) rfl))) (ty := .int) (by decide)
  have F10_collectionFrequency : Fld Z h10 b10 "com/example/libqlm/libqlm/Postings" "collectionFrequency" "J" (.long (0 : Int64)) := D10 (Or.inl (hw _ (List.mem_of_getElem? (i := 34) rfl))) (ty := .long) (by decide)
  refine own_go (B := T10.setTop (mkF m 118 #[.val (.int p1), .val (.int p2), .val (.int p3), .val (.int p4), .val (.int p5), .val (.int p6), .val (.int vdc), .val (.int vd0), .val (.int vd1), .val (.int vd2), .val (.int z1), .val (.int z4), .val (.int z7), .val (.int vcap), .unset, .unset] [(.ref b10)])) (fun t k => st10 _ k) ?_
  refine own_go (B := T10.setTop (mkF m 123 #[.val (.int p1), .val (.int p2), .val (.int p3), .val (.int p4), .val (.int p5), .val (.int p6), .val (.int vdc), .val (.int vd0), .val (.int vd1), .val (.int vd2), .val (.int z1), .val (.int z4), .val (.int z7), .val (.int vcap), .unset, .unset] [(.int vcap), (.int p6), (.ref b10), (.ref b10)])) (fun t k => ?_) ?_
  · show Steps p.tables e below (T10.setTop (mkF m 118 #[.val (.int p1), .val (.int p2), .val (.int p3), .val (.int p4), .val (.int p5), .val (.int p6), .val (.int vdc), .val (.int vd0), .val (.int vd1), .val (.int vd2), .val (.int z1), .val (.int z4), .val (.int z7), .val (.int vcap), .unset, .unset] [(.ref b10)])) _
    refine XS.dup X10.here hx rfl (hb hby at_118) rfl rfl ?_
    show Steps p.tables e below (T10.setTop (mkF m 119 #[.val (.int p1), .val (.int p2), .val (.int p3), .val (.int p4), .val (.int p5), .val (.int p6), .val (.int vdc), .val (.int vd0), .val (.int vd1), .val (.int vd2), .val (.int z1), .val (.int z4), .val (.int z7), .val (.int vcap), .unset, .unset] [(.ref b10), (.ref b10)])) _
    refine XS.iload X10.here hx rfl (hb hby at_119) rfl ?_
    show Steps p.tables e below (T10.setTop (mkF m 121 #[.val (.int p1), .val (.int p2), .val (.int p3), .val (.int p4), .val (.int p5), .val (.int p6), .val (.int vdc), .val (.int vd0), .val (.int vd1), .val (.int vd2), .val (.int z1), .val (.int z4), .val (.int z7), .val (.int vcap), .unset, .unset] [(.int p6), (.ref b10), (.ref b10)])) _
    refine XS.iload X10.here hx rfl (hb hby at_121) rfl ?_
    exact k
  obtain ⟨_, _, ⟨T11, L11, k11, n11⟩, -, X11, ⟨Lc11, hQ11, l11, y11, z11⟩, st11⟩ := X10.specialBack hx (y := (⟨"com/example/libqlm/libqlm/Postings", "<init>", "(II)V"⟩ : MethodName)) rfl hown (mvT hZ (hw _ (List.mem_of_getElem? (i := 4) rfl))) (mvT hZ (hw _ (List.mem_of_getElem? (i := 5) rfl))) (mvT hZ (hw _ (List.mem_of_getElem? (i := 6) rfl))) (by decide) (backOf (W := 1) (rm1 l Z a0 hw [] b10 p6 vcap h10 n0 (Nat.le_trans Z0 E10.1) A10 g_b10 F10_term F10_documents F10_frequencies F10_size F10_collectionFrequency hcapN) hZ (hw _ (List.mem_of_getElem? (i := 6) rfl)) (hw _ (List.mem_of_getElem? (i := 3) rfl)) (by decide) (by decide)) (g := (mkF m 123 #[.val (.int p1), .val (.int p2), .val (.int p3), .val (.int p4), .val (.int p5), .val (.int p6), .val (.int vdc), .val (.int vd0), .val (.int vd1), .val (.int vd2), .val (.int z1), .val (.int z4), .val (.int z7), .val (.int vcap), .unset, .unset] [(.int vcap), (.int p6), (.ref b10), (.ref b10)])) rfl (by rw [hml]; rfl) (Steps.refl _) (a := b10) (argsL := [(.int p6), (.int vcap)]) (rest := [(.ref b10)]) (lenOf own_pd3 rfl) rfl (by show 2 * 0 + _ ≤ _; exact Nat.le_of_eq rfl) (hb hby at_123) (fun _ _ => ⟨rfl, e10, (by decide : 1 + 2 ≤ _), (by decide : 5 + 8 ≤ _)⟩)
  dsimp only [Pt.U, Pt.locs, Pt.cells, Pt.slots] at X11 l11 y11 z11 st11 hQ11
  subst l11 y11 z11
  obtain ⟨rfl, N11q, d11, f11, kd11, kf11, K11q, E11q, F11_s, F11_d, F11_f, F11_c, V11_d, V11_f, q11_d11, q11_f11, g_d11, g_f11, ne11_df⟩ := hQ11
  have N11 := Fr.app N0 N11q
  have ne_b10_d11 : b10 ≠ d11 := Nat.ne_of_lt (Nat.lt_of_lt_of_le A10.lt q11_d11)
  have ne_b10_f11 : b10 ≠ f11 := Nat.ne_of_lt (Nat.lt_of_lt_of_le A10.lt q11_f11)
  refine own_go (B := T11.setTop (mkF m 126 #[.val (.int p1), .val (.int p2), .val (.int p3), .val (.int p4), .val (.int p5), .val (.int p6), .val (.int vdc), .val (.int vd0), .val (.int vd1), .val (.int vd2), .val (.int z1), .val (.int z4), .val (.int z7), .val (.int vcap), .unset, .unset] [(.ref b10)])) (fun t k => st11.trans k) ?_
  refine own_go (B := T11.setTop (mkF m 130 #[.val (.int p1), .val (.int p2), .val (.int p3), .val (.int p4), .val (.int p5), .val (.int p6), .val (.int vdc), .val (.int vd0), .val (.int vd1), .val (.int vd2), .val (.int z1), .val (.int z4), .val (.int z7), .val (.int vcap), .val (.ref b10), .unset] [(.int z1)])) (fun t k => ?_) ?_
  · show Steps p.tables e below (T11.setTop (mkF m 126 #[.val (.int p1), .val (.int p2), .val (.int p3), .val (.int p4), .val (.int p5), .val (.int p6), .val (.int vdc), .val (.int vd0), .val (.int vd1), .val (.int vd2), .val (.int z1), .val (.int z4), .val (.int z7), .val (.int vcap), .unset, .unset] [(.ref b10)])) _
    refine XS.astore X11.here hx rfl (hb hby at_126) rfl rfl (l' := #[.val (.int p1), .val (.int p2), .val (.int p3), .val (.int p4), .val (.int p5), .val (.int p6), .val (.int vdc), .val (.int vd0), .val (.int vd1), .val (.int vd2), .val (.int z1), .val (.int z4), .val (.int z7), .val (.int vcap), .val (.ref b10), .unset]) rfl ?_
    show Steps p.tables e below (T11.setTop (mkF m 128 #[.val (.int p1), .val (.int p2), .val (.int p3), .val (.int p4), .val (.int p5), .val (.int p6), .val (.int vdc), .val (.int vd0), .val (.int vd1), .val (.int vd2), .val (.int z1), .val (.int z4), .val (.int z7), .val (.int vcap), .val (.ref b10), .unset] [])) _
    refine XS.iload X11.here hx rfl (hb hby at_128) rfl ?_
    exact k
  by_cases hc130_12 : z1 = (0 : Int32)
  · refine own_go (B := T11.setTop (mkF m 143 #[.val (.int p1), .val (.int p2), .val (.int p3), .val (.int p4), .val (.int p5), .val (.int p6), .val (.int vdc), .val (.int vd0), .val (.int vd1), .val (.int vd2), .val (.int z1), .val (.int z4), .val (.int z7), .val (.int vcap), .val (.ref b10), .unset] [(.int z4)])) (fun t k => ?_) ?_
    · show Steps p.tables e below (T11.setTop (mkF m 130 #[.val (.int p1), .val (.int p2), .val (.int p3), .val (.int p4), .val (.int p5), .val (.int p6), .val (.int vdc), .val (.int vd0), .val (.int vd1), .val (.int vd2), .val (.int z1), .val (.int z4), .val (.int z7), .val (.int vcap), .val (.ref b10), .unset] [(.int z1)])) _
      refine XS.ifYes X11.here hx rfl (pc0 := 130) (pc' := 141) rfl (hb hby at_130) rfl ((if0 _ _).trans (teq hc130_12).1) (by decide) (by decide) ?_
      show Steps p.tables e below (T11.setTop (mkF m 141 #[.val (.int p1), .val (.int p2), .val (.int p3), .val (.int p4), .val (.int p5), .val (.int p6), .val (.int vdc), .val (.int vd0), .val (.int vd1), .val (.int vd2), .val (.int z1), .val (.int z4), .val (.int z7), .val (.int vcap), .val (.ref b10), .unset] [])) _
      refine XS.iload X11.here hx rfl (hb hby at_141) rfl ?_
      exact k
    by_cases hc143_13 : z4 = (0 : Int32)
    · refine own_go (B := T11.setTop (mkF m 156 #[.val (.int p1), .val (.int p2), .val (.int p3), .val (.int p4), .val (.int p5), .val (.int p6), .val (.int vdc), .val (.int vd0), .val (.int vd1), .val (.int vd2), .val (.int z1), .val (.int z4), .val (.int z7), .val (.int vcap), .val (.ref b10), .unset] [(.int z7)])) (fun t k => ?_) ?_
      · show Steps p.tables e below (T11.setTop (mkF m 143 #[.val (.int p1), .val (.int p2), .val (.int p3), .val (.int p4), .val (.int p5), .val (.int p6), .val (.int vdc), .val (.int vd0), .val (.int vd1), .val (.int vd2), .val (.int z1), .val (.int z4), .val (.int z7), .val (.int vcap), .val (.ref b10), .unset] [(.int z4)])) _
        refine XS.ifYes X11.here hx rfl (pc0 := 143) (pc' := 154) rfl (hb hby at_143) rfl ((if0 _ _).trans (teq hc143_13).1) (by decide) (by decide) ?_
        show Steps p.tables e below (T11.setTop (mkF m 154 #[.val (.int p1), .val (.int p2), .val (.int p3), .val (.int p4), .val (.int p5), .val (.int p6), .val (.int vdc), .val (.int vd0), .val (.int vd1), .val (.int vd2), .val (.int z1), .val (.int z4), .val (.int z7), .val (.int vcap), .val (.ref b10), .unset] [])) _
        refine XS.iload X11.here hx rfl (hb hby at_154) rfl ?_
        exact k
      by_cases hc156_14 : z7 = (0 : Int32)
      · refine own_go (B := T11.setTop (mkF m 172 #[.val (.int p1), .val (.int p2), .val (.int p3), .val (.int p4), .val (.int p5), .val (.int p6), .val (.int vdc), .val (.int vd0), .val (.int vd1), .val (.int vd2), .val (.int z1), .val (.int z4), .val (.int z7), .val (.int vcap), .val (.ref b10), .unset] [(.int vdc), (.ref b10)])) (fun t k => ?_) ?_
        · show Steps p.tables e below (T11.setTop (mkF m 156 #[.val (.int p1), .val (.int p2), .val (.int p3), .val (.int p4), .val (.int p5), .val (.int p6), .val (.int vdc), .val (.int vd0), .val (.int vd1), .val (.int vd2), .val (.int z1), .val (.int z4), .val (.int z7), .val (.int vcap), .val (.ref b10), .unset] [(.int z7)])) _
          refine XS.ifYes X11.here hx rfl (pc0 := 156) (pc' := 168) rfl (hb hby at_156) rfl ((if0 _ _).trans (teq hc156_14).1) (by decide) (by decide) ?_
          show Steps p.tables e below (T11.setTop (mkF m 168 #[.val (.int p1), .val (.int p2), .val (.int p3), .val (.int p4), .val (.int p5), .val (.int p6), .val (.int vdc), .val (.int vd0), .val (.int vd1), .val (.int vd2), .val (.int z1), .val (.int z4), .val (.int z7), .val (.int vcap), .val (.ref b10), .unset] [])) _
          refine XS.aload X11.here hx rfl (hb hby at_168) rfl rfl ?_
          show Steps p.tables e below (T11.setTop (mkF m 170 #[.val (.int p1), .val (.int p2), .val (.int p3), .val (.int p4), .val (.int p5), .val (.int p6), .val (.int vdc), .val (.int vd0), .val (.int vd1), .val (.int vd2), .val (.int z1), .val (.int z4), .val (.int z7), .val (.int vcap), .val (.ref b10), .unset] [(.ref b10)])) _
          refine XS.iload X11.here hx rfl (hb hby at_170) rfl ?_
          exact k
        obtain ⟨cq15, kq15, q15a, q15b, q15c⟩ := isOf hZ rfl E11q
        obtain ⟨_, _, ⟨T15, L15, k15, n15⟩, -, X15, ⟨Lc15, hQ15, l15, y15, z15⟩, st15⟩ := X11.virtualBack hx (y := (⟨"com/example/libqlm/libqlm/Postings", "frequenciesByDocument", "(I)[I"⟩ : MethodName)) (z := (⟨"com/example/libqlm/libqlm/Postings", "frequenciesByDocument", "(I)[I"⟩ : MethodName)) hown (mvT hZ (hw _ (List.mem_of_getElem? (i := 17) rfl))) (mvT hZ (hw _ (List.mem_of_getElem? (i := 18) rfl))) (notFace_of_selects (args := #[]) (mvT hZ (hw _ (List.mem_of_getElem? (i := 20) rfl)))) (mvT hZ (hw _ (List.mem_of_getElem? (i := 20) rfl))) (mvT hZ (hw _ (List.mem_of_getElem? (i := 19) rfl))) (by decide) (backOf (W := 0) (rm3_0 l Z a0 hw [] b10 vdc d11 f11 kd11 kf11 vcap   T11.heap n0 (Nat.le_trans (Nat.le_trans Z0 E10.1) K11q.1) F11_s F11_d F11_f V11_d V11_f hdcN  ) hZ (hw _ (List.mem_of_getElem? (i := 21) rfl)) (hw _ (List.mem_of_getElem? (i := 3) rfl)) (by decide) (by decide)) q15a q15c (g := (mkF m 172 #[.val (.int p1), .val (.int p2), .val (.int p3), .val (.int p4), .val (.int p5), .val (.int p6), .val (.int vdc), .val (.int vd0), .val (.int vd1), .val (.int vd2), .val (.int z1), .val (.int z4), .val (.int z7), .val (.int vcap), .val (.ref b10), .unset] [(.int vdc), (.ref b10)])) rfl (by rw [hml]; rfl) (Steps.refl _) (argsL := [(.int vdc)]) (rest := []) (lenOf own_pd4 rfl) rfl (by show 2 * 0 + _ ≤ _; exact Nat.le_of_eq rfl) (hb hby at_172) (fun _ _ => ⟨rfl, rfl, (by decide : 3 + 1 ≤ _), (by decide : 13 + 8 ≤ _)⟩)
        dsimp only [Pt.U, Pt.locs, Pt.cells, Pt.slots] at X15 l15 y15 z15 st15 hQ15
        subst l15 y15 z15
        obtain ⟨r15, kr15, rfl, N15q, K15q, V15q⟩ := hQ15
        have N15 := Fr.app N11 N15q
        have c15_E_b10 := E11q.keep K15q
        have c15_F_b10_size := F11_s.keep K15q (List.not_mem_nil)
        have c15_F_b10_documents := F11_d.keep K15q (List.not_mem_nil)
        have c15_F_b10_frequencies := F11_f.keep K15q (List.not_mem_nil)
        have c15_F_b10_collectionFrequency := F11_c.keep K15q (List.not_mem_nil)
        have c15_V_d11 := V11_d.keep K15q (List.not_mem_nil)
        have c15_V_f11 := V11_f.keep K15q (List.not_mem_nil)
        refine own_go (B := T15.setTop (mkF m 175 #[.val (.int p1), .val (.int p2), .val (.int p3), .val (.int p4), .val (.int p5), .val (.int p6), .val (.int vdc), .val (.int vd0), .val (.int vd1), .val (.int vd2), .val (.int z1), .val (.int z4), .val (.int z7), .val (.int vcap), .val (.ref b10), .unset] [(.ref r15)])) (fun t k => st15.trans k) ?_
        refine own_go (B := T15.setTop (mkF m 184 #[.val (.int p1), .val (.int p2), .val (.int p3), .val (.int p4), .val (.int p5), .val (.int p6), .val (.int vdc), .val (.int vd0), .val (.int vd1), .val (.int vd2), .val (.int z1), .val (.int z4), .val (.int z7), .val (.int vcap), .val (.ref b10), .val (.ref r15)] [(.ref r15)])) (fun t k => ?_) ?_
        · show Steps p.tables e below (T15.setTop (mkF m 175 #[.val (.int p1), .val (.int p2), .val (.int p3), .val (.int p4), .val (.int p5), .val (.int p6), .val (.int vdc), .val (.int vd0), .val (.int vd1), .val (.int vd2), .val (.int z1), .val (.int z4), .val (.int z7), .val (.int vcap), .val (.ref b10), .unset] [(.ref r15)])) _
          refine XS.astore X15.here hx rfl (hb hby at_175) rfl rfl (l' := #[.val (.int p1), .val (.int p2), .val (.int p3), .val (.int p4), .val (.int p5), .val (.int p6), .val (.int vdc), .val (.int vd0), .val (.int vd1), .val (.int vd2), .val (.int z1), .val (.int z4), .val (.int z7), .val (.int vcap), .val (.ref b10), .val (.ref r15)]) rfl ?_
          show Steps p.tables e below (T15.setTop (mkF m 177 #[.val (.int p1), .val (.int p2), .val (.int p3), .val (.int p4), .val (.int p5), .val (.int p6), .val (.int vdc), .val (.int vd0), .val (.int vd1), .val (.int vd2), .val (.int z1), .val (.int z4), .val (.int z7), .val (.int vcap), .val (.ref b10), .val (.ref r15)] [])) _
          refine XS.aload X15.here hx rfl (hb hby at_177) rfl rfl ?_
          show Steps p.tables e below (T15.setTop (mkF m 179 #[.val (.int p1), .val (.int p2), .val (.int p3), .val (.int p4), .val (.int p5), .val (.int p6), .val (.int vdc), .val (.int vd0), .val (.int vd1), .val (.int vd2), .val (.int z1), .val (.int z4), .val (.int z7), .val (.int vcap), .val (.ref b10), .val (.ref r15)] [(.ref r15)])) _
          refine XS.ifnullNo X15.here hx rfl (hb hby at_179) rfl ?_
          show Steps p.tables e below (T15.setTop (mkF m 182 #[.val (.int p1), .val (.int p2), .val (.int p3), .val (.int p4), .val (.int p5), .val (.int p6), .val (.int vdc), .val (.int vd0), .val (.int vd1), .val (.int vd2), .val (.int z1), .val (.int z4), .val (.int z7), .val (.int vcap), .val (.ref b10), .val (.ref r15)] [])) _
          refine XS.aload X15.here hx rfl (hb hby at_182) rfl rfl ?_
          exact k
        obtain ⟨cl_r, Ar_r, q_r, S_r, M_r, H_r, G_r⟩ := id V15q
        refine own_go (B := T15.setTop (mkF m 192 #[.val (.int p1), .val (.int p2), .val (.int p3), .val (.int p4), .val (.int p5), .val (.int p6), .val (.int vdc), .val (.int vd0), .val (.int vd1), .val (.int vd2), .val (.int z1), .val (.int z4), .val (.int z7), .val (.int vcap), .val (.ref b10), .val (.ref r15)] [])) (fun t k => ?_) ?_
        · show Steps p.tables e below (T15.setTop (mkF m 184 #[.val (.int p1), .val (.int p2), .val (.int p3), .val (.int p4), .val (.int p5), .val (.int p6), .val (.int vdc), .val (.int vd0), .val (.int vd1), .val (.int vd2), .val (.int z1), .val (.int z4), .val (.int z7), .val (.int vcap), .val (.ref b10), .val (.ref r15)] [(.ref r15)])) _
          refine X15.arraylength hx Ar_r.1 (State.isArrayOf_alike hZ.alike Ar_r.2.1) (g := (mkF m 184 #[.val (.int p1), .val (.int p2), .val (.int p3), .val (.int p4), .val (.int p5), .val (.int p6), .val (.int vdc), .val (.int vd0), .val (.int vd1), .val (.int vd2), .val (.int z1), .val (.int z4), .val (.int z7), .val (.int vcap), .val (.ref b10), .val (.ref r15)] [(.ref r15)])) rfl rfl (hb hby at_184) _ ?_
          rw [len_of S_r M_r]
          show Steps p.tables e below (T15.setTop (mkF m 185 #[.val (.int p1), .val (.int p2), .val (.int p3), .val (.int p4), .val (.int p5), .val (.int p6), .val (.int vdc), .val (.int vd0), .val (.int vd1), .val (.int vd2), .val (.int z1), .val (.int z4), .val (.int z7), .val (.int vcap), .val (.ref b10), .val (.ref r15)] [(.int vdc)])) _
          refine XS.iload X15.here hx rfl (hb hby at_185) rfl ?_
          show Steps p.tables e below (T15.setTop (mkF m 187 #[.val (.int p1), .val (.int p2), .val (.int p3), .val (.int p4), .val (.int p5), .val (.int p6), .val (.int vdc), .val (.int vd0), .val (.int vd1), .val (.int vd2), .val (.int z1), .val (.int z4), .val (.int z7), .val (.int vcap), .val (.ref b10), .val (.ref r15)] [(.int vdc), (.int vdc)])) _
          refine XS.icmpYes X15.here hx rfl (pc0 := 187) (pc' := 192) rfl (hb hby at_187) rfl (teq rfl).1 (by decide) (by decide) ?_
          exact k
        have htl := own_tail p1 p2 p3 p4 p5 p6 vdc vd0 vd1 vd2 z1 z4 z7 vcap b10 r15 kr15 [] X15 hx hZ hw hby hml hown Bd rfl N15 (Nat.le_trans (Nat.le_trans (Nat.le_trans Z0 E10.1) K11q.1) K15q.1) (by decide) (by decide) V15q (fun i => by simp only [own_gv, own_e, own_e1, if_pos hc130_12, if_pos hc143_13, if_pos hc156_14])
        exact htl
      · refine own_go (B := T11.setTop (mkF m 159 #[.val (.int p1), .val (.int p2), .val (.int p3), .val (.int p4), .val (.int p5), .val (.int p6), .val (.int vdc), .val (.int vd0), .val (.int vd1), .val (.int vd2), .val (.int z1), .val (.int z4), .val (.int z7), .val (.int vcap), .val (.ref b10), .unset] [])) (fun t k => ?_) ?_
        · show Steps p.tables e below (T11.setTop (mkF m 156 #[.val (.int p1), .val (.int p2), .val (.int p3), .val (.int p4), .val (.int p5), .val (.int p6), .val (.int vdc), .val (.int vd0), .val (.int vd1), .val (.int vd2), .val (.int z1), .val (.int z4), .val (.int z7), .val (.int vcap), .val (.ref b10), .unset] [(.int z7)])) _
          refine XS.ifNo X11.here hx rfl (hb hby at_156) rfl ((if0 _ _).trans (feq hc156_14).1) ?_
          exact k
        have hlt_vd2 : vd2 < vdc := own_in hz7 hc156_14
        refine own_go (B := T11.setTop (mkF m 165 #[.val (.int p1), .val (.int p2), .val (.int p3), .val (.int p4), .val (.int p5), .val (.int p6), .val (.int vdc), .val (.int vd0), .val (.int vd1), .val (.int vd2), .val (.int z1), .val (.int z4), .val (.int z7), .val (.int vcap), .val (.ref b10), .unset] [(.int p5), (.int vd2), (.ref b10)])) (fun t k => ?_) ?_
        · show Steps p.tables e below (T11.setTop (mkF m 159 #[.val (.int p1), .val (.int p2), .val (.int p3), .val (.int p4), .val (.int p5), .val (.int p6), .val (.int vdc), .val (.int vd0), .val (.int vd1), .val (.int vd2), .val (.int z1), .val (.int z4), .val (.int z7), .val (.int vcap), .val (.ref b10), .unset] [])) _
          refine XS.aload X11.here hx rfl (hb hby at_159) rfl rfl ?_
          show Steps p.tables e below (T11.setTop (mkF m 161 #[.val (.int p1), .val (.int p2), .val (.int p3), .val (.int p4), .val (.int p5), .val (.int p6), .val (.int vdc), .val (.int vd0), .val (.int vd1), .val (.int vd2), .val (.int z1), .val (.int z4), .val (.int z7), .val (.int vcap), .val (.ref b10), .unset] [(.ref b10)])) _
          refine XS.iload X11.here hx rfl (hb hby at_161) rfl ?_
          show Steps p.tables e below (T11.setTop (mkF m 163 #[.val (.int p1), .val (.int p2), .val (.int p3), .val (.int p4), .val (.int p5), .val (.int p6), .val (.int vdc), .val (.int vd0), .val (.int vd1), .val (.int vd2), .val (.int z1), .val (.int z4), .val (.int z7), .val (.int vcap), .val (.ref b10), .unset] [(.int vd2), (.ref b10)])) _
          refine XS.iload X11.here hx rfl (hb hby at_163) rfl ?_
          exact k
        obtain ⟨cq16, kq16, q16a, q16b, q16c⟩ := isOf hZ rfl E11q
        obtain ⟨_, _, ⟨T16, L16, k16, n16⟩, -, X16, ⟨Lc16, hQ16, l16, y16, z16⟩, st16⟩ := X11.virtualBack hx (y := (⟨"com/example/libqlm/libqlm/Postings", "add", "(II)V"⟩ : MethodName)) (z := (⟨"com/example/libqlm/libqlm/Postings", "add", "(II)V"⟩ : MethodName)) hown (mvT hZ (hw _ (List.mem_of_getElem? (i := 28) rfl))) (mvT hZ (hw _ (List.mem_of_getElem? (i := 29) rfl))) (notFace_of_selects (args := #[]) (mvT hZ (hw _ (List.mem_of_getElem? (i := 31) rfl)))) (mvT hZ (hw _ (List.mem_of_getElem? (i := 31) rfl))) (mvT hZ (hw _ (List.mem_of_getElem? (i := 30) rfl))) (by decide) (backOf (W := 0) (rm5_0 l Z a0 hw [] b10 vd2 p5 d11 f11 kd11 kf11 vcap (0 : Int64)  T11.heap n0 (Nat.le_trans (Nat.le_trans Z0 E10.1) K11q.1) E11q g_b10 g_d11 g_f11 F11_s F11_d F11_f F11_c V11_d V11_f ne_b10_d11 ne_b10_f11 ne11_df hcap0) hZ (hw _ (List.mem_of_getElem? (i := 32) rfl)) (hw _ (List.mem_of_getElem? (i := 3) rfl)) (by decide) (by decide)) q16a q16c (g := (mkF m 165 #[.val (.int p1), .val (.int p2), .val (.int p3), .val (.int p4), .val (.int p5), .val (.int p6), .val (.int vdc), .val (.int vd0), .val (.int vd1), .val (.int vd2), .val (.int z1), .val (.int z4), .val (.int z7), .val (.int vcap), .val (.ref b10), .unset] [(.int p5), (.int vd2), (.ref b10)])) rfl (by rw [hml]; rfl) (Steps.refl _) (argsL := [(.int vd2), (.int p5)]) (rest := []) (lenOf own_pd3 rfl) rfl (by show 2 * 0 + _ ≤ _; exact Nat.le_of_eq rfl) (hb hby at_165) (fun _ _ => ⟨rfl, rfl, (by decide : 3 + 0 ≤ _), (by decide : 13 + 0 ≤ _)⟩)
        dsimp only [Pt.U, Pt.locs, Pt.cells, Pt.slots] at X16 l16 y16 z16 st16 hQ16
        subst l16 y16 z16
        obtain ⟨rfl, N16q, K16q, E16q, F16_s, F16_d, F16_f, F16_c, V16_d, V16_f⟩ := hQ16
        have N16 := Fr.app N11 N16q
        refine own_go (B := T16.setTop (mkF m 168 #[.val (.int p1), .val (.int p2), .val (.int p3), .val (.int p4), .val (.int p5), .val (.int p6), .val (.int vdc), .val (.int vd0), .val (.int vd1), .val (.int vd2), .val (.int z1), .val (.int z4), .val (.int z7), .val (.int vcap), .val (.ref b10), .unset] [])) (fun t k => st16.trans k) ?_
        refine own_go (B := T16.setTop (mkF m 172 #[.val (.int p1), .val (.int p2), .val (.int p3), .val (.int p4), .val (.int p5), .val (.int p6), .val (.int vdc), .val (.int vd0), .val (.int vd1), .val (.int vd2), .val (.int z1), .val (.int z4), .val (.int z7), .val (.int vcap), .val (.ref b10), .unset] [(.int vdc), (.ref b10)])) (fun t k => ?_) ?_
        · show Steps p.tables e below (T16.setTop (mkF m 168 #[.val (.int p1), .val (.int p2), .val (.int p3), .val (.int p4), .val (.int p5), .val (.int p6), .val (.int vdc), .val (.int vd0), .val (.int vd1), .val (.int vd2), .val (.int z1), .val (.int z4), .val (.int z7), .val (.int vcap), .val (.ref b10), .unset] [])) _
          refine XS.aload X16.here hx rfl (hb hby at_168) rfl rfl ?_
          show Steps p.tables e below (T16.setTop (mkF m 170 #[.val (.int p1), .val (.int p2), .val (.int p3), .val (.int p4), .val (.int p5), .val (.int p6), .val (.int vdc), .val (.int vd0), .val (.int vd1), .val (.int vd2), .val (.int z1), .val (.int z4), .val (.int z7), .val (.int vcap), .val (.ref b10), .unset] [(.ref b10)])) _
          refine XS.iload X16.here hx rfl (hb hby at_170) rfl ?_
          exact k
        obtain ⟨cq17, kq17, q17a, q17b, q17c⟩ := isOf hZ rfl E16q
        obtain ⟨_, _, ⟨T17, L17, k17, n17⟩, -, X17, ⟨Lc17, hQ17, l17, y17, z17⟩, st17⟩ := X16.virtualBack hx (y := (⟨"com/example/libqlm/libqlm/Postings", "frequenciesByDocument", "(I)[I"⟩ : MethodName)) (z := (⟨"com/example/libqlm/libqlm/Postings", "frequenciesByDocument", "(I)[I"⟩ : MethodName)) hown (mvT hZ (hw _ (List.mem_of_getElem? (i := 17) rfl))) (mvT hZ (hw _ (List.mem_of_getElem? (i := 18) rfl))) (notFace_of_selects (args := #[]) (mvT hZ (hw _ (List.mem_of_getElem? (i := 20) rfl)))) (mvT hZ (hw _ (List.mem_of_getElem? (i := 20) rfl))) (mvT hZ (hw _ (List.mem_of_getElem? (i := 19) rfl))) (by decide) (backOf (W := 0) (rm3_1 l Z a0 hw [] b10 vdc d11 f11 kd11 kf11 vcap vd2 p5 T16.heap n0 (Nat.le_trans (Nat.le_trans (Nat.le_trans Z0 E10.1) K11q.1) K16q.1) F16_s F16_d F16_f V16_d V16_f hdcN hcap0 ⟨hnn_vd2, hlt_vd2⟩) hZ (hw _ (List.mem_of_getElem? (i := 21) rfl)) (hw _ (List.mem_of_getElem? (i := 3) rfl)) (by decide) (by decide)) q17a q17c (g := (mkF m 172 #[.val (.int p1), .val (.int p2), .val (.int p3), .val (.int p4), .val (.int p5), .val (.int p6), .val (.int vdc), .val (.int vd0), .val (.int vd1), .val (.int vd2), .val (.int z1), .val (.int z4), .val (.int z7), .val (.int vcap), .val (.ref b10), .unset] [(.int vdc), (.ref b10)])) rfl (by rw [hml]; rfl) (Steps.refl _) (argsL := [(.int vdc)]) (rest := []) (lenOf own_pd4 rfl) rfl (by show 2 * 0 + _ ≤ _; exact Nat.le_of_eq rfl) (hb hby at_172) (fun _ _ => ⟨rfl, rfl, (by decide : 3 + 1 ≤ _), (by decide : 13 + 8 ≤ _)⟩)
        dsimp only [Pt.U, Pt.locs, Pt.cells, Pt.slots] at X17 l17 y17 z17 st17 hQ17
        subst l17 y17 z17
        obtain ⟨r17, kr17, rfl, N17q, K17q, V17q⟩ := hQ17
        have N17 := Fr.app N16 N17q
        have c17_E_b10 := E16q.keep K17q
        have c17_F_b10_size := F16_s.keep K17q (List.not_mem_nil)
        have c17_F_b10_documents := F16_d.keep K17q (List.not_mem_nil)
        have c17_F_b10_frequencies := F16_f.keep K17q (List.not_mem_nil)
        have c17_F_b10_collectionFrequency := F16_c.keep K17q (List.not_mem_nil)
        have c17_V_d11 := V16_d.keep K17q (List.not_mem_nil)
        have c17_V_f11 := V16_f.keep K17q (List.not_mem_nil)
        refine own_go (B := T17.setTop (mkF m 175 #[.val (.int p1), .val (.int p2), .val (.int p3), .val (.int p4), .val (.int p5), .val (.int p6), .val (.int vdc), .val (.int vd0), .val (.int vd1), .val (.int vd2), .val (.int z1), .val (.int z4), .val (.int z7), .val (.int vcap), .val (.ref b10), .unset] [(.ref r17)])) (fun t k => st17.trans k) ?_
        refine own_go (B := T17.setTop (mkF m 184 #[.val (.int p1), .val (.int p2), .val (.int p3), .val (.int p4), .val (.int p5), .val (.int p6), .val (.int vdc), .val (.int vd0), .val (.int vd1), .val (.int vd2), .val (.int z1), .val (.int z4), .val (.int z7), .val (.int vcap), .val (.ref b10), .val (.ref r17)] [(.ref r17)])) (fun t k => ?_) ?_
        · show Steps p.tables e below (T17.setTop (mkF m 175 #[.val (.int p1), .val (.int p2), .val (.int p3), .val (.int p4), .val (.int p5), .val (.int p6), .val (.int vdc), .val (.int vd0), .val (.int vd1), .val (.int vd2), .val (.int z1), .val (.int z4), .val (.int z7), .val (.int vcap), .val (.ref b10), .unset] [(.ref r17)])) _
          refine XS.astore X17.here hx rfl (hb hby at_175) rfl rfl (l' := #[.val (.int p1), .val (.int p2), .val (.int p3), .val (.int p4), .val (.int p5), .val (.int p6), .val (.int vdc), .val (.int vd0), .val (.int vd1), .val (.int vd2), .val (.int z1), .val (.int z4), .val (.int z7), .val (.int vcap), .val (.ref b10), .val (.ref r17)]) rfl ?_
          show Steps p.tables e below (T17.setTop (mkF m 177 #[.val (.int p1), .val (.int p2), .val (.int p3), .val (.int p4), .val (.int p5), .val (.int p6), .val (.int vdc), .val (.int vd0), .val (.int vd1), .val (.int vd2), .val (.int z1), .val (.int z4), .val (.int z7), .val (.int vcap), .val (.ref b10), .val (.ref r17)] [])) _
          refine XS.aload X17.here hx rfl (hb hby at_177) rfl rfl ?_
          show Steps p.tables e below (T17.setTop (mkF m 179 #[.val (.int p1), .val (.int p2), .val (.int p3), .val (.int p4), .val (.int p5), .val (.int p6), .val (.int vdc), .val (.int vd0), .val (.int vd1), .val (.int vd2), .val (.int z1), .val (.int z4), .val (.int z7), .val (.int vcap), .val (.ref b10), .val (.ref r17)] [(.ref r17)])) _
          refine XS.ifnullNo X17.here hx rfl (hb hby at_179) rfl ?_
          show Steps p.tables e below (T17.setTop (mkF m 182 #[.val (.int p1), .val (.int p2), .val (.int p3), .val (.int p4), .val (.int p5), .val (.int p6), .val (.int vdc), .val (.int vd0), .val (.int vd1), .val (.int vd2), .val (.int z1), .val (.int z4), .val (.int z7), .val (.int vcap), .val (.ref b10), .val (.ref r17)] [])) _
          refine XS.aload X17.here hx rfl (hb hby at_182) rfl rfl ?_
          exact k
        obtain ⟨cl_r, Ar_r, q_r, S_r, M_r, H_r, G_r⟩ := id V17q
        refine own_go (B := T17.setTop (mkF m 192 #[.val (.int p1), .val (.int p2), .val (.int p3), .val (.int p4), .val (.int p5), .val (.int p6), .val (.int vdc), .val (.int vd0), .val (.int vd1), .val (.int vd2), .val (.int z1), .val (.int z4), .val (.int z7), .val (.int vcap), .val (.ref b10), .val (.ref r17)] [])) (fun t k => ?_) ?_
        · show Steps p.tables e below (T17.setTop (mkF m 184 #[.val (.int p1), .val (.int p2), .val (.int p3), .val (.int p4), .val (.int p5), .val (.int p6), .val (.int vdc), .val (.int vd0), .val (.int vd1), .val (.int vd2), .val (.int z1), .val (.int z4), .val (.int z7), .val (.int vcap), .val (.ref b10), .val (.ref r17)] [(.ref r17)])) _
          refine X17.arraylength hx Ar_r.1 (State.isArrayOf_alike hZ.alike Ar_r.2.1) (g := (mkF m 184 #[.val (.int p1), .val (.int p2), .val (.int p3), .val (.int p4), .val (.int p5), .val (.int p6), .val (.int vdc), .val (.int vd0), .val (.int vd1), .val (.int vd2), .val (.int z1), .val (.int z4), .val (.int z7), .val (.int vcap), .val (.ref b10), .val (.ref r17)] [(.ref r17)])) rfl rfl (hb hby at_184) _ ?_
          rw [len_of S_r M_r]
          show Steps p.tables e below (T17.setTop (mkF m 185 #[.val (.int p1), .val (.int p2), .val (.int p3), .val (.int p4), .val (.int p5), .val (.int p6), .val (.int vdc), .val (.int vd0), .val (.int vd1), .val (.int vd2), .val (.int z1), .val (.int z4), .val (.int z7), .val (.int vcap), .val (.ref b10), .val (.ref r17)] [(.int vdc)])) _
          refine XS.iload X17.here hx rfl (hb hby at_185) rfl ?_
          show Steps p.tables e below (T17.setTop (mkF m 187 #[.val (.int p1), .val (.int p2), .val (.int p3), .val (.int p4), .val (.int p5), .val (.int p6), .val (.int vdc), .val (.int vd0), .val (.int vd1), .val (.int vd2), .val (.int z1), .val (.int z4), .val (.int z7), .val (.int vcap), .val (.ref b10), .val (.ref r17)] [(.int vdc), (.int vdc)])) _
          refine XS.icmpYes X17.here hx rfl (pc0 := 187) (pc' := 192) rfl (hb hby at_187) rfl (teq rfl).1 (by decide) (by decide) ?_
          exact k
        have htl := own_tail p1 p2 p3 p4 p5 p6 vdc vd0 vd1 vd2 z1 z4 z7 vcap b10 r17 kr17 [(vd2, p5)] X17 hx hZ hw hby hml hown Bd rfl N17 (Nat.le_trans (Nat.le_trans (Nat.le_trans (Nat.le_trans Z0 E10.1) K11q.1) K16q.1) K17q.1) (by decide) (by decide) V17q (fun i => by simp only [own_gv, own_e, own_e1, if_pos hc130_12, if_pos hc143_13, if_neg hc156_14])
        exact htl
    · refine own_go (B := T11.setTop (mkF m 146 #[.val (.int p1), .val (.int p2), .val (.int p3), .val (.int p4), .val (.int p5), .val (.int p6), .val (.int vdc), .val (.int vd0), .val (.int vd1), .val (.int vd2), .val (.int z1), .val (.int z4), .val (.int z7), .val (.int vcap), .val (.ref b10), .unset] [])) (fun t k => ?_) ?_
      · show Steps p.tables e below (T11.setTop (mkF m 143 #[.val (.int p1), .val (.int p2), .val (.int p3), .val (.int p4), .val (.int p5), .val (.int p6), .val (.int vdc), .val (.int vd0), .val (.int vd1), .val (.int vd2), .val (.int z1), .val (.int z4), .val (.int z7), .val (.int vcap), .val (.ref b10), .unset] [(.int z4)])) _
        refine XS.ifNo X11.here hx rfl (hb hby at_143) rfl ((if0 _ _).trans (feq hc143_13).1) ?_
        exact k
      have hlt_vd1 : vd1 < vdc := own_in hz4 hc143_13
      refine own_go (B := T11.setTop (mkF m 151 #[.val (.int p1), .val (.int p2), .val (.int p3), .val (.int p4), .val (.int p5), .val (.int p6), .val (.int vdc), .val (.int vd0), .val (.int vd1), .val (.int vd2), .val (.int z1), .val (.int z4), .val (.int z7), .val (.int vcap), .val (.ref b10), .unset] [(.int p4), (.int vd1), (.ref b10)])) (fun t k => ?_) ?_
      · show Steps p.tables e below (T11.setTop (mkF m 146 #[.val (.int p1), .val (.int p2), .val (.int p3), .val (.int p4), .val (.int p5), .val (.int p6), .val (.int vdc), .val (.int vd0), .val (.int vd1), .val (.int vd2), .val (.int z1), .val (.int z4), .val (.int z7), .val (.int vcap), .val (.ref b10), .unset] [])) _
        refine XS.aload X11.here hx rfl (hb hby at_146) rfl rfl ?_
        show Steps p.tables e below (T11.setTop (mkF m 148 #[.val (.int p1), .val (.int p2), .val (.int p3), .val (.int p4), .val (.int p5), .val (.int p6), .val (.int vdc), .val (.int vd0), .val (.int vd1), .val (.int vd2), .val (.int z1), .val (.int z4), .val (.int z7), .val (.int vcap), .val (.ref b10), .unset] [(.ref b10)])) _
        refine XS.iload X11.here hx rfl (hb hby at_148) rfl ?_
        show Steps p.tables e below (T11.setTop (mkF m 150 #[.val (.int p1), .val (.int p2), .val (.int p3), .val (.int p4), .val (.int p5), .val (.int p6), .val (.int vdc), .val (.int vd0), .val (.int vd1), .val (.int vd2), .val (.int z1), .val (.int z4), .val (.int z7), .val (.int vcap), .val (.ref b10), .unset] [(.int vd1), (.ref b10)])) _
        refine XS.iloadN X11.here hx rfl (hb hby at_150) rfl ?_
        exact k
      obtain ⟨cq18, kq18, q18a, q18b, q18c⟩ := isOf hZ rfl E11q
      obtain ⟨_, _, ⟨T18, L18, k18, n18⟩, -, X18, ⟨Lc18, hQ18, l18, y18, z18⟩, st18⟩ := X11.virtualBack hx (y := (⟨"com/example/libqlm/libqlm/Postings", "add", "(II)V"⟩ : MethodName)) (z := (⟨"com/example/libqlm/libqlm/Postings", "add", "(II)V"⟩ : MethodName)) hown (mvT hZ (hw _ (List.mem_of_getElem? (i := 28) rfl))) (mvT hZ (hw _ (List.mem_of_getElem? (i := 29) rfl))) (notFace_of_selects (args := #[]) (mvT hZ (hw _ (List.mem_of_getElem? (i := 31) rfl)))) (mvT hZ (hw _ (List.mem_of_getElem? (i := 31) rfl))) (mvT hZ (hw _ (List.mem_of_getElem? (i := 30) rfl))) (by decide) (backOf (W := 0) (rm5_0 l Z a0 hw [] b10 vd1 p4 d11 f11 kd11 kf11 vcap (0 : Int64)  T11.heap n0 (Nat.le_trans (Nat.le_trans Z0 E10.1) K11q.1) E11q g_b10 g_d11 g_f11 F11_s F11_d F11_f F11_c V11_d V11_f ne_b10_d11 ne_b10_f11 ne11_df hcap0) hZ (hw _ (List.mem_of_getElem? (i := 32) rfl)) (hw _ (List.mem_of_getElem? (i := 3) rfl)) (by decide) (by decide)) q18a q18c (g := (mkF m 151 #[.val (.int p1), .val (.int p2), .val (.int p3), .val (.int p4), .val (.int p5), .val (.int p6), .val (.int vdc), .val (.int vd0), .val (.int vd1), .val (.int vd2), .val (.int z1), .val (.int z4), .val (.int z7), .val (.int vcap), .val (.ref b10), .unset] [(.int p4), (.int vd1), (.ref b10)])) rfl (by rw [hml]; rfl) (Steps.refl _) (argsL := [(.int vd1), (.int p4)]) (rest := []) (lenOf own_pd3 rfl) rfl (by show 2 * 0 + _ ≤ _; exact Nat.le_of_eq rfl) (hb hby at_151) (fun _ _ => ⟨rfl, rfl, (by decide : 3 + 0 ≤ _), (by decide : 13 + 0 ≤ _)⟩)
      dsimp only [Pt.U, Pt.locs, Pt.cells, Pt.slots] at X18 l18 y18 z18 st18 hQ18
      subst l18 y18 z18
      obtain ⟨rfl, N18q, K18q, E18q, F18_s, F18_d, F18_f, F18_c, V18_d, V18_f⟩ := hQ18
      have N18 := Fr.app N11 N18q
      refine own_go (B := T18.setTop (mkF m 154 #[.val (.int p1), .val (.int p2), .val (.int p3), .val (.int p4), .val (.int p5), .val (.int p6), .val (.int vdc), .val (.int vd0), .val (.int vd1), .val (.int vd2), .val (.int z1), .val (.int z4), .val (.int z7), .val (.int vcap), .val (.ref b10), .unset] [])) (fun t k => st18.trans k) ?_
      refine own_go (B := T18.setTop (mkF m 156 #[.val (.int p1), .val (.int p2), .val (.int p3), .val (.int p4), .val (.int p5), .val (.int p6), .val (.int vdc), .val (.int vd0), .val (.int vd1), .val (.int vd2), .val (.int z1), .val (.int z4), .val (.int z7), .val (.int vcap), .val (.ref b10), .unset] [(.int z7)])) (fun t k => ?_) ?_
      · show Steps p.tables e below (T18.setTop (mkF m 154 #[.val (.int p1), .val (.int p2), .val (.int p3), .val (.int p4), .val (.int p5), .val (.int p6), .val (.int vdc), .val (.int vd0), .val (.int vd1), .val (.int vd2), .val (.int z1), .val (.int z4), .val (.int z7), .val (.int vcap), .val (.ref b10), .unset] [])) _
        refine XS.iload X18.here hx rfl (hb hby at_154) rfl ?_
        exact k
      by_cases hc156_19 : z7 = (0 : Int32)
      · refine own_go (B := T18.setTop (mkF m 172 #[.val (.int p1), .val (.int p2), .val (.int p3), .val (.int p4), .val (.int p5), .val (.int p6), .val (.int vdc), .val (.int vd0), .val (.int vd1), .val (.int vd2), .val (.int z1), .val (.int z4), .val (.int z7), .val (.int vcap), .val (.ref b10), .unset] [(.int vdc), (.ref b10)])) (fun t k => ?_) ?_
        · show Steps p.tables e below (T18.setTop (mkF m 156 #[.val (.int p1), .val (.int p2), .val (.int p3), .val (.int p4), .val (.int p5), .val (.int p6), .val (.int vdc), .val (.int vd0), .val (.int vd1), .val (.int vd2), .val (.int z1), .val (.int z4), .val (.int z7), .val (.int vcap), .val (.ref b10), .unset] [(.int z7)])) _
          refine XS.ifYes X18.here hx rfl (pc0 := 156) (pc' := 168) rfl (hb hby at_156) rfl ((if0 _ _).trans (teq hc156_19).1) (by decide) (by decide) ?_
          show Steps p.tables e below (T18.setTop (mkF m 168 #[.val (.int p1), .val (.int p2), .val (.int p3), .val (.int p4), .val (.int p5), .val (.int p6), .val (.int vdc), .val (.int vd0), .val (.int vd1), .val (.int vd2), .val (.int z1), .val (.int z4), .val (.int z7), .val (.int vcap), .val (.ref b10), .unset] [])) _
          refine XS.aload X18.here hx rfl (hb hby at_168) rfl rfl ?_
          show Steps p.tables e below (T18.setTop (mkF m 170 #[.val (.int p1), .val (.int p2), .val (.int p3), .val (.int p4), .val (.int p5), .val (.int p6), .val (.int vdc), .val (.int vd0), .val (.int vd1), .val (.int vd2), .val (.int z1), .val (.int z4), .val (.int z7), .val (.int vcap), .val (.ref b10), .unset] [(.ref b10)])) _
          refine XS.iload X18.here hx rfl (hb hby at_170) rfl ?_
          exact k
        obtain ⟨cq20, kq20, q20a, q20b, q20c⟩ := isOf hZ rfl E18q
        obtain ⟨_, _, ⟨T20, L20, k20, n20⟩, -, X20, ⟨Lc20, hQ20, l20, y20, z20⟩, st20⟩ := X18.virtualBack hx (y := (⟨"com/example/libqlm/libqlm/Postings", "frequenciesByDocument", "(I)[I"⟩ : MethodName)) (z := (⟨"com/example/libqlm/libqlm/Postings", "frequenciesByDocument", "(I)[I"⟩ : MethodName)) hown (mvT hZ (hw _ (List.mem_of_getElem? (i := 17) rfl))) (mvT hZ (hw _ (List.mem_of_getElem? (i := 18) rfl))) (notFace_of_selects (args := #[]) (mvT hZ (hw _ (List.mem_of_getElem? (i := 20) rfl)))) (mvT hZ (hw _ (List.mem_of_getElem? (i := 20) rfl))) (mvT hZ (hw _ (List.mem_of_getElem? (i := 19) rfl))) (by decide) (backOf (W := 0) (rm3_1 l Z a0 hw [] b10 vdc d11 f11 kd11 kf11 vcap vd1 p4 T18.heap n0 (Nat.le_trans (Nat.le_trans (Nat.le_trans Z0 E10.1) K11q.1) K18q.1) F18_s F18_d F18_f V18_d V18_f hdcN hcap0 ⟨hnn_vd1, hlt_vd1⟩) hZ (hw _ (List.mem_of_getElem? (i := 21) rfl)) (hw _ (List.mem_of_getElem? (i := 3) rfl)) (by decide) (by decide)) q20a q20c (g := (mkF m 172 #[.val (.int p1), .val (.int p2), .val (.int p3), .val (.int p4), .val (.int p5), .val (.int p6), .val (.int vdc), .val (.int vd0), .val (.int vd1), .val (.int vd2), .val (.int z1), .val (.int z4), .val (.int z7), .val (.int vcap), .val (.ref b10), .unset] [(.int vdc), (.ref b10)])) rfl (by rw [hml]; rfl) (Steps.refl _) (argsL := [(.int vdc)]) (rest := []) (lenOf own_pd4 rfl) rfl (by show 2 * 0 + _ ≤ _; exact Nat.le_of_eq rfl) (hb hby at_172) (fun _ _ => ⟨rfl, rfl, (by decide : 3 + 1 ≤ _), (by decide : 13 + 8 ≤ _)⟩)
        dsimp only [Pt.U, Pt.locs, Pt.cells, Pt.slots] at X20 l20 y20 z20 st20 hQ20
        subst l20 y20 z20
        obtain ⟨r20, kr20, rfl, N20q, K20q, V20q⟩ := hQ20
        have N20 := Fr.app N18 N20q
        have c20_E_b10 := E18q.keep K20q
        have c20_F_b10_size := F18_s.keep K20q (List.not_mem_nil)
        have c20_F_b10_documents := F18_d.keep K20q (List.not_mem_nil)
        have c20_F_b10_frequencies := F18_f.keep K20q (List.not_mem_nil)
        have c20_F_b10_collectionFrequency := F18_c.keep K20q (List.not_mem_nil)
        have c20_V_d11 := V18_d.keep K20q (List.not_mem_nil)
        have c20_V_f11 := V18_f.keep K20q (List.not_mem_nil)
        refine own_go (B := T20.setTop (mkF m 175 #[.val (.int p1), .val (.int p2), .val (.int p3), .val (.int p4), .val (.int p5), .val (.int p6), .val (.int vdc), .val (.int vd0), .val (.int vd1), .val (.int vd2), .val (.int z1), .val (.int z4), .val (.int z7), .val (.int vcap), .val (.ref b10), .unset] [(.ref r20)])) (fun t k => st20.trans k) ?_
        refine own_go (B := T20.setTop (mkF m 184 #[.val (.int p1), .val (.int p2), .val (.int p3), .val (.int p4), .val (.int p5), .val (.int p6), .val (.int vdc), .val (.int vd0), .val (.int vd1), .val (.int vd2), .val (.int z1), .val (.int z4), .val (.int z7), .val (.int vcap), .val (.ref b10), .val (.ref r20)] [(.ref r20)])) (fun t k => ?_) ?_
        · show Steps p.tables e below (T20.setTop (mkF m 175 #[.val (.int p1), .val (.int p2), .val (.int p3), .val (.int p4), .val (.int p5), .val (.int p6), .val (.int vdc), .val (.int vd0), .val (.int vd1), .val (.int vd2), .val (.int z1), .val (.int z4), .val (.int z7), .val (.int vcap), .val (.ref b10), .unset] [(.ref r20)])) _
          refine XS.astore X20.here hx rfl (hb hby at_175) rfl rfl (l' := #[.val (.int p1), .val (.int p2), .val (.int p3), .val (.int p4), .val (.int p5), .val (.int p6), .val (.int vdc), .val (.int vd0), .val (.int vd1), .val (.int vd2), .val (.int z1), .val (.int z4), .val (.int z7), .val (.int vcap), .val (.ref b10), .val (.ref r20)]) rfl ?_
          show Steps p.tables e below (T20.setTop (mkF m 177 #[.val (.int p1), .val (.int p2), .val (.int p3), .val (.int p4), .val (.int p5), .val (.int p6), .val (.int vdc), .val (.int vd0), .val (.int vd1), .val (.int vd2), .val (.int z1), .val (.int z4), .val (.int z7), .val (.int vcap), .val (.ref b10), .val (.ref r20)] [])) _
          refine XS.aload X20.here hx rfl (hb hby at_177) rfl rfl ?_
          show Steps p.tables e below (T20.setTop (mkF m 179 #[.val (.int p1), .val (.int p2), .val (.int p3), .val (.int p4), .val (.int p5), .val (.int p6), .val (.int vdc), .val (.int vd0), .val (.int vd1), .val (.int vd2), .val (.int z1), .val (.int z4), .val (.int z7), .val (.int vcap), .val (.ref b10), .val (.ref r20)] [(.ref r20)])) _
          refine XS.ifnullNo X20.here hx rfl (hb hby at_179) rfl ?_
          show Steps p.tables e below (T20.setTop (mkF m 182 #[.val (.int p1), .val (.int p2), .val (.int p3), .val (.int p4), .val (.int p5), .val (.int p6), .val (.int vdc), .val (.int vd0), .val (.int vd1), .val (.int vd2), .val (.int z1), .val (.int z4), .val (.int z7), .val (.int vcap), .val (.ref b10), .val (.ref r20)] [])) _
          refine XS.aload X20.here hx rfl (hb hby at_182) rfl rfl ?_
          exact k
        obtain ⟨cl_r, Ar_r, q_r, S_r, M_r, H_r, G_r⟩ := id V20q
        refine own_go (B := T20.setTop (mkF m 192 #[.val (.int p1), .val (.int p2), .val (.int p3), .val (.int p4), .val (.int p5), .val (.int p6), .val (.int vdc), .val (.int vd0), .val (.int vd1), .val (.int vd2), .val (.int z1), .val (.int z4), .val (.int z7), .val (.int vcap), .val (.ref b10), .val (.ref r20)] [])) (fun t k => ?_) ?_
        · show Steps p.tables e below (T20.setTop (mkF m 184 #[.val (.int p1), .val (.int p2), .val (.int p3), .val (.int p4), .val (.int p5), .val (.int p6), .val (.int vdc), .val (.int vd0), .val (.int vd1), .val (.int vd2), .val (.int z1), .val (.int z4), .val (.int z7), .val (.int vcap), .val (.ref b10), .val (.ref r20)] [(.ref r20)])) _
          refine X20.arraylength hx Ar_r.1 (State.isArrayOf_alike hZ.alike Ar_r.2.1) (g := (mkF m 184 #[.val (.int p1), .val (.int p2), .val (.int p3), .val (.int p4), .val (.int p5), .val (.int p6), .val (.int vdc), .val (.int vd0), .val (.int vd1), .val (.int vd2), .val (.int z1), .val (.int z4), .val (.int z7), .val (.int vcap), .val (.ref b10), .val (.ref r20)] [(.ref r20)])) rfl rfl (hb hby at_184) _ ?_
          rw [len_of S_r M_r]
          show Steps p.tables e below (T20.setTop (mkF m 185 #[.val (.int p1), .val (.int p2), .val (.int p3), .val (.int p4), .val (.int p5), .val (.int p6), .val (.int vdc), .val (.int vd0), .val (.int vd1), .val (.int vd2), .val (.int z1), .val (.int z4), .val (.int z7), .val (.int vcap), .val (.ref b10), .val (.ref r20)] [(.int vdc)])) _
          refine XS.iload X20.here hx rfl (hb hby at_185) rfl ?_
          show Steps p.tables e below (T20.setTop (mkF m 187 #[.val (.int p1), .val (.int p2), .val (.int p3), .val (.int p4), .val (.int p5), .val (.int p6), .val (.int vdc), .val (.int vd0), .val (.int vd1), .val (.int vd2), .val (.int z1), .val (.int z4), .val (.int z7), .val (.int vcap), .val (.ref b10), .val (.ref r20)] [(.int vdc), (.int vdc)])) _
          refine XS.icmpYes X20.here hx rfl (pc0 := 187) (pc' := 192) rfl (hb hby at_187) rfl (teq rfl).1 (by decide) (by decide) ?_
          exact k
        have htl := own_tail p1 p2 p3 p4 p5 p6 vdc vd0 vd1 vd2 z1 z4 z7 vcap b10 r20 kr20 [(vd1, p4)] X20 hx hZ hw hby hml hown Bd rfl N20 (Nat.le_trans (Nat.le_trans (Nat.le_trans (Nat.le_trans Z0 E10.1) K11q.1) K18q.1) K20q.1) (by decide) (by decide) V20q (fun i => by simp only [own_gv, own_e, own_e1, if_pos hc130_12, if_neg hc143_13, if_pos hc156_19])
        exact htl
      · refine own_go (B := T18.setTop (mkF m 159 #[.val (.int p1), .val (.int p2), .val (.int p3), .val (.int p4), .val (.int p5), .val (.int p6), .val (.int vdc), .val (.int vd0), .val (.int vd1), .val (.int vd2), .val (.int z1), .val (.int z4), .val (.int z7), .val (.int vcap), .val (.ref b10), .unset] [])) (fun t k => ?_) ?_
        · show Steps p.tables e below (T18.setTop (mkF m 156 #[.val (.int p1), .val (.int p2), .val (.int p3), .val (.int p4), .val (.int p5), .val (.int p6), .val (.int vdc), .val (.int vd0), .val (.int vd1), .val (.int vd2), .val (.int z1), .val (.int z4), .val (.int z7), .val (.int vcap), .val (.ref b10), .unset] [(.int z7)])) _
          refine XS.ifNo X18.here hx rfl (hb hby at_156) rfl ((if0 _ _).trans (feq hc156_19).1) ?_
          exact k
        have hlt_vd2 : vd2 < vdc := own_in hz7 hc156_19
        refine own_go (B := T18.setTop (mkF m 165 #[.val (.int p1), .val (.int p2), .val (.int p3), .val (.int p4), .val (.int p5), .val (.int p6), .val (.int vdc), .val (.int vd0), .val (.int vd1), .val (.int vd2), .val (.int z1), .val (.int z4), .val (.int z7), .val (.int vcap), .val (.ref b10), .unset] [(.int p5), (.int vd2), (.ref b10)])) (fun t k => ?_) ?_
        · show Steps p.tables e below (T18.setTop (mkF m 159 #[.val (.int p1), .val (.int p2), .val (.int p3), .val (.int p4), .val (.int p5), .val (.int p6), .val (.int vdc), .val (.int vd0), .val (.int vd1), .val (.int vd2), .val (.int z1), .val (.int z4), .val (.int z7), .val (.int vcap), .val (.ref b10), .unset] [])) _
          refine XS.aload X18.here hx rfl (hb hby at_159) rfl rfl ?_
          show Steps p.tables e below (T18.setTop (mkF m 161 #[.val (.int p1), .val (.int p2), .val (.int p3), .val (.int p4), .val (.int p5), .val (.int p6), .val (.int vdc), .val (.int vd0), .val (.int vd1), .val (.int vd2), .val (.int z1), .val (.int z4), .val (.int z7), .val (.int vcap), .val (.ref b10), .unset] [(.ref b10)])) _
          refine XS.iload X18.here hx rfl (hb hby at_161) rfl ?_
          show Steps p.tables e below (T18.setTop (mkF m 163 #[.val (.int p1), .val (.int p2), .val (.int p3), .val (.int p4), .val (.int p5), .val (.int p6), .val (.int vdc), .val (.int vd0), .val (.int vd1), .val (.int vd2), .val (.int z1), .val (.int z4), .val (.int z7), .val (.int vcap), .val (.ref b10), .unset] [(.int vd2), (.ref b10)])) _
          refine XS.iload X18.here hx rfl (hb hby at_163) rfl ?_
          exact k
        by_cases hN1 : vcap = (1 : Int32)
        · subst hN1
          obtain ⟨cq21, kq21, q21a, q21b, q21c⟩ := isOf hZ rfl E18q
          obtain ⟨_, _, ⟨T21, L21, k21, n21⟩, -, X21, ⟨Lc21, hQ21, l21, y21, z21⟩, st21⟩ := X18.virtualBack hx (y := (⟨"com/example/libqlm/libqlm/Postings", "add", "(II)V"⟩ : MethodName)) (z := (⟨"com/example/libqlm/libqlm/Postings", "add", "(II)V"⟩ : MethodName)) hown (mvT hZ (hw _ (List.mem_of_getElem? (i := 28) rfl))) (mvT hZ (hw _ (List.mem_of_getElem? (i := 29) rfl))) (notFace_of_selects (args := #[]) (mvT hZ (hw _ (List.mem_of_getElem? (i := 31) rfl)))) (mvT hZ (hw _ (List.mem_of_getElem? (i := 31) rfl))) (mvT hZ (hw _ (List.mem_of_getElem? (i := 30) rfl))) (by decide) (backOf (W := 0) (rm5_1g l Z a0 hw [] b10 vd2 p5 d11 f11 kd11 kf11 ((0 : Int64) + (p4.toInt64)) vd1 p4 T18.heap n0 (Nat.le_trans (Nat.le_trans (Nat.le_trans Z0 E10.1) K11q.1) K18q.1) E18q g_b10 g_d11 g_f11 F18_s F18_d F18_f F18_c V18_d V18_f ne_b10_d11 ne_b10_f11 ne11_df) hZ (hw _ (List.mem_of_getElem? (i := 32) rfl)) (hw _ (List.mem_of_getElem? (i := 3) rfl)) (by decide) (by decide)) q21a q21c (g := (mkF m 165 #[.val (.int p1), .val (.int p2), .val (.int p3), .val (.int p4), .val (.int p5), .val (.int p6), .val (.int vdc), .val (.int vd0), .val (.int vd1), .val (.int vd2), .val (.int z1), .val (.int z4), .val (.int z7), .val (.int (1 : Int32)), .val (.ref b10), .unset] [(.int p5), (.int vd2), (.ref b10)])) rfl (by rw [hml]; rfl) (Steps.refl _) (argsL := [(.int vd2), (.int p5)]) (rest := []) (lenOf own_pd3 rfl) rfl (by show 2 * 0 + _ ≤ _; exact Nat.le_of_eq rfl) (hb hby at_165) (fun _ _ => ⟨rfl, rfl, (by decide : 3 + 2 ≤ _), (by decide : 13 + 4 ≤ _)⟩)
          dsimp only [Pt.U, Pt.locs, Pt.cells, Pt.slots] at X21 l21 y21 z21 st21 hQ21
          subst l21 y21 z21
          obtain ⟨rfl, N21q, d21, f21, kd21, kf21, K21q, E21q, F21_s, F21_d, F21_f, F21_c, V21_d, V21_f, q21_d21, q21_f21, g_d21, g_f21, ne21_df⟩ := hQ21
          have N21 := Fr.app N18 N21q
          have ne_b10_d21 : b10 ≠ d21 := Nat.ne_of_lt (Nat.lt_of_lt_of_le E18q.lt q21_d21)
          have ne_b10_f21 : b10 ≠ f21 := Nat.ne_of_lt (Nat.lt_of_lt_of_le E18q.lt q21_f21)
          refine own_go (B := T21.setTop (mkF m 168 #[.val (.int p1), .val (.int p2), .val (.int p3), .val (.int p4), .val (.int p5), .val (.int p6), .val (.int vdc), .val (.int vd0), .val (.int vd1), .val (.int vd2), .val (.int z1), .val (.int z4), .val (.int z7), .val (.int (1 : Int32)), .val (.ref b10), .unset] [])) (fun t k => st21.trans k) ?_
          refine own_go (B := T21.setTop (mkF m 172 #[.val (.int p1), .val (.int p2), .val (.int p3), .val (.int p4), .val (.int p5), .val (.int p6), .val (.int vdc), .val (.int vd0), .val (.int vd1), .val (.int vd2), .val (.int z1), .val (.int z4), .val (.int z7), .val (.int (1 : Int32)), .val (.ref b10), .unset] [(.int vdc), (.ref b10)])) (fun t k => ?_) ?_
          · show Steps p.tables e below (T21.setTop (mkF m 168 #[.val (.int p1), .val (.int p2), .val (.int p3), .val (.int p4), .val (.int p5), .val (.int p6), .val (.int vdc), .val (.int vd0), .val (.int vd1), .val (.int vd2), .val (.int z1), .val (.int z4), .val (.int z7), .val (.int (1 : Int32)), .val (.ref b10), .unset] [])) _
            refine XS.aload X21.here hx rfl (hb hby at_168) rfl rfl ?_
            show Steps p.tables e below (T21.setTop (mkF m 170 #[.val (.int p1), .val (.int p2), .val (.int p3), .val (.int p4), .val (.int p5), .val (.int p6), .val (.int vdc), .val (.int vd0), .val (.int vd1), .val (.int vd2), .val (.int z1), .val (.int z4), .val (.int z7), .val (.int (1 : Int32)), .val (.ref b10), .unset] [(.ref b10)])) _
            refine XS.iload X21.here hx rfl (hb hby at_170) rfl ?_
            exact k
          obtain ⟨cq22, kq22, q22a, q22b, q22c⟩ := isOf hZ rfl E21q
          obtain ⟨_, _, ⟨T22, L22, k22, n22⟩, -, X22, ⟨Lc22, hQ22, l22, y22, z22⟩, st22⟩ := X21.virtualBack hx (y := (⟨"com/example/libqlm/libqlm/Postings", "frequenciesByDocument", "(I)[I"⟩ : MethodName)) (z := (⟨"com/example/libqlm/libqlm/Postings", "frequenciesByDocument", "(I)[I"⟩ : MethodName)) hown (mvT hZ (hw _ (List.mem_of_getElem? (i := 17) rfl))) (mvT hZ (hw _ (List.mem_of_getElem? (i := 18) rfl))) (notFace_of_selects (args := #[]) (mvT hZ (hw _ (List.mem_of_getElem? (i := 20) rfl)))) (mvT hZ (hw _ (List.mem_of_getElem? (i := 20) rfl))) (mvT hZ (hw _ (List.mem_of_getElem? (i := 19) rfl))) (by decide) (backOf (W := 0) (rm3_2 l Z a0 hw [] b10 vdc d21 f21 kd21 kf21 (2 : Int32) vd1 vd2 p4 p5 T21.heap n0 (Nat.le_trans (Nat.le_trans (Nat.le_trans (Nat.le_trans Z0 E10.1) K11q.1) K18q.1) K21q.1) F21_s F21_d F21_f V21_d V21_f hdcN (by decide) (by decide) ⟨hnn_vd1, hlt_vd1⟩ ⟨hnn_vd2, hlt_vd2⟩) hZ (hw _ (List.mem_of_getElem? (i := 21) rfl)) (hw _ (List.mem_of_getElem? (i := 3) rfl)) (by decide) (by decide)) q22a q22c (g := (mkF m 172 #[.val (.int p1), .val (.int p2), .val (.int p3), .val (.int p4), .val (.int p5), .val (.int p6), .val (.int vdc), .val (.int vd0), .val (.int vd1), .val (.int vd2), .val (.int z1), .val (.int z4), .val (.int z7), .val (.int (1 : Int32)), .val (.ref b10), .unset] [(.int vdc), (.ref b10)])) rfl (by rw [hml]; rfl) (Steps.refl _) (argsL := [(.int vdc)]) (rest := []) (lenOf own_pd4 rfl) rfl (by show 2 * 0 + _ ≤ _; exact Nat.le_of_eq rfl) (hb hby at_172) (fun _ _ => ⟨rfl, rfl, (by decide : 5 + 1 ≤ _), (by decide : 17 + 8 ≤ _)⟩)
          dsimp only [Pt.U, Pt.locs, Pt.cells, Pt.slots] at X22 l22 y22 z22 st22 hQ22
          subst l22 y22 z22
          obtain ⟨r22, kr22, rfl, N22q, K22q, V22q⟩ := hQ22
          have N22 := Fr.app N21 N22q
          have c22_E_b10 := E21q.keep K22q
          have c22_F_b10_size := F21_s.keep K22q (List.not_mem_nil)
          have c22_F_b10_documents := F21_d.keep K22q (List.not_mem_nil)
          have c22_F_b10_frequencies := F21_f.keep K22q (List.not_mem_nil)
          have c22_F_b10_collectionFrequency := F21_c.keep K22q (List.not_mem_nil)
          have c22_V_d21 := V21_d.keep K22q (List.not_mem_nil)
          have c22_V_f21 := V21_f.keep K22q (List.not_mem_nil)
          refine own_go (B := T22.setTop (mkF m 175 #[.val (.int p1), .val (.int p2), .val (.int p3), .val (.int p4), .val (.int p5), .val (.int p6), .val (.int vdc), .val (.int vd0), .val (.int vd1), .val (.int vd2), .val (.int z1), .val (.int z4), .val (.int z7), .val (.int (1 : Int32)), .val (.ref b10), .unset] [(.ref r22)])) (fun t k => st22.trans k) ?_
          refine own_go (B := T22.setTop (mkF m 184 #[.val (.int p1), .val (.int p2), .val (.int p3), .val (.int p4), .val (.int p5), .val (.int p6), .val (.int vdc), .val (.int vd0), .val (.int vd1), .val (.int vd2), .val (.int z1), .val (.int z4), .val (.int z7), .val (.int (1 : Int32)), .val (.ref b10), .val (.ref r22)] [(.ref r22)])) (fun t k => ?_) ?_
          · show Steps p.tables e below (T22.setTop (mkF m 175 #[.val (.int p1), .val (.int p2), .val (.int p3), .val (.int p4), .val (.int p5), .val (.int p6), .val (.int vdc), .val (.int vd0), .val (.int vd1), .val (.int vd2), .val (.int z1), .val (.int z4), .val (.int z7), .val (.int (1 : Int32)), .val (.ref b10), .unset] [(.ref r22)])) _
            refine XS.astore X22.here hx rfl (hb hby at_175) rfl rfl (l' := #[.val (.int p1), .val (.int p2), .val (.int p3), .val (.int p4), .val (.int p5), .val (.int p6), .val (.int vdc), .val (.int vd0), .val (.int vd1), .val (.int vd2), .val (.int z1), .val (.int z4), .val (.int z7), .val (.int (1 : Int32)), .val (.ref b10), .val (.ref r22)]) rfl ?_
            show Steps p.tables e below (T22.setTop (mkF m 177 #[.val (.int p1), .val (.int p2), .val (.int p3), .val (.int p4), .val (.int p5), .val (.int p6), .val (.int vdc), .val (.int vd0), .val (.int vd1), .val (.int vd2), .val (.int z1), .val (.int z4), .val (.int z7), .val (.int (1 : Int32)), .val (.ref b10), .val (.ref r22)] [])) _
            refine XS.aload X22.here hx rfl (hb hby at_177) rfl rfl ?_
            show Steps p.tables e below (T22.setTop (mkF m 179 #[.val (.int p1), .val (.int p2), .val (.int p3), .val (.int p4), .val (.int p5), .val (.int p6), .val (.int vdc), .val (.int vd0), .val (.int vd1), .val (.int vd2), .val (.int z1), .val (.int z4), .val (.int z7), .val (.int (1 : Int32)), .val (.ref b10), .val (.ref r22)] [(.ref r22)])) _
            refine XS.ifnullNo X22.here hx rfl (hb hby at_179) rfl ?_
            show Steps p.tables e below (T22.setTop (mkF m 182 #[.val (.int p1), .val (.int p2), .val (.int p3), .val (.int p4), .val (.int p5), .val (.int p6), .val (.int vdc), .val (.int vd0), .val (.int vd1), .val (.int vd2), .val (.int z1), .val (.int z4), .val (.int z7), .val (.int (1 : Int32)), .val (.ref b10), .val (.ref r22)] [])) _
            refine XS.aload X22.here hx rfl (hb hby at_182) rfl rfl ?_
            exact k
          obtain ⟨cl_r, Ar_r, q_r, S_r, M_r, H_r, G_r⟩ := id V22q
          refine own_go (B := T22.setTop (mkF m 192 #[.val (.int p1), .val (.int p2), .val (.int p3), .val (.int p4), .val (.int p5), .val (.int p6), .val (.int vdc), .val (.int vd0), .val (.int vd1), .val (.int vd2), .val (.int z1), .val (.int z4), .val (.int z7), .val (.int (1 : Int32)), .val (.ref b10), .val (.ref r22)] [])) (fun t k => ?_) ?_
          · show Steps p.tables e below (T22.setTop (mkF m 184 #[.val (.int p1), .val (.int p2), .val (.int p3), .val (.int p4), .val (.int p5), .val (.int p6), .val (.int vdc), .val (.int vd0), .val (.int vd1), .val (.int vd2), .val (.int z1), .val (.int z4), .val (.int z7), .val (.int (1 : Int32)), .val (.ref b10), .val (.ref r22)] [(.ref r22)])) _
            refine X22.arraylength hx Ar_r.1 (State.isArrayOf_alike hZ.alike Ar_r.2.1) (g := (mkF m 184 #[.val (.int p1), .val (.int p2), .val (.int p3), .val (.int p4), .val (.int p5), .val (.int p6), .val (.int vdc), .val (.int vd0), .val (.int vd1), .val (.int vd2), .val (.int z1), .val (.int z4), .val (.int z7), .val (.int (1 : Int32)), .val (.ref b10), .val (.ref r22)] [(.ref r22)])) rfl rfl (hb hby at_184) _ ?_
            rw [len_of S_r M_r]
            show Steps p.tables e below (T22.setTop (mkF m 185 #[.val (.int p1), .val (.int p2), .val (.int p3), .val (.int p4), .val (.int p5), .val (.int p6), .val (.int vdc), .val (.int vd0), .val (.int vd1), .val (.int vd2), .val (.int z1), .val (.int z4), .val (.int z7), .val (.int (1 : Int32)), .val (.ref b10), .val (.ref r22)] [(.int vdc)])) _
            refine XS.iload X22.here hx rfl (hb hby at_185) rfl ?_
            show Steps p.tables e below (T22.setTop (mkF m 187 #[.val (.int p1), .val (.int p2), .val (.int p3), .val (.int p4), .val (.int p5), .val (.int p6), .val (.int vdc), .val (.int vd0), .val (.int vd1), .val (.int vd2), .val (.int z1), .val (.int z4), .val (.int z7), .val (.int (1 : Int32)), .val (.ref b10), .val (.ref r22)] [(.int vdc), (.int vdc)])) _
            refine XS.icmpYes X22.here hx rfl (pc0 := 187) (pc' := 192) rfl (hb hby at_187) rfl (teq rfl).1 (by decide) (by decide) ?_
            exact k
          have htl := own_tail p1 p2 p3 p4 p5 p6 vdc vd0 vd1 vd2 z1 z4 z7 (1 : Int32) b10 r22 kr22 [(vd2, p5), (vd1, p4)] X22 hx hZ hw hby hml hown Bd rfl N22 (Nat.le_trans (Nat.le_trans (Nat.le_trans (Nat.le_trans (Nat.le_trans Z0 E10.1) K11q.1) K18q.1) K21q.1) K22q.1) (by decide) (by decide) V22q (fun i => by simp only [own_gv, own_e, own_e1, if_pos hc130_12, if_neg hc143_13, if_neg hc156_19])
          exact htl
        · have hcap1 : (1 : Int32) < vcap := own_ltI (by have q := own_neI hN1; have q0 := own_toI hcap0; show (1 : Int) < _; have e1 : (1 : Int32).toInt = 1 := (by decide); have e2 : (0 : Int32).toInt = 0 := (by decide); omega)
          obtain ⟨cq23, kq23, q23a, q23b, q23c⟩ := isOf hZ rfl E18q
          obtain ⟨_, _, ⟨T23, L23, k23, n23⟩, -, X23, ⟨Lc23, hQ23, l23, y23, z23⟩, st23⟩ := X18.virtualBack hx (y := (⟨"com/example/libqlm/libqlm/Postings", "add", "(II)V"⟩ : MethodName)) (z := (⟨"com/example/libqlm/libqlm/Postings", "add", "(II)V"⟩ : MethodName)) hown (mvT hZ (hw _ (List.mem_of_getElem? (i := 28) rfl))) (mvT hZ (hw _ (List.mem_of_getElem? (i := 29) rfl))) (notFace_of_selects (args := #[]) (mvT hZ (hw _ (List.mem_of_getElem? (i := 31) rfl)))) (mvT hZ (hw _ (List.mem_of_getElem? (i := 31) rfl))) (mvT hZ (hw _ (List.mem_of_getElem? (i := 30) rfl))) (by decide) (backOf (W := 0) (rm5_1 l Z a0 hw [] b10 vd2 p5 d11 f11 kd11 kf11 vcap ((0 : Int64) + (p4.toInt64)) vd1 p4 T18.heap n0 (Nat.le_trans (Nat.le_trans (Nat.le_trans Z0 E10.1) K11q.1) K18q.1) E18q g_b10 g_d11 g_f11 F18_s F18_d F18_f F18_c V18_d V18_f ne_b10_d11 ne_b10_f11 ne11_df hcap1) hZ (hw _ (List.mem_of_getElem? (i := 32) rfl)) (hw _ (List.mem_of_getElem? (i := 3) rfl)) (by decide) (by decide)) q23a q23c (g := (mkF m 165 #[.val (.int p1), .val (.int p2), .val (.int p3), .val (.int p4), .val (.int p5), .val (.int p6), .val (.int vdc), .val (.int vd0), .val (.int vd1), .val (.int vd2), .val (.int z1), .val (.int z4), .val (.int z7), .val (.int vcap), .val (.ref b10), .unset] [(.int p5), (.int vd2), (.ref b10)])) rfl (by rw [hml]; rfl) (Steps.refl _) (argsL := [(.int vd2), (.int p5)]) (rest := []) (lenOf own_pd3 rfl) rfl (by show 2 * 0 + _ ≤ _; exact Nat.le_of_eq rfl) (hb hby at_165) (fun _ _ => ⟨rfl, rfl, (by decide : 3 + 0 ≤ _), (by decide : 13 + 0 ≤ _)⟩)
          dsimp only [Pt.U, Pt.locs, Pt.cells, Pt.slots] at X23 l23 y23 z23 st23 hQ23
          subst l23 y23 z23
          obtain ⟨rfl, N23q, K23q, E23q, F23_s, F23_d, F23_f, F23_c, V23_d, V23_f⟩ := hQ23
          have N23 := Fr.app N18 N23q
          refine own_go (B := T23.setTop (mkF m 168 #[.val (.int p1), .val (.int p2), .val (.int p3), .val (.int p4), .val (.int p5), .val (.int p6), .val (.int vdc), .val (.int vd0), .val (.int vd1), .val (.int vd2), .val (.int z1), .val (.int z4), .val (.int z7), .val (.int vcap), .val (.ref b10), .unset] [])) (fun t k => st23.trans k) ?_
          refine own_go (B := T23.setTop (mkF m 172 #[.val (.int p1), .val (.int p2), .val (.int p3), .val (.int p4), .val (.int p5), .val (.int p6), .val (.int vdc), .val (.int vd0), .val (.int vd1), .val (.int vd2), .val (.int z1), .val (.int z4), .val (.int z7), .val (.int vcap), .val (.ref b10), .unset] [(.int vdc), (.ref b10)])) (fun t k => ?_) ?_
          · show Steps p.tables e below (T23.setTop (mkF m 168 #[.val (.int p1), .val (.int p2), .val (.int p3), .val (.int p4), .val (.int p5), .val (.int p6), .val (.int vdc), .val (.int vd0), .val (.int vd1), .val (.int vd2), .val (.int z1), .val (.int z4), .val (.int z7), .val (.int vcap), .val (.ref b10), .unset] [])) _
            refine XS.aload X23.here hx rfl (hb hby at_168) rfl rfl ?_
            show Steps p.tables e below (T23.setTop (mkF m 170 #[.val (.int p1), .val (.int p2), .val (.int p3), .val (.int p4), .val (.int p5), .val (.int p6), .val (.int vdc), .val (.int vd0), .val (.int vd1), .val (.int vd2), .val (.int z1), .val (.int z4), .val (.int z7), .val (.int vcap), .val (.ref b10), .unset] [(.ref b10)])) _
            refine XS.iload X23.here hx rfl (hb hby at_170) rfl ?_
            exact k
          obtain ⟨cq24, kq24, q24a, q24b, q24c⟩ := isOf hZ rfl E23q
          obtain ⟨_, _, ⟨T24, L24, k24, n24⟩, -, X24, ⟨Lc24, hQ24, l24, y24, z24⟩, st24⟩ := X23.virtualBack hx (y := (⟨"com/example/libqlm/libqlm/Postings", "frequenciesByDocument", "(I)[I"⟩ : MethodName)) (z := (⟨"com/example/libqlm/libqlm/Postings", "frequenciesByDocument", "(I)[I"⟩ : MethodName)) hown (mvT hZ (hw _ (List.mem_of_getElem? (i := 17) rfl))) (mvT hZ (hw _ (List.mem_of_getElem? (i := 18) rfl))) (notFace_of_selects (args := #[]) (mvT hZ (hw _ (List.mem_of_getElem? (i := 20) rfl)))) (mvT hZ (hw _ (List.mem_of_getElem? (i := 20) rfl))) (mvT hZ (hw _ (List.mem_of_getElem? (i := 19) rfl))) (by decide) (backOf (W := 0) (rm3_2 l Z a0 hw [] b10 vdc d11 f11 kd11 kf11 vcap vd1 vd2 p4 p5 T23.heap n0 (Nat.le_trans (Nat.le_trans (Nat.le_trans (Nat.le_trans Z0 E10.1) K11q.1) K18q.1) K23q.1) F23_s F23_d F23_f V23_d V23_f hdcN hcap0 hcap1 ⟨hnn_vd1, hlt_vd1⟩ ⟨hnn_vd2, hlt_vd2⟩) hZ (hw _ (List.mem_of_getElem? (i := 21) rfl)) (hw _ (List.mem_of_getElem? (i := 3) rfl)) (by decide) (by decide)) q24a q24c (g := (mkF m 172 #[.val (.int p1), .val (.int p2), .val (.int p3), .val (.int p4), .val (.int p5), .val (.int p6), .val (.int vdc), .val (.int vd0), .val (.int vd1), .val (.int vd2), .val (.int z1), .val (.int z4), .val (.int z7), .val (.int vcap), .val (.ref b10), .unset] [(.int vdc), (.ref b10)])) rfl (by rw [hml]; rfl) (Steps.refl _) (argsL := [(.int vdc)]) (rest := []) (lenOf own_pd4 rfl) rfl (by show 2 * 0 + _ ≤ _; exact Nat.le_of_eq rfl) (hb hby at_172) (fun _ _ => ⟨rfl, rfl, (by decide : 3 + 1 ≤ _), (by decide : 13 + 8 ≤ _)⟩)
          dsimp only [Pt.U, Pt.locs, Pt.cells, Pt.slots] at X24 l24 y24 z24 st24 hQ24
          subst l24 y24 z24
          obtain ⟨r24, kr24, rfl, N24q, K24q, V24q⟩ := hQ24
          have N24 := Fr.app N23 N24q
          have c24_E_b10 := E23q.keep K24q
          have c24_F_b10_size := F23_s.keep K24q (List.not_mem_nil)
          have c24_F_b10_documents := F23_d.keep K24q (List.not_mem_nil)
          have c24_F_b10_frequencies := F23_f.keep K24q (List.not_mem_nil)
          have c24_F_b10_collectionFrequency := F23_c.keep K24q (List.not_mem_nil)
          have c24_V_d11 := V23_d.keep K24q (List.not_mem_nil)
          have c24_V_f11 := V23_f.keep K24q (List.not_mem_nil)
          refine own_go (B := T24.setTop (mkF m 175 #[.val (.int p1), .val (.int p2), .val (.int p3), .val (.int p4), .val (.int p5), .val (.int p6), .val (.int vdc), .val (.int vd0), .val (.int vd1), .val (.int vd2), .val (.int z1), .val (.int z4), .val (.int z7), .val (.int vcap), .val (.ref b10), .unset] [(.ref r24)])) (fun t k => st24.trans k) ?_
          refine own_go (B := T24.setTop (mkF m 184 #[.val (.int p1), .val (.int p2), .val (.int p3), .val (.int p4), .val (.int p5), .val (.int p6), .val (.int vdc), .val (.int vd0), .val (.int vd1), .val (.int vd2), .val (.int z1), .val (.int z4), .val (.int z7), .val (.int vcap), .val (.ref b10), .val (.ref r24)] [(.ref r24)])) (fun t k => ?_) ?_
          · show Steps p.tables e below (T24.setTop (mkF m 175 #[.val (.int p1), .val (.int p2), .val (.int p3), .val (.int p4), .val (.int p5), .val (.int p6), .val (.int vdc), .val (.int vd0), .val (.int vd1), .val (.int vd2), .val (.int z1), .val (.int z4), .val (.int z7), .val (.int vcap), .val (.ref b10), .unset] [(.ref r24)])) _
            refine XS.astore X24.here hx rfl (hb hby at_175) rfl rfl (l' := #[.val (.int p1), .val (.int p2), .val (.int p3), .val (.int p4), .val (.int p5), .val (.int p6), .val (.int vdc), .val (.int vd0), .val (.int vd1), .val (.int vd2), .val (.int z1), .val (.int z4), .val (.int z7), .val (.int vcap), .val (.ref b10), .val (.ref r24)]) rfl ?_
            show Steps p.tables e below (T24.setTop (mkF m 177 #[.val (.int p1), .val (.int p2), .val (.int p3), .val (.int p4), .val (.int p5), .val (.int p6), .val (.int vdc), .val (.int vd0), .val (.int vd1), .val (.int vd2), .val (.int z1), .val (.int z4), .val (.int z7), .val (.int vcap), .val (.ref b10), .val (.ref r24)] [])) _
            refine XS.aload X24.here hx rfl (hb hby at_177) rfl rfl ?_
            show Steps p.tables e below (T24.setTop (mkF m 179 #[.val (.int p1), .val (.int p2), .val (.int p3), .val (.int p4), .val (.int p5), .val (.int p6), .val (.int vdc), .val (.int vd0), .val (.int vd1), .val (.int vd2), .val (.int z1), .val (.int z4), .val (.int z7), .val (.int vcap), .val (.ref b10), .val (.ref r24)] [(.ref r24)])) _
            refine XS.ifnullNo X24.here hx rfl (hb hby at_179) rfl ?_
            show Steps p.tables e below (T24.setTop (mkF m 182 #[.val (.int p1), .val (.int p2), .val (.int p3), .val (.int p4), .val (.int p5), .val (.int p6), .val (.int vdc), .val (.int vd0), .val (.int vd1), .val (.int vd2), .val (.int z1), .val (.int z4), .val (.int z7), .val (.int vcap), .val (.ref b10), .val (.ref r24)] [])) _
            refine XS.aload X24.here hx rfl (hb hby at_182) rfl rfl ?_
            exact k
          obtain ⟨cl_r, Ar_r, q_r, S_r, M_r, H_r, G_r⟩ := id V24q
          refine own_go (B := T24.setTop (mkF m 192 #[.val (.int p1), .val (.int p2), .val (.int p3), .val (.int p4), .val (.int p5), .val (.int p6), .val (.int vdc), .val (.int vd0), .val (.int vd1), .val (.int vd2), .val (.int z1), .val (.int z4), .val (.int z7), .val (.int vcap), .val (.ref b10), .val (.ref r24)] [])) (fun t k => ?_) ?_
          · show Steps p.tables e below (T24.setTop (mkF m 184 #[.val (.int p1), .val (.int p2), .val (.int p3), .val (.int p4), .val (.int p5), .val (.int p6), .val (.int vdc), .val (.int vd0), .val (.int vd1), .val (.int vd2), .val (.int z1), .val (.int z4), .val (.int z7), .val (.int vcap), .val (.ref b10), .val (.ref r24)] [(.ref r24)])) _
            refine X24.arraylength hx Ar_r.1 (State.isArrayOf_alike hZ.alike Ar_r.2.1) (g := (mkF m 184 #[.val (.int p1), .val (.int p2), .val (.int p3), .val (.int p4), .val (.int p5), .val (.int p6), .val (.int vdc), .val (.int vd0), .val (.int vd1), .val (.int vd2), .val (.int z1), .val (.int z4), .val (.int z7), .val (.int vcap), .val (.ref b10), .val (.ref r24)] [(.ref r24)])) rfl rfl (hb hby at_184) _ ?_
            rw [len_of S_r M_r]
            show Steps p.tables e below (T24.setTop (mkF m 185 #[.val (.int p1), .val (.int p2), .val (.int p3), .val (.int p4), .val (.int p5), .val (.int p6), .val (.int vdc), .val (.int vd0), .val (.int vd1), .val (.int vd2), .val (.int z1), .val (.int z4), .val (.int z7), .val (.int vcap), .val (.ref b10), .val (.ref r24)] [(.int vdc)])) _
            refine XS.iload X24.here hx rfl (hb hby at_185) rfl ?_
            show Steps p.tables e below (T24.setTop (mkF m 187 #[.val (.int p1), .val (.int p2), .val (.int p3), .val (.int p4), .val (.int p5), .val (.int p6), .val (.int vdc), .val (.int vd0), .val (.int vd1), .val (.int vd2), .val (.int z1), .val (.int z4), .val (.int z7), .val (.int vcap), .val (.ref b10), .val (.ref r24)] [(.int vdc), (.int vdc)])) _
            refine XS.icmpYes X24.here hx rfl (pc0 := 187) (pc' := 192) rfl (hb hby at_187) rfl (teq rfl).1 (by decide) (by decide) ?_
            exact k
          have htl := own_tail p1 p2 p3 p4 p5 p6 vdc vd0 vd1 vd2 z1 z4 z7 vcap b10 r24 kr24 [(vd2, p5), (vd1, p4)] X24 hx hZ hw hby hml hown Bd rfl N24 (Nat.le_trans (Nat.le_trans (Nat.le_trans (Nat.le_trans (Nat.le_trans Z0 E10.1) K11q.1) K18q.1) K23q.1) K24q.1) (by decide) (by decide) V24q (fun i => by simp only [own_gv, own_e, own_e1, if_pos hc130_12, if_neg hc143_13, if_neg hc156_19])
          exact htl
  · refine own_go (B := T11.setTop (mkF m 133 #[.val (.int p1), .val (.int p2), .val (.int p3), .val (.int p4), .val (.int p5), .val (.int p6), .val (.int vdc), .val (.int vd0), .val (.int vd1), .val (.int vd2), .val (.int z1), .val (.int z4), .val (.int z7), .val (.int vcap), .val (.ref b10), .unset] [])) (fun t k => ?_) ?_
    · show Steps p.tables e below (T11.setTop (mkF m 130 #[.val (.int p1), .val (.int p2), .val (.int p3), .val (.int p4), .val (.int p5), .val (.int p6), .val (.int vdc), .val (.int vd0), .val (.int vd1), .val (.int vd2), .val (.int z1), .val (.int z4), .val (.int z7), .val (.int vcap), .val (.ref b10), .unset] [(.int z1)])) _
      refine XS.ifNo X11.here hx rfl (hb hby at_130) rfl ((if0 _ _).trans (feq hc130_12).1) ?_
      exact k
    have hlt_vd0 : vd0 < vdc := own_in hz1 hc130_12
    refine own_go (B := T11.setTop (mkF m 138 #[.val (.int p1), .val (.int p2), .val (.int p3), .val (.int p4), .val (.int p5), .val (.int p6), .val (.int vdc), .val (.int vd0), .val (.int vd1), .val (.int vd2), .val (.int z1), .val (.int z4), .val (.int z7), .val (.int vcap), .val (.ref b10), .unset] [(.int p3), (.int vd0), (.ref b10)])) (fun t k => ?_) ?_
    · show Steps p.tables e below (T11.setTop (mkF m 133 #[.val (.int p1), .val (.int p2), .val (.int p3), .val (.int p4), .val (.int p5), .val (.int p6), .val (.int vdc), .val (.int vd0), .val (.int vd1), .val (.int vd2), .val (.int z1), .val (.int z4), .val (.int z7), .val (.int vcap), .val (.ref b10), .unset] [])) _
      refine XS.aload X11.here hx rfl (hb hby at_133) rfl rfl ?_
      show Steps p.tables e below (T11.setTop (mkF m 135 #[.val (.int p1), .val (.int p2), .val (.int p3), .val (.int p4), .val (.int p5), .val (.int p6), .val (.int vdc), .val (.int vd0), .val (.int vd1), .val (.int vd2), .val (.int z1), .val (.int z4), .val (.int z7), .val (.int vcap), .val (.ref b10), .unset] [(.ref b10)])) _
      refine XS.iload X11.here hx rfl (hb hby at_135) rfl ?_
      show Steps p.tables e below (T11.setTop (mkF m 137 #[.val (.int p1), .val (.int p2), .val (.int p3), .val (.int p4), .val (.int p5), .val (.int p6), .val (.int vdc), .val (.int vd0), .val (.int vd1), .val (.int vd2), .val (.int z1), .val (.int z4), .val (.int z7), .val (.int vcap), .val (.ref b10), .unset] [(.int vd0), (.ref b10)])) _
      refine XS.iloadN X11.here hx rfl (hb hby at_137) rfl ?_
      exact k
    obtain ⟨cq25, kq25, q25a, q25b, q25c⟩ := isOf hZ rfl E11q
    obtain ⟨_, _, ⟨T25, L25, k25, n25⟩, -, X25, ⟨Lc25, hQ25, l25, y25, z25⟩, st25⟩ := X11.virtualBack hx (y := (⟨"com/example/libqlm/libqlm/Postings", "add", "(II)V"⟩ : MethodName)) (z := (⟨"com/example/libqlm/libqlm/Postings", "add", "(II)V"⟩ : MethodName)) hown (mvT hZ (hw _ (List.mem_of_getElem? (i := 28) rfl))) (mvT hZ (hw _ (List.mem_of_getElem? (i := 29) rfl))) (notFace_of_selects (args := #[]) (mvT hZ (hw _ (List.mem_of_getElem? (i := 31) rfl)))) (mvT hZ (hw _ (List.mem_of_getElem? (i := 31) rfl))) (mvT hZ (hw _ (List.mem_of_getElem? (i := 30) rfl))) (by decide) (backOf (W := 0) (rm5_0 l Z a0 hw [] b10 vd0 p3 d11 f11 kd11 kf11 vcap (0 : Int64)  T11.heap n0 (Nat.le_trans (Nat.le_trans Z0 E10.1) K11q.1) E11q g_b10 g_d11 g_f11 F11_s F11_d F11_f F11_c V11_d V11_f ne_b10_d11 ne_b10_f11 ne11_df hcap0) hZ (hw _ (List.mem_of_getElem? (i := 32) rfl)) (hw _ (List.mem_of_getElem? (i := 3) rfl)) (by decide) (by decide)) q25a q25c (g := (mkF m 138 #[.val (.int p1), .val (.int p2), .val (.int p3), .val (.int p4), .val (.int p5), .val (.int p6), .val (.int vdc), .val (.int vd0), .val (.int vd1), .val (.int vd2), .val (.int z1), .val (.int z4), .val (.int z7), .val (.int vcap), .val (.ref b10), .unset] [(.int p3), (.int vd0), (.ref b10)])) rfl (by rw [hml]; rfl) (Steps.refl _) (argsL := [(.int vd0), (.int p3)]) (rest := []) (lenOf own_pd3 rfl) rfl (by show 2 * 0 + _ ≤ _; exact Nat.le_of_eq rfl) (hb hby at_138) (fun _ _ => ⟨rfl, rfl, (by decide : 3 + 0 ≤ _), (by decide : 13 + 0 ≤ _)⟩)
    dsimp only [Pt.U, Pt.locs, Pt.cells, Pt.slots] at X25 l25 y25 z25 st25 hQ25
    subst l25 y25 z25
    obtain ⟨rfl, N25q, K25q, E25q, F25_s, F25_d, F25_f, F25_c, V25_d, V25_f⟩ := hQ25
    have N25 := Fr.app N11 N25q
    refine own_go (B := T25.setTop (mkF m 141 #[.val (.int p1), .val (.int p2), .val (.int p3), .val (.int p4), .val (.int p5), .val (.int p6), .val (.int vdc), .val (.int vd0), .val (.int vd1), .val (.int vd2), .val (.int z1), .val (.int z4), .val (.int z7), .val (.int vcap), .val (.ref b10), .unset] [])) (fun t k => st25.trans k) ?_
    refine own_go (B := T25.setTop (mkF m 143 #[.val (.int p1), .val (.int p2), .val (.int p3), .val (.int p4), .val (.int p5), .val (.int p6), .val (.int vdc), .val (.int vd0), .val (.int vd1), .val (.int vd2), .val (.int z1), .val (.int z4), .val (.int z7), .val (.int vcap), .val (.ref b10), .unset] [(.int z4)])) (fun t k => ?_) ?_
    · show Steps p.tables e below (T25.setTop (mkF m 141 #[.val (.int p1), .val (.int p2), .val (.int p3), .val (.int p4), .val (.int p5), .val (.int p6), .val (.int vdc), .val (.int vd0), .val (.int vd1), .val (.int vd2), .val (.int z1), .val (.int z4), .val (.int z7), .val (.int vcap), .val (.ref b10), .unset] [])) _
      refine XS.iload X25.here hx rfl (hb hby at_141) rfl ?_
      exact k
    by_cases hc143_26 : z4 = (0 : Int32)
    · refine own_go (B := T25.setTop (mkF m 156 #[.val (.int p1), .val (.int p2), .val (.int p3), .val (.int p4), .val (.int p5), .val (.int p6), .val (.int vdc), .val (.int vd0), .val (.int vd1), .val (.int vd2), .val (.int z1), .val (.int z4), .val (.int z7), .val (.int vcap), .val (.ref b10), .unset] [(.int z7)])) (fun t k => ?_) ?_
      · show Steps p.tables e below (T25.setTop (mkF m 143 #[.val (.int p1), .val (.int p2), .val (.int p3), .val (.int p4), .val (.int p5), .val (.int p6), .val (.int vdc), .val (.int vd0), .val (.int vd1), .val (.int vd2), .val (.int z1), .val (.int z4), .val (.int z7), .val (.int vcap), .val (.ref b10), .unset] [(.int z4)])) _
        refine XS.ifYes X25.here hx rfl (pc0 := 143) (pc' := 154) rfl (hb hby at_143) rfl ((if0 _ _).trans (teq hc143_26).1) (by decide) (by decide) ?_
        show Steps p.tables e below (T25.setTop (mkF m 154 #[.val (.int p1), .val (.int p2), .val (.int p3), .val (.int p4), .val (.int p5), .val (.int p6), .val (.int vdc), .val (.int vd0), .val (.int vd1), .val (.int vd2), .val (.int z1), .val (.int z4), .val (.int z7), .val (.int vcap), .val (.ref b10), .unset] [])) _
        refine XS.iload X25.here hx rfl (hb hby at_154) rfl ?_
        exact k
      by_cases hc156_27 : z7 = (0 : Int32)
      · refine own_go (B := T25.setTop (mkF m 172 #[.val (.int p1), .val (.int p2), .val (.int p3), .val (.int p4), .val (.int p5), .val (.int p6), .val (.int vdc), .val (.int vd0), .val (.int vd1), .val (.int vd2), .val (.int z1), .val (.int z4), .val (.int z7), .val (.int vcap), .val (.ref b10), .unset] [(.int vdc), (.ref b10)])) (fun t k => ?_) ?_
        · show Steps p.tables e below (T25.setTop (mkF m 156 #[.val (.int p1), .val (.int p2), .val (.int p3), .val (.int p4), .val (.int p5), .val (.int p6), .val (.int vdc), .val (.int vd0), .val (.int vd1), .val (.int vd2), .val (.int z1), .val (.int z4), .val (.int z7), .val (.int vcap), .val (.ref b10), .unset] [(.int z7)])) _
          refine XS.ifYes X25.here hx rfl (pc0 := 156) (pc' := 168) rfl (hb hby at_156) rfl ((if0 _ _).trans (teq hc156_27).1) (by decide) (by decide) ?_
          show Steps p.tables e below (T25.setTop (mkF m 168 #[.val (.int p1), .val (.int p2), .val (.int p3), .val (.int p4), .val (.int p5), .val (.int p6), .val (.int vdc), .val (.int vd0), .val (.int vd1), .val (.int vd2), .val (.int z1), .val (.int z4), .val (.int z7), .val (.int vcap), .val (.ref b10), .unset] [])) _
          refine XS.aload X25.here hx rfl (hb hby at_168) rfl rfl ?_
          show Steps p.tables e below (T25.setTop (mkF m 170 #[.val (.int p1), .val (.int p2), .val (.int p3), .val (.int p4), .val (.int p5), .val (.int p6), .val (.int vdc), .val (.int vd0), .val (.int vd1), .val (.int vd2), .val (.int z1), .val (.int z4), .val (.int z7), .val (.int vcap), .val (.ref b10), .unset] [(.ref b10)])) _
          refine XS.iload X25.here hx rfl (hb hby at_170) rfl ?_
          exact k
        obtain ⟨cq28, kq28, q28a, q28b, q28c⟩ := isOf hZ rfl E25q
        obtain ⟨_, _, ⟨T28, L28, k28, n28⟩, -, X28, ⟨Lc28, hQ28, l28, y28, z28⟩, st28⟩ := X25.virtualBack hx (y := (⟨"com/example/libqlm/libqlm/Postings", "frequenciesByDocument", "(I)[I"⟩ : MethodName)) (z := (⟨"com/example/libqlm/libqlm/Postings", "frequenciesByDocument", "(I)[I"⟩ : MethodName)) hown (mvT hZ (hw _ (List.mem_of_getElem? (i := 17) rfl))) (mvT hZ (hw _ (List.mem_of_getElem? (i := 18) rfl))) (notFace_of_selects (args := #[]) (mvT hZ (hw _ (List.mem_of_getElem? (i := 20) rfl)))) (mvT hZ (hw _ (List.mem_of_getElem? (i := 20) rfl))) (mvT hZ (hw _ (List.mem_of_getElem? (i := 19) rfl))) (by decide) (backOf (W := 0) (rm3_1 l Z a0 hw [] b10 vdc d11 f11 kd11 kf11 vcap vd0 p3 T25.heap n0 (Nat.le_trans (Nat.le_trans (Nat.le_trans Z0 E10.1) K11q.1) K25q.1) F25_s F25_d F25_f V25_d V25_f hdcN hcap0 ⟨hnn_vd0, hlt_vd0⟩) hZ (hw _ (List.mem_of_getElem? (i := 21) rfl)) (hw _ (List.mem_of_getElem? (i := 3) rfl)) (by decide) (by decide)) q28a q28c (g := (mkF m 172 #[.val (.int p1), .val (.int p2), .val (.int p3), .val (.int p4), .val (.int p5), .val (.int p6), .val (.int vdc), .val (.int vd0), .val (.int vd1), .val (.int vd2), .val (.int z1), .val (.int z4), .val (.int z7), .val (.int vcap), .val (.ref b10), .unset] [(.int vdc), (.ref b10)])) rfl (by rw [hml]; rfl) (Steps.refl _) (argsL := [(.int vdc)]) (rest := []) (lenOf own_pd4 rfl) rfl (by show 2 * 0 + _ ≤ _; exact Nat.le_of_eq rfl) (hb hby at_172) (fun _ _ => ⟨rfl, rfl, (by decide : 3 + 1 ≤ _), (by decide : 13 + 8 ≤ _)⟩)
        dsimp only [Pt.U, Pt.locs, Pt.cells, Pt.slots] at X28 l28 y28 z28 st28 hQ28
        subst l28 y28 z28
        obtain ⟨r28, kr28, rfl, N28q, K28q, V28q⟩ := hQ28
        have N28 := Fr.app N25 N28q
        have c28_E_b10 := E25q.keep K28q
        have c28_F_b10_size := F25_s.keep K28q (List.not_mem_nil)
        have c28_F_b10_documents := F25_d.keep K28q (List.not_mem_nil)
        have c28_F_b10_frequencies := F25_f.keep K28q (List.not_mem_nil)
        have c28_F_b10_collectionFrequency := F25_c.keep K28q (List.not_mem_nil)
        have c28_V_d11 := V25_d.keep K28q (List.not_mem_nil)
        have c28_V_f11 := V25_f.keep K28q (List.not_mem_nil)
        refine own_go (B := T28.setTop (mkF m 175 #[.val (.int p1), .val (.int p2), .val (.int p3), .val (.int p4), .val (.int p5), .val (.int p6), .val (.int vdc), .val (.int vd0), .val (.int vd1), .val (.int vd2), .val (.int z1), .val (.int z4), .val (.int z7), .val (.int vcap), .val (.ref b10), .unset] [(.ref r28)])) (fun t k => st28.trans k) ?_
        refine own_go (B := T28.setTop (mkF m 184 #[.val (.int p1), .val (.int p2), .val (.int p3), .val (.int p4), .val (.int p5), .val (.int p6), .val (.int vdc), .val (.int vd0), .val (.int vd1), .val (.int vd2), .val (.int z1), .val (.int z4), .val (.int z7), .val (.int vcap), .val (.ref b10), .val (.ref r28)] [(.ref r28)])) (fun t k => ?_) ?_
        · show Steps p.tables e below (T28.setTop (mkF m 175 #[.val (.int p1), .val (.int p2), .val (.int p3), .val (.int p4), .val (.int p5), .val (.int p6), .val (.int vdc), .val (.int vd0), .val (.int vd1), .val (.int vd2), .val (.int z1), .val (.int z4), .val (.int z7), .val (.int vcap), .val (.ref b10), .unset] [(.ref r28)])) _
          refine XS.astore X28.here hx rfl (hb hby at_175) rfl rfl (l' := #[.val (.int p1), .val (.int p2), .val (.int p3), .val (.int p4), .val (.int p5), .val (.int p6), .val (.int vdc), .val (.int vd0), .val (.int vd1), .val (.int vd2), .val (.int z1), .val (.int z4), .val (.int z7), .val (.int vcap), .val (.ref b10), .val (.ref r28)]) rfl ?_
          show Steps p.tables e below (T28.setTop (mkF m 177 #[.val (.int p1), .val (.int p2), .val (.int p3), .val (.int p4), .val (.int p5), .val (.int p6), .val (.int vdc), .val (.int vd0), .val (.int vd1), .val (.int vd2), .val (.int z1), .val (.int z4), .val (.int z7), .val (.int vcap), .val (.ref b10), .val (.ref r28)] [])) _
          refine XS.aload X28.here hx rfl (hb hby at_177) rfl rfl ?_
          show Steps p.tables e below (T28.setTop (mkF m 179 #[.val (.int p1), .val (.int p2), .val (.int p3), .val (.int p4), .val (.int p5), .val (.int p6), .val (.int vdc), .val (.int vd0), .val (.int vd1), .val (.int vd2), .val (.int z1), .val (.int z4), .val (.int z7), .val (.int vcap), .val (.ref b10), .val (.ref r28)] [(.ref r28)])) _
          refine XS.ifnullNo X28.here hx rfl (hb hby at_179) rfl ?_
          show Steps p.tables e below (T28.setTop (mkF m 182 #[.val (.int p1), .val (.int p2), .val (.int p3), .val (.int p4), .val (.int p5), .val (.int p6), .val (.int vdc), .val (.int vd0), .val (.int vd1), .val (.int vd2), .val (.int z1), .val (.int z4), .val (.int z7), .val (.int vcap), .val (.ref b10), .val (.ref r28)] [])) _
          refine XS.aload X28.here hx rfl (hb hby at_182) rfl rfl ?_
          exact k
        obtain ⟨cl_r, Ar_r, q_r, S_r, M_r, H_r, G_r⟩ := id V28q
        refine own_go (B := T28.setTop (mkF m 192 #[.val (.int p1), .val (.int p2), .val (.int p3), .val (.int p4), .val (.int p5), .val (.int p6), .val (.int vdc), .val (.int vd0), .val (.int vd1), .val (.int vd2), .val (.int z1), .val (.int z4), .val (.int z7), .val (.int vcap), .val (.ref b10), .val (.ref r28)] [])) (fun t k => ?_) ?_
        · show Steps p.tables e below (T28.setTop (mkF m 184 #[.val (.int p1), .val (.int p2), .val (.int p3), .val (.int p4), .val (.int p5), .val (.int p6), .val (.int vdc), .val (.int vd0), .val (.int vd1), .val (.int vd2), .val (.int z1), .val (.int z4), .val (.int z7), .val (.int vcap), .val (.ref b10), .val (.ref r28)] [(.ref r28)])) _
          refine X28.arraylength hx Ar_r.1 (State.isArrayOf_alike hZ.alike Ar_r.2.1) (g := (mkF m 184 #[.val (.int p1), .val (.int p2), .val (.int p3), .val (.int p4), .val (.int p5), .val (.int p6), .val (.int vdc), .val (.int vd0), .val (.int vd1), .val (.int vd2), .val (.int z1), .val (.int z4), .val (.int z7), .val (.int vcap), .val (.ref b10), .val (.ref r28)] [(.ref r28)])) rfl rfl (hb hby at_184) _ ?_
          rw [len_of S_r M_r]
          show Steps p.tables e below (T28.setTop (mkF m 185 #[.val (.int p1), .val (.int p2), .val (.int p3), .val (.int p4), .val (.int p5), .val (.int p6), .val (.int vdc), .val (.int vd0), .val (.int vd1), .val (.int vd2), .val (.int z1), .val (.int z4), .val (.int z7), .val (.int vcap), .val (.ref b10), .val (.ref r28)] [(.int vdc)])) _
          refine XS.iload X28.here hx rfl (hb hby at_185) rfl ?_
          show Steps p.tables e below (T28.setTop (mkF m 187 #[.val (.int p1), .val (.int p2), .val (.int p3), .val (.int p4), .val (.int p5), .val (.int p6), .val (.int vdc), .val (.int vd0), .val (.int vd1), .val (.int vd2), .val (.int z1), .val (.int z4), .val (.int z7), .val (.int vcap), .val (.ref b10), .val (.ref r28)] [(.int vdc), (.int vdc)])) _
          refine XS.icmpYes X28.here hx rfl (pc0 := 187) (pc' := 192) rfl (hb hby at_187) rfl (teq rfl).1 (by decide) (by decide) ?_
          exact k
        have htl := own_tail p1 p2 p3 p4 p5 p6 vdc vd0 vd1 vd2 z1 z4 z7 vcap b10 r28 kr28 [(vd0, p3)] X28 hx hZ hw hby hml hown Bd rfl N28 (Nat.le_trans (Nat.le_trans (Nat.le_trans (Nat.le_trans Z0 E10.1) K11q.1) K25q.1) K28q.1) (by decide) (by decide) V28q (fun i => by simp only [own_gv, own_e, own_e1, if_neg hc130_12, if_pos hc143_26, if_pos hc156_27])
        exact htl
      · refine own_go (B := T25.setTop (mkF m 159 #[.val (.int p1), .val (.int p2), .val (.int p3), .val (.int p4), .val (.int p5), .val (.int p6), .val (.int vdc), .val (.int vd0), .val (.int vd1), .val (.int vd2), .val (.int z1), .val (.int z4), .val (.int z7), .val (.int vcap), .val (.ref b10), .unset] [])) (fun t k => ?_) ?_
        · show Steps p.tables e below (T25.setTop (mkF m 156 #[.val (.int p1), .val (.int p2), .val (.int p3), .val (.int p4), .val (.int p5), .val (.int p6), .val (.int vdc), .val (.int vd0), .val (.int vd1), .val (.int vd2), .val (.int z1), .val (.int z4), .val (.int z7), .val (.int vcap), .val (.ref b10), .unset] [(.int z7)])) _
          refine XS.ifNo X25.here hx rfl (hb hby at_156) rfl ((if0 _ _).trans (feq hc156_27).1) ?_
          exact k
        have hlt_vd2 : vd2 < vdc := own_in hz7 hc156_27
        refine own_go (B := T25.setTop (mkF m 165 #[.val (.int p1), .val (.int p2), .val (.int p3), .val (.int p4), .val (.int p5), .val (.int p6), .val (.int vdc), .val (.int vd0), .val (.int vd1), .val (.int vd2), .val (.int z1), .val (.int z4), .val (.int z7), .val (.int vcap), .val (.ref b10), .unset] [(.int p5), (.int vd2), (.ref b10)])) (fun t k => ?_) ?_
        · show Steps p.tables e below (T25.setTop (mkF m 159 #[.val (.int p1), .val (.int p2), .val (.int p3), .val (.int p4), .val (.int p5), .val (.int p6), .val (.int vdc), .val (.int vd0), .val (.int vd1), .val (.int vd2), .val (.int z1), .val (.int z4), .val (.int z7), .val (.int vcap), .val (.ref b10), .unset] [])) _
          refine XS.aload X25.here hx rfl (hb hby at_159) rfl rfl ?_
          show Steps p.tables e below (T25.setTop (mkF m 161 #[.val (.int p1), .val (.int p2), .val (.int p3), .val (.int p4), .val (.int p5), .val (.int p6), .val (.int vdc), .val (.int vd0), .val (.int vd1), .val (.int vd2), .val (.int z1), .val (.int z4), .val (.int z7), .val (.int vcap), .val (.ref b10), .unset] [(.ref b10)])) _
          refine XS.iload X25.here hx rfl (hb hby at_161) rfl ?_
          show Steps p.tables e below (T25.setTop (mkF m 163 #[.val (.int p1), .val (.int p2), .val (.int p3), .val (.int p4), .val (.int p5), .val (.int p6), .val (.int vdc), .val (.int vd0), .val (.int vd1), .val (.int vd2), .val (.int z1), .val (.int z4), .val (.int z7), .val (.int vcap), .val (.ref b10), .unset] [(.int vd2), (.ref b10)])) _
          refine XS.iload X25.here hx rfl (hb hby at_163) rfl ?_
          exact k
        by_cases hN1 : vcap = (1 : Int32)
        · subst hN1
          obtain ⟨cq29, kq29, q29a, q29b, q29c⟩ := isOf hZ rfl E25q
          obtain ⟨_, _, ⟨T29, L29, k29, n29⟩, -, X29, ⟨Lc29, hQ29, l29, y29, z29⟩, st29⟩ := X25.virtualBack hx (y := (⟨"com/example/libqlm/libqlm/Postings", "add", "(II)V"⟩ : MethodName)) (z := (⟨"com/example/libqlm/libqlm/Postings", "add", "(II)V"⟩ : MethodName)) hown (mvT hZ (hw _ (List.mem_of_getElem? (i := 28) rfl))) (mvT hZ (hw _ (List.mem_of_getElem? (i := 29) rfl))) (notFace_of_selects (args := #[]) (mvT hZ (hw _ (List.mem_of_getElem? (i := 31) rfl)))) (mvT hZ (hw _ (List.mem_of_getElem? (i := 31) rfl))) (mvT hZ (hw _ (List.mem_of_getElem? (i := 30) rfl))) (by decide) (backOf (W := 0) (rm5_1g l Z a0 hw [] b10 vd2 p5 d11 f11 kd11 kf11 ((0 : Int64) + (p3.toInt64)) vd0 p3 T25.heap n0 (Nat.le_trans (Nat.le_trans (Nat.le_trans Z0 E10.1) K11q.1) K25q.1) E25q g_b10 g_d11 g_f11 F25_s F25_d F25_f F25_c V25_d V25_f ne_b10_d11 ne_b10_f11 ne11_df) hZ (hw _ (List.mem_of_getElem? (i := 32) rfl)) (hw _ (List.mem_of_getElem? (i := 3) rfl)) (by decide) (by decide)) q29a q29c (g := (mkF m 165 #[.val (.int p1), .val (.int p2), .val (.int p3), .val (.int p4), .val (.int p5), .val (.int p6), .val (.int vdc), .val (.int vd0), .val (.int vd1), .val (.int vd2), .val (.int z1), .val (.int z4), .val (.int z7), .val (.int (1 : Int32)), .val (.ref b10), .unset] [(.int p5), (.int vd2), (.ref b10)])) rfl (by rw [hml]; rfl) (Steps.refl _) (argsL := [(.int vd2), (.int p5)]) (rest := []) (lenOf own_pd3 rfl) rfl (by show 2 * 0 + _ ≤ _; exact Nat.le_of_eq rfl) (hb hby at_165) (fun _ _ => ⟨rfl, rfl, (by decide : 3 + 2 ≤ _), (by decide : 13 + 4 ≤ _)⟩)
          dsimp only [Pt.U, Pt.locs, Pt.cells, Pt.slots] at X29 l29 y29 z29 st29 hQ29
          subst l29 y29 z29
          obtain ⟨rfl, N29q, d29, f29, kd29, kf29, K29q, E29q, F29_s, F29_d, F29_f, F29_c, V29_d, V29_f, q29_d29, q29_f29, g_d29, g_f29, ne29_df⟩ := hQ29
          have N29 := Fr.app N25 N29q
          have ne_b10_d29 : b10 ≠ d29 := Nat.ne_of_lt (Nat.lt_of_lt_of_le E25q.lt q29_d29)
          have ne_b10_f29 : b10 ≠ f29 := Nat.ne_of_lt (Nat.lt_of_lt_of_le E25q.lt q29_f29)
          refine own_go (B := T29.setTop (mkF m 168 #[.val (.int p1), .val (.int p2), .val (.int p3), .val (.int p4), .val (.int p5), .val (.int p6), .val (.int vdc), .val (.int vd0), .val (.int vd1), .val (.int vd2), .val (.int z1), .val (.int z4), .val (.int z7), .val (.int (1 : Int32)), .val (.ref b10), .unset] [])) (fun t k => st29.trans k) ?_
          refine own_go (B := T29.setTop (mkF m 172 #[.val (.int p1), .val (.int p2), .val (.int p3), .val (.int p4), .val (.int p5), .val (.int p6), .val (.int vdc), .val (.int vd0), .val (.int vd1), .val (.int vd2), .val (.int z1), .val (.int z4), .val (.int z7), .val (.int (1 : Int32)), .val (.ref b10), .unset] [(.int vdc), (.ref b10)])) (fun t k => ?_) ?_
          · show Steps p.tables e below (T29.setTop (mkF m 168 #[.val (.int p1), .val (.int p2), .val (.int p3), .val (.int p4), .val (.int p5), .val (.int p6), .val (.int vdc), .val (.int vd0), .val (.int vd1), .val (.int vd2), .val (.int z1), .val (.int z4), .val (.int z7), .val (.int (1 : Int32)), .val (.ref b10), .unset] [])) _
            refine XS.aload X29.here hx rfl (hb hby at_168) rfl rfl ?_
            show Steps p.tables e below (T29.setTop (mkF m 170 #[.val (.int p1), .val (.int p2), .val (.int p3), .val (.int p4), .val (.int p5), .val (.int p6), .val (.int vdc), .val (.int vd0), .val (.int vd1), .val (.int vd2), .val (.int z1), .val (.int z4), .val (.int z7), .val (.int (1 : Int32)), .val (.ref b10), .unset] [(.ref b10)])) _
            refine XS.iload X29.here hx rfl (hb hby at_170) rfl ?_
            exact k
          obtain ⟨cq30, kq30, q30a, q30b, q30c⟩ := isOf hZ rfl E29q
          obtain ⟨_, _, ⟨T30, L30, k30, n30⟩, -, X30, ⟨Lc30, hQ30, l30, y30, z30⟩, st30⟩ := X29.virtualBack hx (y := (⟨"com/example/libqlm/libqlm/Postings", "frequenciesByDocument", "(I)[I"⟩ : MethodName)) (z := (⟨"com/example/libqlm/libqlm/Postings", "frequenciesByDocument", "(I)[I"⟩ : MethodName)) hown (mvT hZ (hw _ (List.mem_of_getElem? (i := 17) rfl))) (mvT hZ (hw _ (List.mem_of_getElem? (i := 18) rfl))) (notFace_of_selects (args := #[]) (mvT hZ (hw _ (List.mem_of_getElem? (i := 20) rfl)))) (mvT hZ (hw _ (List.mem_of_getElem? (i := 20) rfl))) (mvT hZ (hw _ (List.mem_of_getElem? (i := 19) rfl))) (by decide) (backOf (W := 0) (rm3_2 l Z a0 hw [] b10 vdc d29 f29 kd29 kf29 (2 : Int32) vd0 vd2 p3 p5 T29.heap n0 (Nat.le_trans (Nat.le_trans (Nat.le_trans (Nat.le_trans Z0 E10.1) K11q.1) K25q.1) K29q.1) F29_s F29_d F29_f V29_d V29_f hdcN (by decide) (by decide) ⟨hnn_vd0, hlt_vd0⟩ ⟨hnn_vd2, hlt_vd2⟩) hZ (hw _ (List.mem_of_getElem? (i := 21) rfl)) (hw _ (List.mem_of_getElem? (i := 3) rfl)) (by decide) (by decide)) q30a q30c (g := (mkF m 172 #[.val (.int p1), .val (.int p2), .val (.int p3), .val (.int p4), .val (.int p5), .val (.int p6), .val (.int vdc), .val (.int vd0), .val (.int vd1), .val (.int vd2), .val (.int z1), .val (.int z4), .val (.int z7), .val (.int (1 : Int32)), .val (.ref b10), .unset] [(.int vdc), (.ref b10)])) rfl (by rw [hml]; rfl) (Steps.refl _) (argsL := [(.int vdc)]) (rest := []) (lenOf own_pd4 rfl) rfl (by show 2 * 0 + _ ≤ _; exact Nat.le_of_eq rfl) (hb hby at_172) (fun _ _ => ⟨rfl, rfl, (by decide : 5 + 1 ≤ _), (by decide : 17 + 8 ≤ _)⟩)
          dsimp only [Pt.U, Pt.locs, Pt.cells, Pt.slots] at X30 l30 y30 z30 st30 hQ30
          subst l30 y30 z30
          obtain ⟨r30, kr30, rfl, N30q, K30q, V30q⟩ := hQ30
          have N30 := Fr.app N29 N30q
          have c30_E_b10 := E29q.keep K30q
          have c30_F_b10_size := F29_s.keep K30q (List.not_mem_nil)
          have c30_F_b10_documents := F29_d.keep K30q (List.not_mem_nil)
          have c30_F_b10_frequencies := F29_f.keep K30q (List.not_mem_nil)
          have c30_F_b10_collectionFrequency := F29_c.keep K30q (List.not_mem_nil)
          have c30_V_d29 := V29_d.keep K30q (List.not_mem_nil)
          have c30_V_f29 := V29_f.keep K30q (List.not_mem_nil)
          refine own_go (B := T30.setTop (mkF m 175 #[.val (.int p1), .val (.int p2), .val (.int p3), .val (.int p4), .val (.int p5), .val (.int p6), .val (.int vdc), .val (.int vd0), .val (.int vd1), .val (.int vd2), .val (.int z1), .val (.int z4), .val (.int z7), .val (.int (1 : Int32)), .val (.ref b10), .unset] [(.ref r30)])) (fun t k => st30.trans k) ?_
          refine own_go (B := T30.setTop (mkF m 184 #[.val (.int p1), .val (.int p2), .val (.int p3), .val (.int p4), .val (.int p5), .val (.int p6), .val (.int vdc), .val (.int vd0), .val (.int vd1), .val (.int vd2), .val (.int z1), .val (.int z4), .val (.int z7), .val (.int (1 : Int32)), .val (.ref b10), .val (.ref r30)] [(.ref r30)])) (fun t k => ?_) ?_
          · show Steps p.tables e below (T30.setTop (mkF m 175 #[.val (.int p1), .val (.int p2), .val (.int p3), .val (.int p4), .val (.int p5), .val (.int p6), .val (.int vdc), .val (.int vd0), .val (.int vd1), .val (.int vd2), .val (.int z1), .val (.int z4), .val (.int z7), .val (.int (1 : Int32)), .val (.ref b10), .unset] [(.ref r30)])) _
            refine XS.astore X30.here hx rfl (hb hby at_175) rfl rfl (l' := #[.val (.int p1), .val (.int p2), .val (.int p3), .val (.int p4), .val (.int p5), .val (.int p6), .val (.int vdc), .val (.int vd0), .val (.int vd1), .val (.int vd2), .val (.int z1), .val (.int z4), .val (.int z7), .val (.int (1 : Int32)), .val (.ref b10), .val (.ref r30)]) rfl ?_
            show Steps p.tables e below (T30.setTop (mkF m 177 #[.val (.int p1), .val (.int p2), .val (.int p3), .val (.int p4), .val (.int p5), .val (.int p6), .val (.int vdc), .val (.int vd0), .val (.int vd1), .val (.int vd2), .val (.int z1), .val (.int z4), .val (.int z7), .val (.int (1 : Int32)), .val (.ref b10), .val (.ref r30)] [])) _
            refine XS.aload X30.here hx rfl (hb hby at_177) rfl rfl ?_
            show Steps p.tables e below (T30.setTop (mkF m 179 #[.val (.int p1), .val (.int p2), .val (.int p3), .val (.int p4), .val (.int p5), .val (.int p6), .val (.int vdc), .val (.int vd0), .val (.int vd1), .val (.int vd2), .val (.int z1), .val (.int z4), .val (.int z7), .val (.int (1 : Int32)), .val (.ref b10), .val (.ref r30)] [(.ref r30)])) _
            refine XS.ifnullNo X30.here hx rfl (hb hby at_179) rfl ?_
            show Steps p.tables e below (T30.setTop (mkF m 182 #[.val (.int p1), .val (.int p2), .val (.int p3), .val (.int p4), .val (.int p5), .val (.int p6), .val (.int vdc), .val (.int vd0), .val (.int vd1), .val (.int vd2), .val (.int z1), .val (.int z4), .val (.int z7), .val (.int (1 : Int32)), .val (.ref b10), .val (.ref r30)] [])) _
            refine XS.aload X30.here hx rfl (hb hby at_182) rfl rfl ?_
            exact k
          obtain ⟨cl_r, Ar_r, q_r, S_r, M_r, H_r, G_r⟩ := id V30q
          refine own_go (B := T30.setTop (mkF m 192 #[.val (.int p1), .val (.int p2), .val (.int p3), .val (.int p4), .val (.int p5), .val (.int p6), .val (.int vdc), .val (.int vd0), .val (.int vd1), .val (.int vd2), .val (.int z1), .val (.int z4), .val (.int z7), .val (.int (1 : Int32)), .val (.ref b10), .val (.ref r30)] [])) (fun t k => ?_) ?_
          · show Steps p.tables e below (T30.setTop (mkF m 184 #[.val (.int p1), .val (.int p2), .val (.int p3), .val (.int p4), .val (.int p5), .val (.int p6), .val (.int vdc), .val (.int vd0), .val (.int vd1), .val (.int vd2), .val (.int z1), .val (.int z4), .val (.int z7), .val (.int (1 : Int32)), .val (.ref b10), .val (.ref r30)] [(.ref r30)])) _
            refine X30.arraylength hx Ar_r.1 (State.isArrayOf_alike hZ.alike Ar_r.2.1) (g := (mkF m 184 #[.val (.int p1), .val (.int p2), .val (.int p3), .val (.int p4), .val (.int p5), .val (.int p6), .val (.int vdc), .val (.int vd0), .val (.int vd1), .val (.int vd2), .val (.int z1), .val (.int z4), .val (.int z7), .val (.int (1 : Int32)), .val (.ref b10), .val (.ref r30)] [(.ref r30)])) rfl rfl (hb hby at_184) _ ?_
            rw [len_of S_r M_r]
            show Steps p.tables e below (T30.setTop (mkF m 185 #[.val (.int p1), .val (.int p2), .val (.int p3), .val (.int p4), .val (.int p5), .val (.int p6), .val (.int vdc), .val (.int vd0), .val (.int vd1), .val (.int vd2), .val (.int z1), .val (.int z4), .val (.int z7), .val (.int (1 : Int32)), .val (.ref b10), .val (.ref r30)] [(.int vdc)])) _
            refine XS.iload X30.here hx rfl (hb hby at_185) rfl ?_
            show Steps p.tables e below (T30.setTop (mkF m 187 #[.val (.int p1), .val (.int p2), .val (.int p3), .val (.int p4), .val (.int p5), .val (.int p6), .val (.int vdc), .val (.int vd0), .val (.int vd1), .val (.int vd2), .val (.int z1), .val (.int z4), .val (.int z7), .val (.int (1 : Int32)), .val (.ref b10), .val (.ref r30)] [(.int vdc), (.int vdc)])) _
            refine XS.icmpYes X30.here hx rfl (pc0 := 187) (pc' := 192) rfl (hb hby at_187) rfl (teq rfl).1 (by decide) (by decide) ?_
            exact k
          have htl := own_tail p1 p2 p3 p4 p5 p6 vdc vd0 vd1 vd2 z1 z4 z7 (1 : Int32) b10 r30 kr30 [(vd2, p5), (vd0, p3)] X30 hx hZ hw hby hml hown Bd rfl N30 (Nat.le_trans (Nat.le_trans (Nat.le_trans (Nat.le_trans (Nat.le_trans Z0 E10.1) K11q.1) K25q.1) K29q.1) K30q.1) (by decide) (by decide) V30q (fun i => by simp only [own_gv, own_e, own_e1, if_neg hc130_12, if_pos hc143_26, if_neg hc156_27])
          exact htl
        · have hcap1 : (1 : Int32) < vcap := own_ltI (by have q := own_neI hN1; have q0 := own_toI hcap0; show (1 : Int) < _; have e1 : (1 : Int32).toInt = 1 := (by decide); have e2 : (0 : Int32).toInt = 0 := (by decide); omega)
          obtain ⟨cq31, kq31, q31a, q31b, q31c⟩ := isOf hZ rfl E25q
          obtain ⟨_, _, ⟨T31, L31, k31, n31⟩, -, X31, ⟨Lc31, hQ31, l31, y31, z31⟩, st31⟩ := X25.virtualBack hx (y := (⟨"com/example/libqlm/libqlm/Postings", "add", "(II)V"⟩ : MethodName)) (z := (⟨"com/example/libqlm/libqlm/Postings", "add", "(II)V"⟩ : MethodName)) hown (mvT hZ (hw _ (List.mem_of_getElem? (i := 28) rfl))) (mvT hZ (hw _ (List.mem_of_getElem? (i := 29) rfl))) (notFace_of_selects (args := #[]) (mvT hZ (hw _ (List.mem_of_getElem? (i := 31) rfl)))) (mvT hZ (hw _ (List.mem_of_getElem? (i := 31) rfl))) (mvT hZ (hw _ (List.mem_of_getElem? (i := 30) rfl))) (by decide) (backOf (W := 0) (rm5_1 l Z a0 hw [] b10 vd2 p5 d11 f11 kd11 kf11 vcap ((0 : Int64) + (p3.toInt64)) vd0 p3 T25.heap n0 (Nat.le_trans (Nat.le_trans (Nat.le_trans Z0 E10.1) K11q.1) K25q.1) E25q g_b10 g_d11 g_f11 F25_s F25_d F25_f F25_c V25_d V25_f ne_b10_d11 ne_b10_f11 ne11_df hcap1) hZ (hw _ (List.mem_of_getElem? (i := 32) rfl)) (hw _ (List.mem_of_getElem? (i := 3) rfl)) (by decide) (by decide)) q31a q31c (g := (mkF m 165 #[.val (.int p1), .val (.int p2), .val (.int p3), .val (.int p4), .val (.int p5), .val (.int p6), .val (.int vdc), .val (.int vd0), .val (.int vd1), .val (.int vd2), .val (.int z1), .val (.int z4), .val (.int z7), .val (.int vcap), .val (.ref b10), .unset] [(.int p5), (.int vd2), (.ref b10)])) rfl (by rw [hml]; rfl) (Steps.refl _) (argsL := [(.int vd2), (.int p5)]) (rest := []) (lenOf own_pd3 rfl) rfl (by show 2 * 0 + _ ≤ _; exact Nat.le_of_eq rfl) (hb hby at_165) (fun _ _ => ⟨rfl, rfl, (by decide : 3 + 0 ≤ _), (by decide : 13 + 0 ≤ _)⟩)
          dsimp only [Pt.U, Pt.locs, Pt.cells, Pt.slots] at X31 l31 y31 z31 st31 hQ31
          subst l31 y31 z31
          obtain ⟨rfl, N31q, K31q, E31q, F31_s, F31_d, F31_f, F31_c, V31_d, V31_f⟩ := hQ31
          have N31 := Fr.app N25 N31q
          refine own_go (B := T31.setTop (mkF m 168 #[.val (.int p1), .val (.int p2), .val (.int p3), .val (.int p4), .val (.int p5), .val (.int p6), .val (.int vdc), .val (.int vd0), .val (.int vd1), .val (.int vd2), .val (.int z1), .val (.int z4), .val (.int z7), .val (.int vcap), .val (.ref b10), .unset] [])) (fun t k => st31.trans k) ?_
          refine own_go (B := T31.setTop (mkF m 172 #[.val (.int p1), .val (.int p2), .val (.int p3), .val (.int p4), .val (.int p5), .val (.int p6), .val (.int vdc), .val (.int vd0), .val (.int vd1), .val (.int vd2), .val (.int z1), .val (.int z4), .val (.int z7), .val (.int vcap), .val (.ref b10), .unset] [(.int vdc), (.ref b10)])) (fun t k => ?_) ?_
          · show Steps p.tables e below (T31.setTop (mkF m 168 #[.val (.int p1), .val (.int p2), .val (.int p3), .val (.int p4), .val (.int p5), .val (.int p6), .val (.int vdc), .val (.int vd0), .val (.int vd1), .val (.int vd2), .val (.int z1), .val (.int z4), .val (.int z7), .val (.int vcap), .val (.ref b10), .unset] [])) _
            refine XS.aload X31.here hx rfl (hb hby at_168) rfl rfl ?_
            show Steps p.tables e below (T31.setTop (mkF m 170 #[.val (.int p1), .val (.int p2), .val (.int p3), .val (.int p4), .val (.int p5), .val (.int p6), .val (.int vdc), .val (.int vd0), .val (.int vd1), .val (.int vd2), .val (.int z1), .val (.int z4), .val (.int z7), .val (.int vcap), .val (.ref b10), .unset] [(.ref b10)])) _
            refine XS.iload X31.here hx rfl (hb hby at_170) rfl ?_
            exact k
          obtain ⟨cq32, kq32, q32a, q32b, q32c⟩ := isOf hZ rfl E31q
          obtain ⟨_, _, ⟨T32, L32, k32, n32⟩, -, X32, ⟨Lc32, hQ32, l32, y32, z32⟩, st32⟩ := X31.virtualBack hx (y := (⟨"com/example/libqlm/libqlm/Postings", "frequenciesByDocument", "(I)[I"⟩ : MethodName)) (z := (⟨"com/example/libqlm/libqlm/Postings", "frequenciesByDocument", "(I)[I"⟩ : MethodName)) hown (mvT hZ (hw _ (List.mem_of_getElem? (i := 17) rfl))) (mvT hZ (hw _ (List.mem_of_getElem? (i := 18) rfl))) (notFace_of_selects (args := #[]) (mvT hZ (hw _ (List.mem_of_getElem? (i := 20) rfl)))) (mvT hZ (hw _ (List.mem_of_getElem? (i := 20) rfl))) (mvT hZ (hw _ (List.mem_of_getElem? (i := 19) rfl))) (by decide) (backOf (W := 0) (rm3_2 l Z a0 hw [] b10 vdc d11 f11 kd11 kf11 vcap vd0 vd2 p3 p5 T31.heap n0 (Nat.le_trans (Nat.le_trans (Nat.le_trans (Nat.le_trans Z0 E10.1) K11q.1) K25q.1) K31q.1) F31_s F31_d F31_f V31_d V31_f hdcN hcap0 hcap1 ⟨hnn_vd0, hlt_vd0⟩ ⟨hnn_vd2, hlt_vd2⟩) hZ (hw _ (List.mem_of_getElem? (i := 21) rfl)) (hw _ (List.mem_of_getElem? (i := 3) rfl)) (by decide) (by decide)) q32a q32c (g := (mkF m 172 #[.val (.int p1), .val (.int p2), .val (.int p3), .val (.int p4), .val (.int p5), .val (.int p6), .val (.int vdc), .val (.int vd0), .val (.int vd1), .val (.int vd2), .val (.int z1), .val (.int z4), .val (.int z7), .val (.int vcap), .val (.ref b10), .unset] [(.int vdc), (.ref b10)])) rfl (by rw [hml]; rfl) (Steps.refl _) (argsL := [(.int vdc)]) (rest := []) (lenOf own_pd4 rfl) rfl (by show 2 * 0 + _ ≤ _; exact Nat.le_of_eq rfl) (hb hby at_172) (fun _ _ => ⟨rfl, rfl, (by decide : 3 + 1 ≤ _), (by decide : 13 + 8 ≤ _)⟩)
          dsimp only [Pt.U, Pt.locs, Pt.cells, Pt.slots] at X32 l32 y32 z32 st32 hQ32
          subst l32 y32 z32
          obtain ⟨r32, kr32, rfl, N32q, K32q, V32q⟩ := hQ32
          have N32 := Fr.app N31 N32q
          have c32_E_b10 := E31q.keep K32q
          have c32_F_b10_size := F31_s.keep K32q (List.not_mem_nil)
          have c32_F_b10_documents := F31_d.keep K32q (List.not_mem_nil)
          have c32_F_b10_frequencies := F31_f.keep K32q (List.not_mem_nil)
          have c32_F_b10_collectionFrequency := F31_c.keep K32q (List.not_mem_nil)
          have c32_V_d11 := V31_d.keep K32q (List.not_mem_nil)
          have c32_V_f11 := V31_f.keep K32q (List.not_mem_nil)
          refine own_go (B := T32.setTop (mkF m 175 #[.val (.int p1), .val (.int p2), .val (.int p3), .val (.int p4), .val (.int p5), .val (.int p6), .val (.int vdc), .val (.int vd0), .val (.int vd1), .val (.int vd2), .val (.int z1), .val (.int z4), .val (.int z7), .val (.int vcap), .val (.ref b10), .unset] [(.ref r32)])) (fun t k => st32.trans k) ?_
          refine own_go (B := T32.setTop (mkF m 184 #[.val (.int p1), .val (.int p2), .val (.int p3), .val (.int p4), .val (.int p5), .val (.int p6), .val (.int vdc), .val (.int vd0), .val (.int vd1), .val (.int vd2), .val (.int z1), .val (.int z4), .val (.int z7), .val (.int vcap), .val (.ref b10), .val (.ref r32)] [(.ref r32)])) (fun t k => ?_) ?_
          · show Steps p.tables e below (T32.setTop (mkF m 175 #[.val (.int p1), .val (.int p2), .val (.int p3), .val (.int p4), .val (.int p5), .val (.int p6), .val (.int vdc), .val (.int vd0), .val (.int vd1), .val (.int vd2), .val (.int z1), .val (.int z4), .val (.int z7), .val (.int vcap), .val (.ref b10), .unset] [(.ref r32)])) _
            refine XS.astore X32.here hx rfl (hb hby at_175) rfl rfl (l' := #[.val (.int p1), .val (.int p2), .val (.int p3), .val (.int p4), .val (.int p5), .val (.int p6), .val (.int vdc), .val (.int vd0), .val (.int vd1), .val (.int vd2), .val (.int z1), .val (.int z4), .val (.int z7), .val (.int vcap), .val (.ref b10), .val (.ref r32)]) rfl ?_
            show Steps p.tables e below (T32.setTop (mkF m 177 #[.val (.int p1), .val (.int p2), .val (.int p3), .val (.int p4), .val (.int p5), .val (.int p6), .val (.int vdc), .val (.int vd0), .val (.int vd1), .val (.int vd2), .val (.int z1), .val (.int z4), .val (.int z7), .val (.int vcap), .val (.ref b10), .val (.ref r32)] [])) _
            refine XS.aload X32.here hx rfl (hb hby at_177) rfl rfl ?_
            show Steps p.tables e below (T32.setTop (mkF m 179 #[.val (.int p1), .val (.int p2), .val (.int p3), .val (.int p4), .val (.int p5), .val (.int p6), .val (.int vdc), .val (.int vd0), .val (.int vd1), .val (.int vd2), .val (.int z1), .val (.int z4), .val (.int z7), .val (.int vcap), .val (.ref b10), .val (.ref r32)] [(.ref r32)])) _
            refine XS.ifnullNo X32.here hx rfl (hb hby at_179) rfl ?_
            show Steps p.tables e below (T32.setTop (mkF m 182 #[.val (.int p1), .val (.int p2), .val (.int p3), .val (.int p4), .val (.int p5), .val (.int p6), .val (.int vdc), .val (.int vd0), .val (.int vd1), .val (.int vd2), .val (.int z1), .val (.int z4), .val (.int z7), .val (.int vcap), .val (.ref b10), .val (.ref r32)] [])) _
            refine XS.aload X32.here hx rfl (hb hby at_182) rfl rfl ?_
            exact k
          obtain ⟨cl_r, Ar_r, q_r, S_r, M_r, H_r, G_r⟩ := id V32q
          refine own_go (B := T32.setTop (mkF m 192 #[.val (.int p1), .val (.int p2), .val (.int p3), .val (.int p4), .val (.int p5), .val (.int p6), .val (.int vdc), .val (.int vd0), .val (.int vd1), .val (.int vd2), .val (.int z1), .val (.int z4), .val (.int z7), .val (.int vcap), .val (.ref b10), .val (.ref r32)] [])) (fun t k => ?_) ?_
          · show Steps p.tables e below (T32.setTop (mkF m 184 #[.val (.int p1), .val (.int p2), .val (.int p3), .val (.int p4), .val (.int p5), .val (.int p6), .val (.int vdc), .val (.int vd0), .val (.int vd1), .val (.int vd2), .val (.int z1), .val (.int z4), .val (.int z7), .val (.int vcap), .val (.ref b10), .val (.ref r32)] [(.ref r32)])) _
            refine X32.arraylength hx Ar_r.1 (State.isArrayOf_alike hZ.alike Ar_r.2.1) (g := (mkF m 184 #[.val (.int p1), .val (.int p2), .val (.int p3), .val (.int p4), .val (.int p5), .val (.int p6), .val (.int vdc), .val (.int vd0), .val (.int vd1), .val (.int vd2), .val (.int z1), .val (.int z4), .val (.int z7), .val (.int vcap), .val (.ref b10), .val (.ref r32)] [(.ref r32)])) rfl rfl (hb hby at_184) _ ?_
            rw [len_of S_r M_r]
            show Steps p.tables e below (T32.setTop (mkF m 185 #[.val (.int p1), .val (.int p2), .val (.int p3), .val (.int p4), .val (.int p5), .val (.int p6), .val (.int vdc), .val (.int vd0), .val (.int vd1), .val (.int vd2), .val (.int z1), .val (.int z4), .val (.int z7), .val (.int vcap), .val (.ref b10), .val (.ref r32)] [(.int vdc)])) _
            refine XS.iload X32.here hx rfl (hb hby at_185) rfl ?_
            show Steps p.tables e below (T32.setTop (mkF m 187 #[.val (.int p1), .val (.int p2), .val (.int p3), .val (.int p4), .val (.int p5), .val (.int p6), .val (.int vdc), .val (.int vd0), .val (.int vd1), .val (.int vd2), .val (.int z1), .val (.int z4), .val (.int z7), .val (.int vcap), .val (.ref b10), .val (.ref r32)] [(.int vdc), (.int vdc)])) _
            refine XS.icmpYes X32.here hx rfl (pc0 := 187) (pc' := 192) rfl (hb hby at_187) rfl (teq rfl).1 (by decide) (by decide) ?_
            exact k
          have htl := own_tail p1 p2 p3 p4 p5 p6 vdc vd0 vd1 vd2 z1 z4 z7 vcap b10 r32 kr32 [(vd2, p5), (vd0, p3)] X32 hx hZ hw hby hml hown Bd rfl N32 (Nat.le_trans (Nat.le_trans (Nat.le_trans (Nat.le_trans (Nat.le_trans Z0 E10.1) K11q.1) K25q.1) K31q.1) K32q.1) (by decide) (by decide) V32q (fun i => by simp only [own_gv, own_e, own_e1, if_neg hc130_12, if_pos hc143_26, if_neg hc156_27])
          exact htl
    · refine own_go (B := T25.setTop (mkF m 146 #[.val (.int p1), .val (.int p2), .val (.int p3), .val (.int p4), .val (.int p5), .val (.int p6), .val (.int vdc), .val (.int vd0), .val (.int vd1), .val (.int vd2), .val (.int z1), .val (.int z4), .val (.int z7), .val (.int vcap), .val (.ref b10), .unset] [])) (fun t k => ?_) ?_
      · show Steps p.tables e below (T25.setTop (mkF m 143 #[.val (.int p1), .val (.int p2), .val (.int p3), .val (.int p4), .val (.int p5), .val (.int p6), .val (.int vdc), .val (.int vd0), .val (.int vd1), .val (.int vd2), .val (.int z1), .val (.int z4), .val (.int z7), .val (.int vcap), .val (.ref b10), .unset] [(.int z4)])) _
        refine XS.ifNo X25.here hx rfl (hb hby at_143) rfl ((if0 _ _).trans (feq hc143_26).1) ?_
        exact k
      have hlt_vd1 : vd1 < vdc := own_in hz4 hc143_26
      refine own_go (B := T25.setTop (mkF m 151 #[.val (.int p1), .val (.int p2), .val (.int p3), .val (.int p4), .val (.int p5), .val (.int p6), .val (.int vdc), .val (.int vd0), .val (.int vd1), .val (.int vd2), .val (.int z1), .val (.int z4), .val (.int z7), .val (.int vcap), .val (.ref b10), .unset] [(.int p4), (.int vd1), (.ref b10)])) (fun t k => ?_) ?_
      · show Steps p.tables e below (T25.setTop (mkF m 146 #[.val (.int p1), .val (.int p2), .val (.int p3), .val (.int p4), .val (.int p5), .val (.int p6), .val (.int vdc), .val (.int vd0), .val (.int vd1), .val (.int vd2), .val (.int z1), .val (.int z4), .val (.int z7), .val (.int vcap), .val (.ref b10), .unset] [])) _
        refine XS.aload X25.here hx rfl (hb hby at_146) rfl rfl ?_
        show Steps p.tables e below (T25.setTop (mkF m 148 #[.val (.int p1), .val (.int p2), .val (.int p3), .val (.int p4), .val (.int p5), .val (.int p6), .val (.int vdc), .val (.int vd0), .val (.int vd1), .val (.int vd2), .val (.int z1), .val (.int z4), .val (.int z7), .val (.int vcap), .val (.ref b10), .unset] [(.ref b10)])) _
        refine XS.iload X25.here hx rfl (hb hby at_148) rfl ?_
        show Steps p.tables e below (T25.setTop (mkF m 150 #[.val (.int p1), .val (.int p2), .val (.int p3), .val (.int p4), .val (.int p5), .val (.int p6), .val (.int vdc), .val (.int vd0), .val (.int vd1), .val (.int vd2), .val (.int z1), .val (.int z4), .val (.int z7), .val (.int vcap), .val (.ref b10), .unset] [(.int vd1), (.ref b10)])) _
        refine XS.iloadN X25.here hx rfl (hb hby at_150) rfl ?_
        exact k
      by_cases hN1 : vcap = (1 : Int32)
      · subst hN1
        obtain ⟨cq33, kq33, q33a, q33b, q33c⟩ := isOf hZ rfl E25q
        obtain ⟨_, _, ⟨T33, L33, k33, n33⟩, -, X33, ⟨Lc33, hQ33, l33, y33, z33⟩, st33⟩ := X25.virtualBack hx (y := (⟨"com/example/libqlm/libqlm/Postings", "add", "(II)V"⟩ : MethodName)) (z := (⟨"com/example/libqlm/libqlm/Postings", "add", "(II)V"⟩ : MethodName)) hown (mvT hZ (hw _ (List.mem_of_getElem? (i := 28) rfl))) (mvT hZ (hw _ (List.mem_of_getElem? (i := 29) rfl))) (notFace_of_selects (args := #[]) (mvT hZ (hw _ (List.mem_of_getElem? (i := 31) rfl)))) (mvT hZ (hw _ (List.mem_of_getElem? (i := 31) rfl))) (mvT hZ (hw _ (List.mem_of_getElem? (i := 30) rfl))) (by decide) (backOf (W := 0) (rm5_1g l Z a0 hw [] b10 vd1 p4 d11 f11 kd11 kf11 ((0 : Int64) + (p3.toInt64)) vd0 p3 T25.heap n0 (Nat.le_trans (Nat.le_trans (Nat.le_trans Z0 E10.1) K11q.1) K25q.1) E25q g_b10 g_d11 g_f11 F25_s F25_d F25_f F25_c V25_d V25_f ne_b10_d11 ne_b10_f11 ne11_df) hZ (hw _ (List.mem_of_getElem? (i := 32) rfl)) (hw _ (List.mem_of_getElem? (i := 3) rfl)) (by decide) (by decide)) q33a q33c (g := (mkF m 151 #[.val (.int p1), .val (.int p2), .val (.int p3), .val (.int p4), .val (.int p5), .val (.int p6), .val (.int vdc), .val (.int vd0), .val (.int vd1), .val (.int vd2), .val (.int z1), .val (.int z4), .val (.int z7), .val (.int (1 : Int32)), .val (.ref b10), .unset] [(.int p4), (.int vd1), (.ref b10)])) rfl (by rw [hml]; rfl) (Steps.refl _) (argsL := [(.int vd1), (.int p4)]) (rest := []) (lenOf own_pd3 rfl) rfl (by show 2 * 0 + _ ≤ _; exact Nat.le_of_eq rfl) (hb hby at_151) (fun _ _ => ⟨rfl, rfl, (by decide : 3 + 2 ≤ _), (by decide : 13 + 4 ≤ _)⟩)
        dsimp only [Pt.U, Pt.locs, Pt.cells, Pt.slots] at X33 l33 y33 z33 st33 hQ33
        subst l33 y33 z33
        obtain ⟨rfl, N33q, d33, f33, kd33, kf33, K33q, E33q, F33_s, F33_d, F33_f, F33_c, V33_d, V33_f, q33_d33, q33_f33, g_d33, g_f33, ne33_df⟩ := hQ33
        have N33 := Fr.app N25 N33q
        have ne_b10_d33 : b10 ≠ d33 := Nat.ne_of_lt (Nat.lt_of_lt_of_le E25q.lt q33_d33)
        have ne_b10_f33 : b10 ≠ f33 := Nat.ne_of_lt (Nat.lt_of_lt_of_le E25q.lt q33_f33)
        refine own_go (B := T33.setTop (mkF m 154 #[.val (.int p1), .val (.int p2), .val (.int p3), .val (.int p4), .val (.int p5), .val (.int p6), .val (.int vdc), .val (.int vd0), .val (.int vd1), .val (.int vd2), .val (.int z1), .val (.int z4), .val (.int z7), .val (.int (1 : Int32)), .val (.ref b10), .unset] [])) (fun t k => st33.trans k) ?_
        refine own_go (B := T33.setTop (mkF m 156 #[.val (.int p1), .val (.int p2), .val (.int p3), .val (.int p4), .val (.int p5), .val (.int p6), .val (.int vdc), .val (.int vd0), .val (.int vd1), .val (.int vd2), .val (.int z1), .val (.int z4), .val (.int z7), .val (.int (1 : Int32)), .val (.ref b10), .unset] [(.int z7)])) (fun t k => ?_) ?_
        · show Steps p.tables e below (T33.setTop (mkF m 154 #[.val (.int p1), .val (.int p2), .val (.int p3), .val (.int p4), .val (.int p5), .val (.int p6), .val (.int vdc), .val (.int vd0), .val (.int vd1), .val (.int vd2), .val (.int z1), .val (.int z4), .val (.int z7), .val (.int (1 : Int32)), .val (.ref b10), .unset] [])) _
          refine XS.iload X33.here hx rfl (hb hby at_154) rfl ?_
          exact k
        by_cases hc156_34 : z7 = (0 : Int32)
        · refine own_go (B := T33.setTop (mkF m 172 #[.val (.int p1), .val (.int p2), .val (.int p3), .val (.int p4), .val (.int p5), .val (.int p6), .val (.int vdc), .val (.int vd0), .val (.int vd1), .val (.int vd2), .val (.int z1), .val (.int z4), .val (.int z7), .val (.int (1 : Int32)), .val (.ref b10), .unset] [(.int vdc), (.ref b10)])) (fun t k => ?_) ?_
          · show Steps p.tables e below (T33.setTop (mkF m 156 #[.val (.int p1), .val (.int p2), .val (.int p3), .val (.int p4), .val (.int p5), .val (.int p6), .val (.int vdc), .val (.int vd0), .val (.int vd1), .val (.int vd2), .val (.int z1), .val (.int z4), .val (.int z7), .val (.int (1 : Int32)), .val (.ref b10), .unset] [(.int z7)])) _
            refine XS.ifYes X33.here hx rfl (pc0 := 156) (pc' := 168) rfl (hb hby at_156) rfl ((if0 _ _).trans (teq hc156_34).1) (by decide) (by decide) ?_
            show Steps p.tables e below (T33.setTop (mkF m 168 #[.val (.int p1), .val (.int p2), .val (.int p3), .val (.int p4), .val (.int p5), .val (.int p6), .val (.int vdc), .val (.int vd0), .val (.int vd1), .val (.int vd2), .val (.int z1), .val (.int z4), .val (.int z7), .val (.int (1 : Int32)), .val (.ref b10), .unset] [])) _
            refine XS.aload X33.here hx rfl (hb hby at_168) rfl rfl ?_
            show Steps p.tables e below (T33.setTop (mkF m 170 #[.val (.int p1), .val (.int p2), .val (.int p3), .val (.int p4), .val (.int p5), .val (.int p6), .val (.int vdc), .val (.int vd0), .val (.int vd1), .val (.int vd2), .val (.int z1), .val (.int z4), .val (.int z7), .val (.int (1 : Int32)), .val (.ref b10), .unset] [(.ref b10)])) _
            refine XS.iload X33.here hx rfl (hb hby at_170) rfl ?_
            exact k
          obtain ⟨cq35, kq35, q35a, q35b, q35c⟩ := isOf hZ rfl E33q
          obtain ⟨_, _, ⟨T35, L35, k35, n35⟩, -, X35, ⟨Lc35, hQ35, l35, y35, z35⟩, st35⟩ := X33.virtualBack hx (y := (⟨"com/example/libqlm/libqlm/Postings", "frequenciesByDocument", "(I)[I"⟩ : MethodName)) (z := (⟨"com/example/libqlm/libqlm/Postings", "frequenciesByDocument", "(I)[I"⟩ : MethodName)) hown (mvT hZ (hw _ (List.mem_of_getElem? (i := 17) rfl))) (mvT hZ (hw _ (List.mem_of_getElem? (i := 18) rfl))) (notFace_of_selects (args := #[]) (mvT hZ (hw _ (List.mem_of_getElem? (i := 20) rfl)))) (mvT hZ (hw _ (List.mem_of_getElem? (i := 20) rfl))) (mvT hZ (hw _ (List.mem_of_getElem? (i := 19) rfl))) (by decide) (backOf (W := 0) (rm3_2 l Z a0 hw [] b10 vdc d33 f33 kd33 kf33 (2 : Int32) vd0 vd1 p3 p4 T33.heap n0 (Nat.le_trans (Nat.le_trans (Nat.le_trans (Nat.le_trans Z0 E10.1) K11q.1) K25q.1) K33q.1) F33_s F33_d F33_f V33_d V33_f hdcN (by decide) (by decide) ⟨hnn_vd0, hlt_vd0⟩ ⟨hnn_vd1, hlt_vd1⟩) hZ (hw _ (List.mem_of_getElem? (i := 21) rfl)) (hw _ (List.mem_of_getElem? (i := 3) rfl)) (by decide) (by decide)) q35a q35c (g := (mkF m 172 #[.val (.int p1), .val (.int p2), .val (.int p3), .val (.int p4), .val (.int p5), .val (.int p6), .val (.int vdc), .val (.int vd0), .val (.int vd1), .val (.int vd2), .val (.int z1), .val (.int z4), .val (.int z7), .val (.int (1 : Int32)), .val (.ref b10), .unset] [(.int vdc), (.ref b10)])) rfl (by rw [hml]; rfl) (Steps.refl _) (argsL := [(.int vdc)]) (rest := []) (lenOf own_pd4 rfl) rfl (by show 2 * 0 + _ ≤ _; exact Nat.le_of_eq rfl) (hb hby at_172) (fun _ _ => ⟨rfl, rfl, (by decide : 5 + 1 ≤ _), (by decide : 17 + 8 ≤ _)⟩)
          dsimp only [Pt.U, Pt.locs, Pt.cells, Pt.slots] at X35 l35 y35 z35 st35 hQ35
          subst l35 y35 z35
          obtain ⟨r35, kr35, rfl, N35q, K35q, V35q⟩ := hQ35
          have N35 := Fr.app N33 N35q
          have c35_E_b10 := E33q.keep K35q
          have c35_F_b10_size := F33_s.keep K35q (List.not_mem_nil)
          have c35_F_b10_documents := F33_d.keep K35q (List.not_mem_nil)
          have c35_F_b10_frequencies := F33_f.keep K35q (List.not_mem_nil)
          have c35_F_b10_collectionFrequency := F33_c.keep K35q (List.not_mem_nil)
          have c35_V_d33 := V33_d.keep K35q (List.not_mem_nil)
          have c35_V_f33 := V33_f.keep K35q (List.not_mem_nil)
          refine own_go (B := T35.setTop (mkF m 175 #[.val (.int p1), .val (.int p2), .val (.int p3), .val (.int p4), .val (.int p5), .val (.int p6), .val (.int vdc), .val (.int vd0), .val (.int vd1), .val (.int vd2), .val (.int z1), .val (.int z4), .val (.int z7), .val (.int (1 : Int32)), .val (.ref b10), .unset] [(.ref r35)])) (fun t k => st35.trans k) ?_
          refine own_go (B := T35.setTop (mkF m 184 #[.val (.int p1), .val (.int p2), .val (.int p3), .val (.int p4), .val (.int p5), .val (.int p6), .val (.int vdc), .val (.int vd0), .val (.int vd1), .val (.int vd2), .val (.int z1), .val (.int z4), .val (.int z7), .val (.int (1 : Int32)), .val (.ref b10), .val (.ref r35)] [(.ref r35)])) (fun t k => ?_) ?_
          · show Steps p.tables e below (T35.setTop (mkF m 175 #[.val (.int p1), .val (.int p2), .val (.int p3), .val (.int p4), .val (.int p5), .val (.int p6), .val (.int vdc), .val (.int vd0), .val (.int vd1), .val (.int vd2), .val (.int z1), .val (.int z4), .val (.int z7), .val (.int (1 : Int32)), .val (.ref b10), .unset] [(.ref r35)])) _
            refine XS.astore X35.here hx rfl (hb hby at_175) rfl rfl (l' := #[.val (.int p1), .val (.int p2), .val (.int p3), .val (.int p4), .val (.int p5), .val (.int p6), .val (.int vdc), .val (.int vd0), .val (.int vd1), .val (.int vd2), .val (.int z1), .val (.int z4), .val (.int z7), .val (.int (1 : Int32)), .val (.ref b10), .val (.ref r35)]) rfl ?_
            show Steps p.tables e below (T35.setTop (mkF m 177 #[.val (.int p1), .val (.int p2), .val (.int p3), .val (.int p4), .val (.int p5), .val (.int p6), .val (.int vdc), .val (.int vd0), .val (.int vd1), .val (.int vd2), .val (.int z1), .val (.int z4), .val (.int z7), .val (.int (1 : Int32)), .val (.ref b10), .val (.ref r35)] [])) _
            refine XS.aload X35.here hx rfl (hb hby at_177) rfl rfl ?_
            show Steps p.tables e below (T35.setTop (mkF m 179 #[.val (.int p1), .val (.int p2), .val (.int p3), .val (.int p4), .val (.int p5), .val (.int p6), .val (.int vdc), .val (.int vd0), .val (.int vd1), .val (.int vd2), .val (.int z1), .val (.int z4), .val (.int z7), .val (.int (1 : Int32)), .val (.ref b10), .val (.ref r35)] [(.ref r35)])) _
            refine XS.ifnullNo X35.here hx rfl (hb hby at_179) rfl ?_
            show Steps p.tables e below (T35.setTop (mkF m 182 #[.val (.int p1), .val (.int p2), .val (.int p3), .val (.int p4), .val (.int p5), .val (.int p6), .val (.int vdc), .val (.int vd0), .val (.int vd1), .val (.int vd2), .val (.int z1), .val (.int z4), .val (.int z7), .val (.int (1 : Int32)), .val (.ref b10), .val (.ref r35)] [])) _
            refine XS.aload X35.here hx rfl (hb hby at_182) rfl rfl ?_
            exact k
          obtain ⟨cl_r, Ar_r, q_r, S_r, M_r, H_r, G_r⟩ := id V35q
          refine own_go (B := T35.setTop (mkF m 192 #[.val (.int p1), .val (.int p2), .val (.int p3), .val (.int p4), .val (.int p5), .val (.int p6), .val (.int vdc), .val (.int vd0), .val (.int vd1), .val (.int vd2), .val (.int z1), .val (.int z4), .val (.int z7), .val (.int (1 : Int32)), .val (.ref b10), .val (.ref r35)] [])) (fun t k => ?_) ?_
          · show Steps p.tables e below (T35.setTop (mkF m 184 #[.val (.int p1), .val (.int p2), .val (.int p3), .val (.int p4), .val (.int p5), .val (.int p6), .val (.int vdc), .val (.int vd0), .val (.int vd1), .val (.int vd2), .val (.int z1), .val (.int z4), .val (.int z7), .val (.int (1 : Int32)), .val (.ref b10), .val (.ref r35)] [(.ref r35)])) _
            refine X35.arraylength hx Ar_r.1 (State.isArrayOf_alike hZ.alike Ar_r.2.1) (g := (mkF m 184 #[.val (.int p1), .val (.int p2), .val (.int p3), .val (.int p4), .val (.int p5), .val (.int p6), .val (.int vdc), .val (.int vd0), .val (.int vd1), .val (.int vd2), .val (.int z1), .val (.int z4), .val (.int z7), .val (.int (1 : Int32)), .val (.ref b10), .val (.ref r35)] [(.ref r35)])) rfl rfl (hb hby at_184) _ ?_
            rw [len_of S_r M_r]
            show Steps p.tables e below (T35.setTop (mkF m 185 #[.val (.int p1), .val (.int p2), .val (.int p3), .val (.int p4), .val (.int p5), .val (.int p6), .val (.int vdc), .val (.int vd0), .val (.int vd1), .val (.int vd2), .val (.int z1), .val (.int z4), .val (.int z7), .val (.int (1 : Int32)), .val (.ref b10), .val (.ref r35)] [(.int vdc)])) _
            refine XS.iload X35.here hx rfl (hb hby at_185) rfl ?_
            show Steps p.tables e below (T35.setTop (mkF m 187 #[.val (.int p1), .val (.int p2), .val (.int p3), .val (.int p4), .val (.int p5), .val (.int p6), .val (.int vdc), .val (.int vd0), .val (.int vd1), .val (.int vd2), .val (.int z1), .val (.int z4), .val (.int z7), .val (.int (1 : Int32)), .val (.ref b10), .val (.ref r35)] [(.int vdc), (.int vdc)])) _
            refine XS.icmpYes X35.here hx rfl (pc0 := 187) (pc' := 192) rfl (hb hby at_187) rfl (teq rfl).1 (by decide) (by decide) ?_
            exact k
          have htl := own_tail p1 p2 p3 p4 p5 p6 vdc vd0 vd1 vd2 z1 z4 z7 (1 : Int32) b10 r35 kr35 [(vd1, p4), (vd0, p3)] X35 hx hZ hw hby hml hown Bd rfl N35 (Nat.le_trans (Nat.le_trans (Nat.le_trans (Nat.le_trans (Nat.le_trans Z0 E10.1) K11q.1) K25q.1) K33q.1) K35q.1) (by decide) (by decide) V35q (fun i => by simp only [own_gv, own_e, own_e1, if_neg hc130_12, if_neg hc143_26, if_pos hc156_34])
          exact htl
        · refine own_go (B := T33.setTop (mkF m 159 #[.val (.int p1), .val (.int p2), .val (.int p3), .val (.int p4), .val (.int p5), .val (.int p6), .val (.int vdc), .val (.int vd0), .val (.int vd1), .val (.int vd2), .val (.int z1), .val (.int z4), .val (.int z7), .val (.int (1 : Int32)), .val (.ref b10), .unset] [])) (fun t k => ?_) ?_
          · show Steps p.tables e below (T33.setTop (mkF m 156 #[.val (.int p1), .val (.int p2), .val (.int p3), .val (.int p4), .val (.int p5), .val (.int p6), .val (.int vdc), .val (.int vd0), .val (.int vd1), .val (.int vd2), .val (.int z1), .val (.int z4), .val (.int z7), .val (.int (1 : Int32)), .val (.ref b10), .unset] [(.int z7)])) _
            refine XS.ifNo X33.here hx rfl (hb hby at_156) rfl ((if0 _ _).trans (feq hc156_34).1) ?_
            exact k
          have hlt_vd2 : vd2 < vdc := own_in hz7 hc156_34
          refine own_go (B := T33.setTop (mkF m 165 #[.val (.int p1), .val (.int p2), .val (.int p3), .val (.int p4), .val (.int p5), .val (.int p6), .val (.int vdc), .val (.int vd0), .val (.int vd1), .val (.int vd2), .val (.int z1), .val (.int z4), .val (.int z7), .val (.int (1 : Int32)), .val (.ref b10), .unset] [(.int p5), (.int vd2), (.ref b10)])) (fun t k => ?_) ?_
          · show Steps p.tables e below (T33.setTop (mkF m 159 #[.val (.int p1), .val (.int p2), .val (.int p3), .val (.int p4), .val (.int p5), .val (.int p6), .val (.int vdc), .val (.int vd0), .val (.int vd1), .val (.int vd2), .val (.int z1), .val (.int z4), .val (.int z7), .val (.int (1 : Int32)), .val (.ref b10), .unset] [])) _
            refine XS.aload X33.here hx rfl (hb hby at_159) rfl rfl ?_
            show Steps p.tables e below (T33.setTop (mkF m 161 #[.val (.int p1), .val (.int p2), .val (.int p3), .val (.int p4), .val (.int p5), .val (.int p6), .val (.int vdc), .val (.int vd0), .val (.int vd1), .val (.int vd2), .val (.int z1), .val (.int z4), .val (.int z7), .val (.int (1 : Int32)), .val (.ref b10), .unset] [(.ref b10)])) _
            refine XS.iload X33.here hx rfl (hb hby at_161) rfl ?_
            show Steps p.tables e below (T33.setTop (mkF m 163 #[.val (.int p1), .val (.int p2), .val (.int p3), .val (.int p4), .val (.int p5), .val (.int p6), .val (.int vdc), .val (.int vd0), .val (.int vd1), .val (.int vd2), .val (.int z1), .val (.int z4), .val (.int z7), .val (.int (1 : Int32)), .val (.ref b10), .unset] [(.int vd2), (.ref b10)])) _
            refine XS.iload X33.here hx rfl (hb hby at_163) rfl ?_
            exact k
          obtain ⟨cq36, kq36, q36a, q36b, q36c⟩ := isOf hZ rfl E33q
          obtain ⟨_, _, ⟨T36, L36, k36, n36⟩, -, X36, ⟨Lc36, hQ36, l36, y36, z36⟩, st36⟩ := X33.virtualBack hx (y := (⟨"com/example/libqlm/libqlm/Postings", "add", "(II)V"⟩ : MethodName)) (z := (⟨"com/example/libqlm/libqlm/Postings", "add", "(II)V"⟩ : MethodName)) hown (mvT hZ (hw _ (List.mem_of_getElem? (i := 28) rfl))) (mvT hZ (hw _ (List.mem_of_getElem? (i := 29) rfl))) (notFace_of_selects (args := #[]) (mvT hZ (hw _ (List.mem_of_getElem? (i := 31) rfl)))) (mvT hZ (hw _ (List.mem_of_getElem? (i := 31) rfl))) (mvT hZ (hw _ (List.mem_of_getElem? (i := 30) rfl))) (by decide) (backOf (W := 0) (rm5_2g l Z a0 hw [] b10 vd2 p5 d33 f33 kd33 kf33 (((0 : Int64) + (p3.toInt64)) + (p4.toInt64)) vd0 vd1 p3 p4 T33.heap n0 (Nat.le_trans (Nat.le_trans (Nat.le_trans (Nat.le_trans Z0 E10.1) K11q.1) K25q.1) K33q.1) E33q g_b10 g_d33 g_f33 F33_s F33_d F33_f F33_c V33_d V33_f ne_b10_d33 ne_b10_f33 ne33_df) hZ (hw _ (List.mem_of_getElem? (i := 32) rfl)) (hw _ (List.mem_of_getElem? (i := 3) rfl)) (by decide) (by decide)) q36a q36c (g := (mkF m 165 #[.val (.int p1), .val (.int p2), .val (.int p3), .val (.int p4), .val (.int p5), .val (.int p6), .val (.int vdc), .val (.int vd0), .val (.int vd1), .val (.int vd2), .val (.int z1), .val (.int z4), .val (.int z7), .val (.int (1 : Int32)), .val (.ref b10), .unset] [(.int p5), (.int vd2), (.ref b10)])) rfl (by rw [hml]; rfl) (Steps.refl _) (argsL := [(.int vd2), (.int p5)]) (rest := []) (lenOf own_pd3 rfl) rfl (by show 2 * 0 + _ ≤ _; exact Nat.le_of_eq rfl) (hb hby at_165) (fun _ _ => ⟨rfl, rfl, (by decide : 5 + 2 ≤ _), (by decide : 17 + 8 ≤ _)⟩)
          dsimp only [Pt.U, Pt.locs, Pt.cells, Pt.slots] at X36 l36 y36 z36 st36 hQ36
          subst l36 y36 z36
          obtain ⟨rfl, N36q, d36, f36, kd36, kf36, K36q, E36q, F36_s, F36_d, F36_f, F36_c, V36_d, V36_f, q36_d36, q36_f36, g_d36, g_f36, ne36_df⟩ := hQ36
          have N36 := Fr.app N33 N36q
          have ne_b10_d36 : b10 ≠ d36 := Nat.ne_of_lt (Nat.lt_of_lt_of_le E33q.lt q36_d36)
          have ne_b10_f36 : b10 ≠ f36 := Nat.ne_of_lt (Nat.lt_of_lt_of_le E33q.lt q36_f36)
          refine own_go (B := T36.setTop (mkF m 168 #[.val (.int p1), .val (.int p2), .val (.int p3), .val (.int p4), .val (.int p5), .val (.int p6), .val (.int vdc), .val (.int vd0), .val (.int vd1), .val (.int vd2), .val (.int z1), .val (.int z4), .val (.int z7), .val (.int (1 : Int32)), .val (.ref b10), .unset] [])) (fun t k => st36.trans k) ?_
          refine own_go (B := T36.setTop (mkF m 172 #[.val (.int p1), .val (.int p2), .val (.int p3), .val (.int p4), .val (.int p5), .val (.int p6), .val (.int vdc), .val (.int vd0), .val (.int vd1), .val (.int vd2), .val (.int z1), .val (.int z4), .val (.int z7), .val (.int (1 : Int32)), .val (.ref b10), .unset] [(.int vdc), (.ref b10)])) (fun t k => ?_) ?_
          · show Steps p.tables e below (T36.setTop (mkF m 168 #[.val (.int p1), .val (.int p2), .val (.int p3), .val (.int p4), .val (.int p5), .val (.int p6), .val (.int vdc), .val (.int vd0), .val (.int vd1), .val (.int vd2), .val (.int z1), .val (.int z4), .val (.int z7), .val (.int (1 : Int32)), .val (.ref b10), .unset] [])) _
            refine XS.aload X36.here hx rfl (hb hby at_168) rfl rfl ?_
            show Steps p.tables e below (T36.setTop (mkF m 170 #[.val (.int p1), .val (.int p2), .val (.int p3), .val (.int p4), .val (.int p5), .val (.int p6), .val (.int vdc), .val (.int vd0), .val (.int vd1), .val (.int vd2), .val (.int z1), .val (.int z4), .val (.int z7), .val (.int (1 : Int32)), .val (.ref b10), .unset] [(.ref b10)])) _
            refine XS.iload X36.here hx rfl (hb hby at_170) rfl ?_
            exact k
          have Vc38 : Arv Z T36.heap d36 kd36 .int (4 : Int32) [(.int vd0), (.int vd1), (.int vd2)] (.int (0 : Int32)) := (V36_d).pad (fun i => (pad_rep [(.int vd0), (.int vd1), (.int vd2)] (.int (0 : Int32)) 1 i).symm)
          have Vc39 : Arv Z T36.heap f36 kf36 .int (4 : Int32) [(.int p3), (.int p4), (.int p5)] (.int (0 : Int32)) := (V36_f).pad (fun i => (pad_rep [(.int p3), (.int p4), (.int p5)] (.int (0 : Int32)) 1 i).symm)
          obtain ⟨cq37, kq37, q37a, q37b, q37c⟩ := isOf hZ rfl E36q
          obtain ⟨_, _, ⟨T37, L37, k37, n37⟩, -, X37, ⟨Lc37, hQ37, l37, y37, z37⟩, st37⟩ := X36.virtualBack hx (y := (⟨"com/example/libqlm/libqlm/Postings", "frequenciesByDocument", "(I)[I"⟩ : MethodName)) (z := (⟨"com/example/libqlm/libqlm/Postings", "frequenciesByDocument", "(I)[I"⟩ : MethodName)) hown (mvT hZ (hw _ (List.mem_of_getElem? (i := 17) rfl))) (mvT hZ (hw _ (List.mem_of_getElem? (i := 18) rfl))) (notFace_of_selects (args := #[]) (mvT hZ (hw _ (List.mem_of_getElem? (i := 20) rfl)))) (mvT hZ (hw _ (List.mem_of_getElem? (i := 20) rfl))) (mvT hZ (hw _ (List.mem_of_getElem? (i := 19) rfl))) (by decide) (backOf (W := 0) (rm3_3 l Z a0 hw [] b10 vdc d36 f36 kd36 kf36 (4 : Int32) vd0 vd1 vd2 p3 p4 p5 T36.heap n0 (Nat.le_trans (Nat.le_trans (Nat.le_trans (Nat.le_trans (Nat.le_trans Z0 E10.1) K11q.1) K25q.1) K33q.1) K36q.1) F36_s F36_d F36_f Vc38 Vc39 hdcN (by decide) (by decide) (by decide) ⟨hnn_vd0, hlt_vd0⟩ ⟨hnn_vd1, hlt_vd1⟩ ⟨hnn_vd2, hlt_vd2⟩) hZ (hw _ (List.mem_of_getElem? (i := 21) rfl)) (hw _ (List.mem_of_getElem? (i := 3) rfl)) (by decide) (by decide)) q37a q37c (g := (mkF m 172 #[.val (.int p1), .val (.int p2), .val (.int p3), .val (.int p4), .val (.int p5), .val (.int p6), .val (.int vdc), .val (.int vd0), .val (.int vd1), .val (.int vd2), .val (.int z1), .val (.int z4), .val (.int z7), .val (.int (1 : Int32)), .val (.ref b10), .unset] [(.int vdc), (.ref b10)])) rfl (by rw [hml]; rfl) (Steps.refl _) (argsL := [(.int vdc)]) (rest := []) (lenOf own_pd4 rfl) rfl (by show 2 * 0 + _ ≤ _; exact Nat.le_of_eq rfl) (hb hby at_172) (fun _ _ => ⟨rfl, rfl, (by decide : 7 + 1 ≤ _), (by decide : 25 + 8 ≤ _)⟩)
          dsimp only [Pt.U, Pt.locs, Pt.cells, Pt.slots] at X37 l37 y37 z37 st37 hQ37
          subst l37 y37 z37
          obtain ⟨r37, kr37, rfl, N37q, K37q, V37q⟩ := hQ37
          have N37 := Fr.app N36 N37q
          have c37_E_b10 := E36q.keep K37q
          have c37_F_b10_size := F36_s.keep K37q (List.not_mem_nil)
          have c37_F_b10_documents := F36_d.keep K37q (List.not_mem_nil)
          have c37_F_b10_frequencies := F36_f.keep K37q (List.not_mem_nil)
          have c37_F_b10_collectionFrequency := F36_c.keep K37q (List.not_mem_nil)
          have c37_V_d36 := V36_d.keep K37q (List.not_mem_nil)
          have c37_V_f36 := V36_f.keep K37q (List.not_mem_nil)
          refine own_go (B := T37.setTop (mkF m 175 #[.val (.int p1), .val (.int p2), .val (.int p3), .val (.int p4), .val (.int p5), .val (.int p6), .val (.int vdc), .val (.int vd0), .val (.int vd1), .val (.int vd2), .val (.int z1), .val (.int z4), .val (.int z7), .val (.int (1 : Int32)), .val (.ref b10), .unset] [(.ref r37)])) (fun t k => st37.trans k) ?_
          refine own_go (B := T37.setTop (mkF m 184 #[.val (.int p1), .val (.int p2), .val (.int p3), .val (.int p4), .val (.int p5), .val (.int p6), .val (.int vdc), .val (.int vd0), .val (.int vd1), .val (.int vd2), .val (.int z1), .val (.int z4), .val (.int z7), .val (.int (1 : Int32)), .val (.ref b10), .val (.ref r37)] [(.ref r37)])) (fun t k => ?_) ?_
          · show Steps p.tables e below (T37.setTop (mkF m 175 #[.val (.int p1), .val (.int p2), .val (.int p3), .val (.int p4), .val (.int p5), .val (.int p6), .val (.int vdc), .val (.int vd0), .val (.int vd1), .val (.int vd2), .val (.int z1), .val (.int z4), .val (.int z7), .val (.int (1 : Int32)), .val (.ref b10), .unset] [(.ref r37)])) _
            refine XS.astore X37.here hx rfl (hb hby at_175) rfl rfl (l' := #[.val (.int p1), .val (.int p2), .val (.int p3), .val (.int p4), .val (.int p5), .val (.int p6), .val (.int vdc), .val (.int vd0), .val (.int vd1), .val (.int vd2), .val (.int z1), .val (.int z4), .val (.int z7), .val (.int (1 : Int32)), .val (.ref b10), .val (.ref r37)]) rfl ?_
            show Steps p.tables e below (T37.setTop (mkF m 177 #[.val (.int p1), .val (.int p2), .val (.int p3), .val (.int p4), .val (.int p5), .val (.int p6), .val (.int vdc), .val (.int vd0), .val (.int vd1), .val (.int vd2), .val (.int z1), .val (.int z4), .val (.int z7), .val (.int (1 : Int32)), .val (.ref b10), .val (.ref r37)] [])) _
            refine XS.aload X37.here hx rfl (hb hby at_177) rfl rfl ?_
            show Steps p.tables e below (T37.setTop (mkF m 179 #[.val (.int p1), .val (.int p2), .val (.int p3), .val (.int p4), .val (.int p5), .val (.int p6), .val (.int vdc), .val (.int vd0), .val (.int vd1), .val (.int vd2), .val (.int z1), .val (.int z4), .val (.int z7), .val (.int (1 : Int32)), .val (.ref b10), .val (.ref r37)] [(.ref r37)])) _
            refine XS.ifnullNo X37.here hx rfl (hb hby at_179) rfl ?_
            show Steps p.tables e below (T37.setTop (mkF m 182 #[.val (.int p1), .val (.int p2), .val (.int p3), .val (.int p4), .val (.int p5), .val (.int p6), .val (.int vdc), .val (.int vd0), .val (.int vd1), .val (.int vd2), .val (.int z1), .val (.int z4), .val (.int z7), .val (.int (1 : Int32)), .val (.ref b10), .val (.ref r37)] [])) _
            refine XS.aload X37.here hx rfl (hb hby at_182) rfl rfl ?_
            exact k
          obtain ⟨cl_r, Ar_r, q_r, S_r, M_r, H_r, G_r⟩ := id V37q
          refine own_go (B := T37.setTop (mkF m 192 #[.val (.int p1), .val (.int p2), .val (.int p3), .val (.int p4), .val (.int p5), .val (.int p6), .val (.int vdc), .val (.int vd0), .val (.int vd1), .val (.int vd2), .val (.int z1), .val (.int z4), .val (.int z7), .val (.int (1 : Int32)), .val (.ref b10), .val (.ref r37)] [])) (fun t k => ?_) ?_
          · show Steps p.tables e below (T37.setTop (mkF m 184 #[.val (.int p1), .val (.int p2), .val (.int p3), .val (.int p4), .val (.int p5), .val (.int p6), .val (.int vdc), .val (.int vd0), .val (.int vd1), .val (.int vd2), .val (.int z1), .val (.int z4), .val (.int z7), .val (.int (1 : Int32)), .val (.ref b10), .val (.ref r37)] [(.ref r37)])) _
            refine X37.arraylength hx Ar_r.1 (State.isArrayOf_alike hZ.alike Ar_r.2.1) (g := (mkF m 184 #[.val (.int p1), .val (.int p2), .val (.int p3), .val (.int p4), .val (.int p5), .val (.int p6), .val (.int vdc), .val (.int vd0), .val (.int vd1), .val (.int vd2), .val (.int z1), .val (.int z4), .val (.int z7), .val (.int (1 : Int32)), .val (.ref b10), .val (.ref r37)] [(.ref r37)])) rfl rfl (hb hby at_184) _ ?_
            rw [len_of S_r M_r]
            show Steps p.tables e below (T37.setTop (mkF m 185 #[.val (.int p1), .val (.int p2), .val (.int p3), .val (.int p4), .val (.int p5), .val (.int p6), .val (.int vdc), .val (.int vd0), .val (.int vd1), .val (.int vd2), .val (.int z1), .val (.int z4), .val (.int z7), .val (.int (1 : Int32)), .val (.ref b10), .val (.ref r37)] [(.int vdc)])) _
            refine XS.iload X37.here hx rfl (hb hby at_185) rfl ?_
            show Steps p.tables e below (T37.setTop (mkF m 187 #[.val (.int p1), .val (.int p2), .val (.int p3), .val (.int p4), .val (.int p5), .val (.int p6), .val (.int vdc), .val (.int vd0), .val (.int vd1), .val (.int vd2), .val (.int z1), .val (.int z4), .val (.int z7), .val (.int (1 : Int32)), .val (.ref b10), .val (.ref r37)] [(.int vdc), (.int vdc)])) _
            refine XS.icmpYes X37.here hx rfl (pc0 := 187) (pc' := 192) rfl (hb hby at_187) rfl (teq rfl).1 (by decide) (by decide) ?_
            exact k
          have htl := own_tail p1 p2 p3 p4 p5 p6 vdc vd0 vd1 vd2 z1 z4 z7 (1 : Int32) b10 r37 kr37 [(vd2, p5), (vd1, p4), (vd0, p3)] X37 hx hZ hw hby hml hown Bd rfl N37 (Nat.le_trans (Nat.le_trans (Nat.le_trans (Nat.le_trans (Nat.le_trans (Nat.le_trans Z0 E10.1) K11q.1) K25q.1) K33q.1) K36q.1) K37q.1) (by decide) (by decide) V37q (fun i => by simp only [own_gv, own_e, own_e1, if_neg hc130_12, if_neg hc143_26, if_neg hc156_34])
          exact htl
      · have hcap1 : (1 : Int32) < vcap := own_ltI (by have q := own_neI hN1; have q0 := own_toI hcap0; show (1 : Int) < _; have e1 : (1 : Int32).toInt = 1 := (by decide); have e2 : (0 : Int32).toInt = 0 := (by decide); omega)
        obtain ⟨cq40, kq40, q40a, q40b, q40c⟩ := isOf hZ rfl E25q
        obtain ⟨_, _, ⟨T40, L40, k40, n40⟩, -, X40, ⟨Lc40, hQ40, l40, y40, z40⟩, st40⟩ := X25.virtualBack hx (y := (⟨"com/example/libqlm/libqlm/Postings", "add", "(II)V"⟩ : MethodName)) (z := (⟨"com/example/libqlm/libqlm/Postings", "add", "(II)V"⟩ : MethodName)) hown (mvT hZ (hw _ (List.mem_of_getElem? (i := 28) rfl))) (mvT hZ (hw _ (List.mem_of_getElem? (i := 29) rfl))) (notFace_of_selects (args := #[]) (mvT hZ (hw _ (List.mem_of_getElem? (i := 31) rfl)))) (mvT hZ (hw _ (List.mem_of_getElem? (i := 31) rfl))) (mvT hZ (hw _ (List.mem_of_getElem? (i := 30) rfl))) (by decide) (backOf (W := 0) (rm5_1 l Z a0 hw [] b10 vd1 p4 d11 f11 kd11 kf11 vcap ((0 : Int64) + (p3.toInt64)) vd0 p3 T25.heap n0 (Nat.le_trans (Nat.le_trans (Nat.le_trans Z0 E10.1) K11q.1) K25q.1) E25q g_b10 g_d11 g_f11 F25_s F25_d F25_f F25_c V25_d V25_f ne_b10_d11 ne_b10_f11 ne11_df hcap1) hZ (hw _ (List.mem_of_getElem? (i := 32) rfl)) (hw _ (List.mem_of_getElem? (i := 3) rfl)) (by decide) (by decide)) q40a q40c (g := (mkF m 151 #[.val (.int p1), .val (.int p2), .val (.int p3), .val (.int p4), .val (.int p5), .val (.int p6), .val (.int vdc), .val (.int vd0), .val (.int vd1), .val (.int vd2), .val (.int z1), .val (.int z4), .val (.int z7), .val (.int vcap), .val (.ref b10), .unset] [(.int p4), (.int vd1), (.ref b10)])) rfl (by rw [hml]; rfl) (Steps.refl _) (argsL := [(.int vd1), (.int p4)]) (rest := []) (lenOf own_pd3 rfl) rfl (by show 2 * 0 + _ ≤ _; exact Nat.le_of_eq rfl) (hb hby at_151) (fun _ _ => ⟨rfl, rfl, (by decide : 3 + 0 ≤ _), (by decide : 13 + 0 ≤ _)⟩)
        dsimp only [Pt.U, Pt.locs, Pt.cells, Pt.slots] at X40 l40 y40 z40 st40 hQ40
        subst l40 y40 z40
        obtain ⟨rfl, N40q, K40q, E40q, F40_s, F40_d, F40_f, F40_c, V40_d, V40_f⟩ := hQ40
        have N40 := Fr.app N25 N40q
        refine own_go (B := T40.setTop (mkF m 154 #[.val (.int p1), .val (.int p2), .val (.int p3), .val (.int p4), .val (.int p5), .val (.int p6), .val (.int vdc), .val (.int vd0), .val (.int vd1), .val (.int vd2), .val (.int z1), .val (.int z4), .val (.int z7), .val (.int vcap), .val (.ref b10), .unset] [])) (fun t k => st40.trans k) ?_
        refine own_go (B := T40.setTop (mkF m 156 #[.val (.int p1), .val (.int p2), .val (.int p3), .val (.int p4), .val (.int p5), .val (.int p6), .val (.int vdc), .val (.int vd0), .val (.int vd1), .val (.int vd2), .val (.int z1), .val (.int z4), .val (.int z7), .val (.int vcap), .val (.ref b10), .unset] [(.int z7)])) (fun t k => ?_) ?_
        · show Steps p.tables e below (T40.setTop (mkF m 154 #[.val (.int p1), .val (.int p2), .val (.int p3), .val (.int p4), .val (.int p5), .val (.int p6), .val (.int vdc), .val (.int vd0), .val (.int vd1), .val (.int vd2), .val (.int z1), .val (.int z4), .val (.int z7), .val (.int vcap), .val (.ref b10), .unset] [])) _
          refine XS.iload X40.here hx rfl (hb hby at_154) rfl ?_
          exact k
        by_cases hc156_41 : z7 = (0 : Int32)
        · refine own_go (B := T40.setTop (mkF m 172 #[.val (.int p1), .val (.int p2), .val (.int p3), .val (.int p4), .val (.int p5), .val (.int p6), .val (.int vdc), .val (.int vd0), .val (.int vd1), .val (.int vd2), .val (.int z1), .val (.int z4), .val (.int z7), .val (.int vcap), .val (.ref b10), .unset] [(.int vdc), (.ref b10)])) (fun t k => ?_) ?_
          · show Steps p.tables e below (T40.setTop (mkF m 156 #[.val (.int p1), .val (.int p2), .val (.int p3), .val (.int p4), .val (.int p5), .val (.int p6), .val (.int vdc), .val (.int vd0), .val (.int vd1), .val (.int vd2), .val (.int z1), .val (.int z4), .val (.int z7), .val (.int vcap), .val (.ref b10), .unset] [(.int z7)])) _
            refine XS.ifYes X40.here hx rfl (pc0 := 156) (pc' := 168) rfl (hb hby at_156) rfl ((if0 _ _).trans (teq hc156_41).1) (by decide) (by decide) ?_
            show Steps p.tables e below (T40.setTop (mkF m 168 #[.val (.int p1), .val (.int p2), .val (.int p3), .val (.int p4), .val (.int p5), .val (.int p6), .val (.int vdc), .val (.int vd0), .val (.int vd1), .val (.int vd2), .val (.int z1), .val (.int z4), .val (.int z7), .val (.int vcap), .val (.ref b10), .unset] [])) _
            refine XS.aload X40.here hx rfl (hb hby at_168) rfl rfl ?_
            show Steps p.tables e below (T40.setTop (mkF m 170 #[.val (.int p1), .val (.int p2), .val (.int p3), .val (.int p4), .val (.int p5), .val (.int p6), .val (.int vdc), .val (.int vd0), .val (.int vd1), .val (.int vd2), .val (.int z1), .val (.int z4), .val (.int z7), .val (.int vcap), .val (.ref b10), .unset] [(.ref b10)])) _
            refine XS.iload X40.here hx rfl (hb hby at_170) rfl ?_
            exact k
          obtain ⟨cq42, kq42, q42a, q42b, q42c⟩ := isOf hZ rfl E40q
          obtain ⟨_, _, ⟨T42, L42, k42, n42⟩, -, X42, ⟨Lc42, hQ42, l42, y42, z42⟩, st42⟩ := X40.virtualBack hx (y := (⟨"com/example/libqlm/libqlm/Postings", "frequenciesByDocument", "(I)[I"⟩ : MethodName)) (z := (⟨"com/example/libqlm/libqlm/Postings", "frequenciesByDocument", "(I)[I"⟩ : MethodName)) hown (mvT hZ (hw _ (List.mem_of_getElem? (i := 17) rfl))) (mvT hZ (hw _ (List.mem_of_getElem? (i := 18) rfl))) (notFace_of_selects (args := #[]) (mvT hZ (hw _ (List.mem_of_getElem? (i := 20) rfl)))) (mvT hZ (hw _ (List.mem_of_getElem? (i := 20) rfl))) (mvT hZ (hw _ (List.mem_of_getElem? (i := 19) rfl))) (by decide) (backOf (W := 0) (rm3_2 l Z a0 hw [] b10 vdc d11 f11 kd11 kf11 vcap vd0 vd1 p3 p4 T40.heap n0 (Nat.le_trans (Nat.le_trans (Nat.le_trans (Nat.le_trans Z0 E10.1) K11q.1) K25q.1) K40q.1) F40_s F40_d F40_f V40_d V40_f hdcN hcap0 hcap1 ⟨hnn_vd0, hlt_vd0⟩ ⟨hnn_vd1, hlt_vd1⟩) hZ (hw _ (List.mem_of_getElem? (i := 21) rfl)) (hw _ (List.mem_of_getElem? (i := 3) rfl)) (by decide) (by decide)) q42a q42c (g := (mkF m 172 #[.val (.int p1), .val (.int p2), .val (.int p3), .val (.int p4), .val (.int p5), .val (.int p6), .val (.int vdc), .val (.int vd0), .val (.int vd1), .val (.int vd2), .val (.int z1), .val (.int z4), .val (.int z7), .val (.int vcap), .val (.ref b10), .unset] [(.int vdc), (.ref b10)])) rfl (by rw [hml]; rfl) (Steps.refl _) (argsL := [(.int vdc)]) (rest := []) (lenOf own_pd4 rfl) rfl (by show 2 * 0 + _ ≤ _; exact Nat.le_of_eq rfl) (hb hby at_172) (fun _ _ => ⟨rfl, rfl, (by decide : 3 + 1 ≤ _), (by decide : 13 + 8 ≤ _)⟩)
          dsimp only [Pt.U, Pt.locs, Pt.cells, Pt.slots] at X42 l42 y42 z42 st42 hQ42
          subst l42 y42 z42
          obtain ⟨r42, kr42, rfl, N42q, K42q, V42q⟩ := hQ42
          have N42 := Fr.app N40 N42q
          have c42_E_b10 := E40q.keep K42q
          have c42_F_b10_size := F40_s.keep K42q (List.not_mem_nil)
          have c42_F_b10_documents := F40_d.keep K42q (List.not_mem_nil)
          have c42_F_b10_frequencies := F40_f.keep K42q (List.not_mem_nil)
          have c42_F_b10_collectionFrequency := F40_c.keep K42q (List.not_mem_nil)
          have c42_V_d11 := V40_d.keep K42q (List.not_mem_nil)
          have c42_V_f11 := V40_f.keep K42q (List.not_mem_nil)
          refine own_go (B := T42.setTop (mkF m 175 #[.val (.int p1), .val (.int p2), .val (.int p3), .val (.int p4), .val (.int p5), .val (.int p6), .val (.int vdc), .val (.int vd0), .val (.int vd1), .val (.int vd2), .val (.int z1), .val (.int z4), .val (.int z7), .val (.int vcap), .val (.ref b10), .unset] [(.ref r42)])) (fun t k => st42.trans k) ?_
          refine own_go (B := T42.setTop (mkF m 184 #[.val (.int p1), .val (.int p2), .val (.int p3), .val (.int p4), .val (.int p5), .val (.int p6), .val (.int vdc), .val (.int vd0), .val (.int vd1), .val (.int vd2), .val (.int z1), .val (.int z4), .val (.int z7), .val (.int vcap), .val (.ref b10), .val (.ref r42)] [(.ref r42)])) (fun t k => ?_) ?_
          · show Steps p.tables e below (T42.setTop (mkF m 175 #[.val (.int p1), .val (.int p2), .val (.int p3), .val (.int p4), .val (.int p5), .val (.int p6), .val (.int vdc), .val (.int vd0), .val (.int vd1), .val (.int vd2), .val (.int z1), .val (.int z4), .val (.int z7), .val (.int vcap), .val (.ref b10), .unset] [(.ref r42)])) _
            refine XS.astore X42.here hx rfl (hb hby at_175) rfl rfl (l' := #[.val (.int p1), .val (.int p2), .val (.int p3), .val (.int p4), .val (.int p5), .val (.int p6), .val (.int vdc), .val (.int vd0), .val (.int vd1), .val (.int vd2), .val (.int z1), .val (.int z4), .val (.int z7), .val (.int vcap), .val (.ref b10), .val (.ref r42)]) rfl ?_
            show Steps p.tables e below (T42.setTop (mkF m 177 #[.val (.int p1), .val (.int p2), .val (.int p3), .val (.int p4), .val (.int p5), .val (.int p6), .val (.int vdc), .val (.int vd0), .val (.int vd1), .val (.int vd2), .val (.int z1), .val (.int z4), .val (.int z7), .val (.int vcap), .val (.ref b10), .val (.ref r42)] [])) _
            refine XS.aload X42.here hx rfl (hb hby at_177) rfl rfl ?_
            show Steps p.tables e below (T42.setTop (mkF m 179 #[.val (.int p1), .val (.int p2), .val (.int p3), .val (.int p4), .val (.int p5), .val (.int p6), .val (.int vdc), .val (.int vd0), .val (.int vd1), .val (.int vd2), .val (.int z1), .val (.int z4), .val (.int z7), .val (.int vcap), .val (.ref b10), .val (.ref r42)] [(.ref r42)])) _
            refine XS.ifnullNo X42.here hx rfl (hb hby at_179) rfl ?_
            show Steps p.tables e below (T42.setTop (mkF m 182 #[.val (.int p1), .val (.int p2), .val (.int p3), .val (.int p4), .val (.int p5), .val (.int p6), .val (.int vdc), .val (.int vd0), .val (.int vd1), .val (.int vd2), .val (.int z1), .val (.int z4), .val (.int z7), .val (.int vcap), .val (.ref b10), .val (.ref r42)] [])) _
            refine XS.aload X42.here hx rfl (hb hby at_182) rfl rfl ?_
            exact k
          obtain ⟨cl_r, Ar_r, q_r, S_r, M_r, H_r, G_r⟩ := id V42q
          refine own_go (B := T42.setTop (mkF m 192 #[.val (.int p1), .val (.int p2), .val (.int p3), .val (.int p4), .val (.int p5), .val (.int p6), .val (.int vdc), .val (.int vd0), .val (.int vd1), .val (.int vd2), .val (.int z1), .val (.int z4), .val (.int z7), .val (.int vcap), .val (.ref b10), .val (.ref r42)] [])) (fun t k => ?_) ?_
          · show Steps p.tables e below (T42.setTop (mkF m 184 #[.val (.int p1), .val (.int p2), .val (.int p3), .val (.int p4), .val (.int p5), .val (.int p6), .val (.int vdc), .val (.int vd0), .val (.int vd1), .val (.int vd2), .val (.int z1), .val (.int z4), .val (.int z7), .val (.int vcap), .val (.ref b10), .val (.ref r42)] [(.ref r42)])) _
            refine X42.arraylength hx Ar_r.1 (State.isArrayOf_alike hZ.alike Ar_r.2.1) (g := (mkF m 184 #[.val (.int p1), .val (.int p2), .val (.int p3), .val (.int p4), .val (.int p5), .val (.int p6), .val (.int vdc), .val (.int vd0), .val (.int vd1), .val (.int vd2), .val (.int z1), .val (.int z4), .val (.int z7), .val (.int vcap), .val (.ref b10), .val (.ref r42)] [(.ref r42)])) rfl rfl (hb hby at_184) _ ?_
            rw [len_of S_r M_r]
            show Steps p.tables e below (T42.setTop (mkF m 185 #[.val (.int p1), .val (.int p2), .val (.int p3), .val (.int p4), .val (.int p5), .val (.int p6), .val (.int vdc), .val (.int vd0), .val (.int vd1), .val (.int vd2), .val (.int z1), .val (.int z4), .val (.int z7), .val (.int vcap), .val (.ref b10), .val (.ref r42)] [(.int vdc)])) _
            refine XS.iload X42.here hx rfl (hb hby at_185) rfl ?_
            show Steps p.tables e below (T42.setTop (mkF m 187 #[.val (.int p1), .val (.int p2), .val (.int p3), .val (.int p4), .val (.int p5), .val (.int p6), .val (.int vdc), .val (.int vd0), .val (.int vd1), .val (.int vd2), .val (.int z1), .val (.int z4), .val (.int z7), .val (.int vcap), .val (.ref b10), .val (.ref r42)] [(.int vdc), (.int vdc)])) _
            refine XS.icmpYes X42.here hx rfl (pc0 := 187) (pc' := 192) rfl (hb hby at_187) rfl (teq rfl).1 (by decide) (by decide) ?_
            exact k
          have htl := own_tail p1 p2 p3 p4 p5 p6 vdc vd0 vd1 vd2 z1 z4 z7 vcap b10 r42 kr42 [(vd1, p4), (vd0, p3)] X42 hx hZ hw hby hml hown Bd rfl N42 (Nat.le_trans (Nat.le_trans (Nat.le_trans (Nat.le_trans (Nat.le_trans Z0 E10.1) K11q.1) K25q.1) K40q.1) K42q.1) (by decide) (by decide) V42q (fun i => by simp only [own_gv, own_e, own_e1, if_neg hc130_12, if_neg hc143_26, if_pos hc156_41])
          exact htl
        · refine own_go (B := T40.setTop (mkF m 159 #[.val (.int p1), .val (.int p2), .val (.int p3), .val (.int p4), .val (.int p5), .val (.int p6), .val (.int vdc), .val (.int vd0), .val (.int vd1), .val (.int vd2), .val (.int z1), .val (.int z4), .val (.int z7), .val (.int vcap), .val (.ref b10), .unset] [])) (fun t k => ?_) ?_
          · show Steps p.tables e below (T40.setTop (mkF m 156 #[.val (.int p1), .val (.int p2), .val (.int p3), .val (.int p4), .val (.int p5), .val (.int p6), .val (.int vdc), .val (.int vd0), .val (.int vd1), .val (.int vd2), .val (.int z1), .val (.int z4), .val (.int z7), .val (.int vcap), .val (.ref b10), .unset] [(.int z7)])) _
            refine XS.ifNo X40.here hx rfl (hb hby at_156) rfl ((if0 _ _).trans (feq hc156_41).1) ?_
            exact k
          have hlt_vd2 : vd2 < vdc := own_in hz7 hc156_41
          refine own_go (B := T40.setTop (mkF m 165 #[.val (.int p1), .val (.int p2), .val (.int p3), .val (.int p4), .val (.int p5), .val (.int p6), .val (.int vdc), .val (.int vd0), .val (.int vd1), .val (.int vd2), .val (.int z1), .val (.int z4), .val (.int z7), .val (.int vcap), .val (.ref b10), .unset] [(.int p5), (.int vd2), (.ref b10)])) (fun t k => ?_) ?_
          · show Steps p.tables e below (T40.setTop (mkF m 159 #[.val (.int p1), .val (.int p2), .val (.int p3), .val (.int p4), .val (.int p5), .val (.int p6), .val (.int vdc), .val (.int vd0), .val (.int vd1), .val (.int vd2), .val (.int z1), .val (.int z4), .val (.int z7), .val (.int vcap), .val (.ref b10), .unset] [])) _
            refine XS.aload X40.here hx rfl (hb hby at_159) rfl rfl ?_
            show Steps p.tables e below (T40.setTop (mkF m 161 #[.val (.int p1), .val (.int p2), .val (.int p3), .val (.int p4), .val (.int p5), .val (.int p6), .val (.int vdc), .val (.int vd0), .val (.int vd1), .val (.int vd2), .val (.int z1), .val (.int z4), .val (.int z7), .val (.int vcap), .val (.ref b10), .unset] [(.ref b10)])) _
            refine XS.iload X40.here hx rfl (hb hby at_161) rfl ?_
            show Steps p.tables e below (T40.setTop (mkF m 163 #[.val (.int p1), .val (.int p2), .val (.int p3), .val (.int p4), .val (.int p5), .val (.int p6), .val (.int vdc), .val (.int vd0), .val (.int vd1), .val (.int vd2), .val (.int z1), .val (.int z4), .val (.int z7), .val (.int vcap), .val (.ref b10), .unset] [(.int vd2), (.ref b10)])) _
            refine XS.iload X40.here hx rfl (hb hby at_163) rfl ?_
            exact k
          by_cases hN2 : vcap = (2 : Int32)
          · subst hN2
            obtain ⟨cq43, kq43, q43a, q43b, q43c⟩ := isOf hZ rfl E40q
            obtain ⟨_, _, ⟨T43, L43, k43, n43⟩, -, X43, ⟨Lc43, hQ43, l43, y43, z43⟩, st43⟩ := X40.virtualBack hx (y := (⟨"com/example/libqlm/libqlm/Postings", "add", "(II)V"⟩ : MethodName)) (z := (⟨"com/example/libqlm/libqlm/Postings", "add", "(II)V"⟩ : MethodName)) hown (mvT hZ (hw _ (List.mem_of_getElem? (i := 28) rfl))) (mvT hZ (hw _ (List.mem_of_getElem? (i := 29) rfl))) (notFace_of_selects (args := #[]) (mvT hZ (hw _ (List.mem_of_getElem? (i := 31) rfl)))) (mvT hZ (hw _ (List.mem_of_getElem? (i := 31) rfl))) (mvT hZ (hw _ (List.mem_of_getElem? (i := 30) rfl))) (by decide) (backOf (W := 0) (rm5_2g l Z a0 hw [] b10 vd2 p5 d11 f11 kd11 kf11 (((0 : Int64) + (p3.toInt64)) + (p4.toInt64)) vd0 vd1 p3 p4 T40.heap n0 (Nat.le_trans (Nat.le_trans (Nat.le_trans (Nat.le_trans Z0 E10.1) K11q.1) K25q.1) K40q.1) E40q g_b10 g_d11 g_f11 F40_s F40_d F40_f F40_c V40_d V40_f ne_b10_d11 ne_b10_f11 ne11_df) hZ (hw _ (List.mem_of_getElem? (i := 32) rfl)) (hw _ (List.mem_of_getElem? (i := 3) rfl)) (by decide) (by decide)) q43a q43c (g := (mkF m 165 #[.val (.int p1), .val (.int p2), .val (.int p3), .val (.int p4), .val (.int p5), .val (.int p6), .val (.int vdc), .val (.int vd0), .val (.int vd1), .val (.int vd2), .val (.int z1), .val (.int z4), .val (.int z7), .val (.int (2 : Int32)), .val (.ref b10), .unset] [(.int p5), (.int vd2), (.ref b10)])) rfl (by rw [hml]; rfl) (Steps.refl _) (argsL := [(.int vd2), (.int p5)]) (rest := []) (lenOf own_pd3 rfl) rfl (by show 2 * 0 + _ ≤ _; exact Nat.le_of_eq rfl) (hb hby at_165) (fun _ _ => ⟨rfl, rfl, (by decide : 3 + 2 ≤ _), (by decide : 13 + 8 ≤ _)⟩)
            dsimp only [Pt.U, Pt.locs, Pt.cells, Pt.slots] at X43 l43 y43 z43 st43 hQ43
            subst l43 y43 z43
            obtain ⟨rfl, N43q, d43, f43, kd43, kf43, K43q, E43q, F43_s, F43_d, F43_f, F43_c, V43_d, V43_f, q43_d43, q43_f43, g_d43, g_f43, ne43_df⟩ := hQ43
            have N43 := Fr.app N40 N43q
            have ne_b10_d43 : b10 ≠ d43 := Nat.ne_of_lt (Nat.lt_of_lt_of_le E40q.lt q43_d43)
            have ne_b10_f43 : b10 ≠ f43 := Nat.ne_of_lt (Nat.lt_of_lt_of_le E40q.lt q43_f43)
            refine own_go (B := T43.setTop (mkF m 168 #[.val (.int p1), .val (.int p2), .val (.int p3), .val (.int p4), .val (.int p5), .val (.int p6), .val (.int vdc), .val (.int vd0), .val (.int vd1), .val (.int vd2), .val (.int z1), .val (.int z4), .val (.int z7), .val (.int (2 : Int32)), .val (.ref b10), .unset] [])) (fun t k => st43.trans k) ?_
            refine own_go (B := T43.setTop (mkF m 172 #[.val (.int p1), .val (.int p2), .val (.int p3), .val (.int p4), .val (.int p5), .val (.int p6), .val (.int vdc), .val (.int vd0), .val (.int vd1), .val (.int vd2), .val (.int z1), .val (.int z4), .val (.int z7), .val (.int (2 : Int32)), .val (.ref b10), .unset] [(.int vdc), (.ref b10)])) (fun t k => ?_) ?_
            · show Steps p.tables e below (T43.setTop (mkF m 168 #[.val (.int p1), .val (.int p2), .val (.int p3), .val (.int p4), .val (.int p5), .val (.int p6), .val (.int vdc), .val (.int vd0), .val (.int vd1), .val (.int vd2), .val (.int z1), .val (.int z4), .val (.int z7), .val (.int (2 : Int32)), .val (.ref b10), .unset] [])) _
              refine XS.aload X43.here hx rfl (hb hby at_168) rfl rfl ?_
              show Steps p.tables e below (T43.setTop (mkF m 170 #[.val (.int p1), .val (.int p2), .val (.int p3), .val (.int p4), .val (.int p5), .val (.int p6), .val (.int vdc), .val (.int vd0), .val (.int vd1), .val (.int vd2), .val (.int z1), .val (.int z4), .val (.int z7), .val (.int (2 : Int32)), .val (.ref b10), .unset] [(.ref b10)])) _
              refine XS.iload X43.here hx rfl (hb hby at_170) rfl ?_
              exact k
            have Vc45 : Arv Z T43.heap d43 kd43 .int (4 : Int32) [(.int vd0), (.int vd1), (.int vd2)] (.int (0 : Int32)) := (V43_d).pad (fun i => (pad_rep [(.int vd0), (.int vd1), (.int vd2)] (.int (0 : Int32)) 1 i).symm)
            have Vc46 : Arv Z T43.heap f43 kf43 .int (4 : Int32) [(.int p3), (.int p4), (.int p5)] (.int (0 : Int32)) := (V43_f).pad (fun i => (pad_rep [(.int p3), (.int p4), (.int p5)] (.int (0 : Int32)) 1 i).symm)
            obtain ⟨cq44, kq44, q44a, q44b, q44c⟩ := isOf hZ rfl E43q
            obtain ⟨_, _, ⟨T44, L44, k44, n44⟩, -, X44, ⟨Lc44, hQ44, l44, y44, z44⟩, st44⟩ := X43.virtualBack hx (y := (⟨"com/example/libqlm/libqlm/Postings", "frequenciesByDocument", "(I)[I"⟩ : MethodName)) (z := (⟨"com/example/libqlm/libqlm/Postings", "frequenciesByDocument", "(I)[I"⟩ : MethodName)) hown (mvT hZ (hw _ (List.mem_of_getElem? (i := 17) rfl))) (mvT hZ (hw _ (List.mem_of_getElem? (i := 18) rfl))) (notFace_of_selects (args := #[]) (mvT hZ (hw _ (List.mem_of_getElem? (i := 20) rfl)))) (mvT hZ (hw _ (List.mem_of_getElem? (i := 20) rfl))) (mvT hZ (hw _ (List.mem_of_getElem? (i := 19) rfl))) (by decide) (backOf (W := 0) (rm3_3 l Z a0 hw [] b10 vdc d43 f43 kd43 kf43 (4 : Int32) vd0 vd1 vd2 p3 p4 p5 T43.heap n0 (Nat.le_trans (Nat.le_trans (Nat.le_trans (Nat.le_trans (Nat.le_trans Z0 E10.1) K11q.1) K25q.1) K40q.1) K43q.1) F43_s F43_d F43_f Vc45 Vc46 hdcN (by decide) (by decide) (by decide) ⟨hnn_vd0, hlt_vd0⟩ ⟨hnn_vd1, hlt_vd1⟩ ⟨hnn_vd2, hlt_vd2⟩) hZ (hw _ (List.mem_of_getElem? (i := 21) rfl)) (hw _ (List.mem_of_getElem? (i := 3) rfl)) (by decide) (by decide)) q44a q44c (g := (mkF m 172 #[.val (.int p1), .val (.int p2), .val (.int p3), .val (.int p4), .val (.int p5), .val (.int p6), .val (.int vdc), .val (.int vd0), .val (.int vd1), .val (.int vd2), .val (.int z1), .val (.int z4), .val (.int z7), .val (.int (2 : Int32)), .val (.ref b10), .unset] [(.int vdc), (.ref b10)])) rfl (by rw [hml]; rfl) (Steps.refl _) (argsL := [(.int vdc)]) (rest := []) (lenOf own_pd4 rfl) rfl (by show 2 * 0 + _ ≤ _; exact Nat.le_of_eq rfl) (hb hby at_172) (fun _ _ => ⟨rfl, rfl, (by decide : 5 + 1 ≤ _), (by decide : 21 + 8 ≤ _)⟩)
            dsimp only [Pt.U, Pt.locs, Pt.cells, Pt.slots] at X44 l44 y44 z44 st44 hQ44
            subst l44 y44 z44
            obtain ⟨r44, kr44, rfl, N44q, K44q, V44q⟩ := hQ44
            have N44 := Fr.app N43 N44q
            have c44_E_b10 := E43q.keep K44q
            have c44_F_b10_size := F43_s.keep K44q (List.not_mem_nil)
            have c44_F_b10_documents := F43_d.keep K44q (List.not_mem_nil)
            have c44_F_b10_frequencies := F43_f.keep K44q (List.not_mem_nil)
            have c44_F_b10_collectionFrequency := F43_c.keep K44q (List.not_mem_nil)
            have c44_V_d43 := V43_d.keep K44q (List.not_mem_nil)
            have c44_V_f43 := V43_f.keep K44q (List.not_mem_nil)
            refine own_go (B := T44.setTop (mkF m 175 #[.val (.int p1), .val (.int p2), .val (.int p3), .val (.int p4), .val (.int p5), .val (.int p6), .val (.int vdc), .val (.int vd0), .val (.int vd1), .val (.int vd2), .val (.int z1), .val (.int z4), .val (.int z7), .val (.int (2 : Int32)), .val (.ref b10), .unset] [(.ref r44)])) (fun t k => st44.trans k) ?_
            refine own_go (B := T44.setTop (mkF m 184 #[.val (.int p1), .val (.int p2), .val (.int p3), .val (.int p4), .val (.int p5), .val (.int p6), .val (.int vdc), .val (.int vd0), .val (.int vd1), .val (.int vd2), .val (.int z1), .val (.int z4), .val (.int z7), .val (.int (2 : Int32)), .val (.ref b10), .val (.ref r44)] [(.ref r44)])) (fun t k => ?_) ?_
            · show Steps p.tables e below (T44.setTop (mkF m 175 #[.val (.int p1), .val (.int p2), .val (.int p3), .val (.int p4), .val (.int p5), .val (.int p6), .val (.int vdc), .val (.int vd0), .val (.int vd1), .val (.int vd2), .val (.int z1), .val (.int z4), .val (.int z7), .val (.int (2 : Int32)), .val (.ref b10), .unset] [(.ref r44)])) _
              refine XS.astore X44.here hx rfl (hb hby at_175) rfl rfl (l' := #[.val (.int p1), .val (.int p2), .val (.int p3), .val (.int p4), .val (.int p5), .val (.int p6), .val (.int vdc), .val (.int vd0), .val (.int vd1), .val (.int vd2), .val (.int z1), .val (.int z4), .val (.int z7), .val (.int (2 : Int32)), .val (.ref b10), .val (.ref r44)]) rfl ?_
              show Steps p.tables e below (T44.setTop (mkF m 177 #[.val (.int p1), .val (.int p2), .val (.int p3), .val (.int p4), .val (.int p5), .val (.int p6), .val (.int vdc), .val (.int vd0), .val (.int vd1), .val (.int vd2), .val (.int z1), .val (.int z4), .val (.int z7), .val (.int (2 : Int32)), .val (.ref b10), .val (.ref r44)] [])) _
              refine XS.aload X44.here hx rfl (hb hby at_177) rfl rfl ?_
              show Steps p.tables e below (T44.setTop (mkF m 179 #[.val (.int p1), .val (.int p2), .val (.int p3), .val (.int p4), .val (.int p5), .val (.int p6), .val (.int vdc), .val (.int vd0), .val (.int vd1), .val (.int vd2), .val (.int z1), .val (.int z4), .val (.int z7), .val (.int (2 : Int32)), .val (.ref b10), .val (.ref r44)] [(.ref r44)])) _
              refine XS.ifnullNo X44.here hx rfl (hb hby at_179) rfl ?_
              show Steps p.tables e below (T44.setTop (mkF m 182 #[.val (.int p1), .val (.int p2), .val (.int p3), .val (.int p4), .val (.int p5), .val (.int p6), .val (.int vdc), .val (.int vd0), .val (.int vd1), .val (.int vd2), .val (.int z1), .val (.int z4), .val (.int z7), .val (.int (2 : Int32)), .val (.ref b10), .val (.ref r44)] [])) _
              refine XS.aload X44.here hx rfl (hb hby at_182) rfl rfl ?_
              exact k
            obtain ⟨cl_r, Ar_r, q_r, S_r, M_r, H_r, G_r⟩ := id V44q
            refine own_go (B := T44.setTop (mkF m 192 #[.val (.int p1), .val (.int p2), .val (.int p3), .val (.int p4), .val (.int p5), .val (.int p6), .val (.int vdc), .val (.int vd0), .val (.int vd1), .val (.int vd2), .val (.int z1), .val (.int z4), .val (.int z7), .val (.int (2 : Int32)), .val (.ref b10), .val (.ref r44)] [])) (fun t k => ?_) ?_
            · show Steps p.tables e below (T44.setTop (mkF m 184 #[.val (.int p1), .val (.int p2), .val (.int p3), .val (.int p4), .val (.int p5), .val (.int p6), .val (.int vdc), .val (.int vd0), .val (.int vd1), .val (.int vd2), .val (.int z1), .val (.int z4), .val (.int z7), .val (.int (2 : Int32)), .val (.ref b10), .val (.ref r44)] [(.ref r44)])) _
              refine X44.arraylength hx Ar_r.1 (State.isArrayOf_alike hZ.alike Ar_r.2.1) (g := (mkF m 184 #[.val (.int p1), .val (.int p2), .val (.int p3), .val (.int p4), .val (.int p5), .val (.int p6), .val (.int vdc), .val (.int vd0), .val (.int vd1), .val (.int vd2), .val (.int z1), .val (.int z4), .val (.int z7), .val (.int (2 : Int32)), .val (.ref b10), .val (.ref r44)] [(.ref r44)])) rfl rfl (hb hby at_184) _ ?_
              rw [len_of S_r M_r]
              show Steps p.tables e below (T44.setTop (mkF m 185 #[.val (.int p1), .val (.int p2), .val (.int p3), .val (.int p4), .val (.int p5), .val (.int p6), .val (.int vdc), .val (.int vd0), .val (.int vd1), .val (.int vd2), .val (.int z1), .val (.int z4), .val (.int z7), .val (.int (2 : Int32)), .val (.ref b10), .val (.ref r44)] [(.int vdc)])) _
              refine XS.iload X44.here hx rfl (hb hby at_185) rfl ?_
              show Steps p.tables e below (T44.setTop (mkF m 187 #[.val (.int p1), .val (.int p2), .val (.int p3), .val (.int p4), .val (.int p5), .val (.int p6), .val (.int vdc), .val (.int vd0), .val (.int vd1), .val (.int vd2), .val (.int z1), .val (.int z4), .val (.int z7), .val (.int (2 : Int32)), .val (.ref b10), .val (.ref r44)] [(.int vdc), (.int vdc)])) _
              refine XS.icmpYes X44.here hx rfl (pc0 := 187) (pc' := 192) rfl (hb hby at_187) rfl (teq rfl).1 (by decide) (by decide) ?_
              exact k
            have htl := own_tail p1 p2 p3 p4 p5 p6 vdc vd0 vd1 vd2 z1 z4 z7 (2 : Int32) b10 r44 kr44 [(vd2, p5), (vd1, p4), (vd0, p3)] X44 hx hZ hw hby hml hown Bd rfl N44 (Nat.le_trans (Nat.le_trans (Nat.le_trans (Nat.le_trans (Nat.le_trans (Nat.le_trans Z0 E10.1) K11q.1) K25q.1) K40q.1) K43q.1) K44q.1) (by decide) (by decide) V44q (fun i => by simp only [own_gv, own_e, own_e1, if_neg hc130_12, if_neg hc143_26, if_neg hc156_41])
            exact htl
          · have hcap2 : (2 : Int32) < vcap := own_ltI (by have q := own_neI hN2; have q0 := own_toI hcap1; show (2 : Int) < _; have e1 : (2 : Int32).toInt = 2 := (by decide); have e2 : (1 : Int32).toInt = 1 := (by decide); omega)
            obtain ⟨cq47, kq47, q47a, q47b, q47c⟩ := isOf hZ rfl E40q
            obtain ⟨_, _, ⟨T47, L47, k47, n47⟩, -, X47, ⟨Lc47, hQ47, l47, y47, z47⟩, st47⟩ := X40.virtualBack hx (y := (⟨"com/example/libqlm/libqlm/Postings", "add", "(II)V"⟩ : MethodName)) (z := (⟨"com/example/libqlm/libqlm/Postings", "add", "(II)V"⟩ : MethodName)) hown (mvT hZ (hw _ (List.mem_of_getElem? (i := 28) rfl))) (mvT hZ (hw _ (List.mem_of_getElem? (i := 29) rfl))) (notFace_of_selects (args := #[]) (mvT hZ (hw _ (List.mem_of_getElem? (i := 31) rfl)))) (mvT hZ (hw _ (List.mem_of_getElem? (i := 31) rfl))) (mvT hZ (hw _ (List.mem_of_getElem? (i := 30) rfl))) (by decide) (backOf (W := 0) (rm5_2 l Z a0 hw [] b10 vd2 p5 d11 f11 kd11 kf11 vcap (((0 : Int64) + (p3.toInt64)) + (p4.toInt64)) vd0 vd1 p3 p4 T40.heap n0 (Nat.le_trans (Nat.le_trans (Nat.le_trans (Nat.le_trans Z0 E10.1) K11q.1) K25q.1) K40q.1) E40q g_b10 g_d11 g_f11 F40_s F40_d F40_f F40_c V40_d V40_f ne_b10_d11 ne_b10_f11 ne11_df hcap2) hZ (hw _ (List.mem_of_getElem? (i := 32) rfl)) (hw _ (List.mem_of_getElem? (i := 3) rfl)) (by decide) (by decide)) q47a q47c (g := (mkF m 165 #[.val (.int p1), .val (.int p2), .val (.int p3), .val (.int p4), .val (.int p5), .val (.int p6), .val (.int vdc), .val (.int vd0), .val (.int vd1), .val (.int vd2), .val (.int z1), .val (.int z4), .val (.int z7), .val (.int vcap), .val (.ref b10), .unset] [(.int p5), (.int vd2), (.ref b10)])) rfl (by rw [hml]; rfl) (Steps.refl _) (argsL := [(.int vd2), (.int p5)]) (rest := []) (lenOf own_pd3 rfl) rfl (by show 2 * 0 + _ ≤ _; exact Nat.le_of_eq rfl) (hb hby at_165) (fun _ _ => ⟨rfl, rfl, (by decide : 3 + 0 ≤ _), (by decide : 13 + 0 ≤ _)⟩)
            dsimp only [Pt.U, Pt.locs, Pt.cells, Pt.slots] at X47 l47 y47 z47 st47 hQ47
            subst l47 y47 z47
            obtain ⟨rfl, N47q, K47q, E47q, F47_s, F47_d, F47_f, F47_c, V47_d, V47_f⟩ := hQ47
            have N47 := Fr.app N40 N47q
            refine own_go (B := T47.setTop (mkF m 168 #[.val (.int p1), .val (.int p2), .val (.int p3), .val (.int p4), .val (.int p5), .val (.int p6), .val (.int vdc), .val (.int vd0), .val (.int vd1), .val (.int vd2), .val (.int z1), .val (.int z4), .val (.int z7), .val (.int vcap), .val (.ref b10), .unset] [])) (fun t k => st47.trans k) ?_
            refine own_go (B := T47.setTop (mkF m 172 #[.val (.int p1), .val (.int p2), .val (.int p3), .val (.int p4), .val (.int p5), .val (.int p6), .val (.int vdc), .val (.int vd0), .val (.int vd1), .val (.int vd2), .val (.int z1), .val (.int z4), .val (.int z7), .val (.int vcap), .val (.ref b10), .unset] [(.int vdc), (.ref b10)])) (fun t k => ?_) ?_
            · show Steps p.tables e below (T47.setTop (mkF m 168 #[.val (.int p1), .val (.int p2), .val (.int p3), .val (.int p4), .val (.int p5), .val (.int p6), .val (.int vdc), .val (.int vd0), .val (.int vd1), .val (.int vd2), .val (.int z1), .val (.int z4), .val (.int z7), .val (.int vcap), .val (.ref b10), .unset] [])) _
              refine XS.aload X47.here hx rfl (hb hby at_168) rfl rfl ?_
              show Steps p.tables e below (T47.setTop (mkF m 170 #[.val (.int p1), .val (.int p2), .val (.int p3), .val (.int p4), .val (.int p5), .val (.int p6), .val (.int vdc), .val (.int vd0), .val (.int vd1), .val (.int vd2), .val (.int z1), .val (.int z4), .val (.int z7), .val (.int vcap), .val (.ref b10), .unset] [(.ref b10)])) _
              refine XS.iload X47.here hx rfl (hb hby at_170) rfl ?_
              exact k
            obtain ⟨cq48, kq48, q48a, q48b, q48c⟩ := isOf hZ rfl E47q
            obtain ⟨_, _, ⟨T48, L48, k48, n48⟩, -, X48, ⟨Lc48, hQ48, l48, y48, z48⟩, st48⟩ := X47.virtualBack hx (y := (⟨"com/example/libqlm/libqlm/Postings", "frequenciesByDocument", "(I)[I"⟩ : MethodName)) (z := (⟨"com/example/libqlm/libqlm/Postings", "frequenciesByDocument", "(I)[I"⟩ : MethodName)) hown (mvT hZ (hw _ (List.mem_of_getElem? (i := 17) rfl))) (mvT hZ (hw _ (List.mem_of_getElem? (i := 18) rfl))) (notFace_of_selects (args := #[]) (mvT hZ (hw _ (List.mem_of_getElem? (i := 20) rfl)))) (mvT hZ (hw _ (List.mem_of_getElem? (i := 20) rfl))) (mvT hZ (hw _ (List.mem_of_getElem? (i := 19) rfl))) (by decide) (backOf (W := 0) (rm3_3 l Z a0 hw [] b10 vdc d11 f11 kd11 kf11 vcap vd0 vd1 vd2 p3 p4 p5 T47.heap n0 (Nat.le_trans (Nat.le_trans (Nat.le_trans (Nat.le_trans (Nat.le_trans Z0 E10.1) K11q.1) K25q.1) K40q.1) K47q.1) F47_s F47_d F47_f V47_d V47_f hdcN hcap0 hcap1 hcap2 ⟨hnn_vd0, hlt_vd0⟩ ⟨hnn_vd1, hlt_vd1⟩ ⟨hnn_vd2, hlt_vd2⟩) hZ (hw _ (List.mem_of_getElem? (i := 21) rfl)) (hw _ (List.mem_of_getElem? (i := 3) rfl)) (by decide) (by decide)) q48a q48c (g := (mkF m 172 #[.val (.int p1), .val (.int p2), .val (.int p3), .val (.int p4), .val (.int p5), .val (.int p6), .val (.int vdc), .val (.int vd0), .val (.int vd1), .val (.int vd2), .val (.int z1), .val (.int z4), .val (.int z7), .val (.int vcap), .val (.ref b10), .unset] [(.int vdc), (.ref b10)])) rfl (by rw [hml]; rfl) (Steps.refl _) (argsL := [(.int vdc)]) (rest := []) (lenOf own_pd4 rfl) rfl (by show 2 * 0 + _ ≤ _; exact Nat.le_of_eq rfl) (hb hby at_172) (fun _ _ => ⟨rfl, rfl, (by decide : 3 + 1 ≤ _), (by decide : 13 + 8 ≤ _)⟩)
            dsimp only [Pt.U, Pt.locs, Pt.cells, Pt.slots] at X48 l48 y48 z48 st48 hQ48
            subst l48 y48 z48
            obtain ⟨r48, kr48, rfl, N48q, K48q, V48q⟩ := hQ48
            have N48 := Fr.app N47 N48q
            have c48_E_b10 := E47q.keep K48q
            have c48_F_b10_size := F47_s.keep K48q (List.not_mem_nil)
            have c48_F_b10_documents := F47_d.keep K48q (List.not_mem_nil)
            have c48_F_b10_frequencies := F47_f.keep K48q (List.not_mem_nil)
            have c48_F_b10_collectionFrequency := F47_c.keep K48q (List.not_mem_nil)
            have c48_V_d11 := V47_d.keep K48q (List.not_mem_nil)
            have c48_V_f11 := V47_f.keep K48q (List.not_mem_nil)
            refine own_go (B := T48.setTop (mkF m 175 #[.val (.int p1), .val (.int p2), .val (.int p3), .val (.int p4), .val (.int p5), .val (.int p6), .val (.int vdc), .val (.int vd0), .val (.int vd1), .val (.int vd2), .val (.int z1), .val (.int z4), .val (.int z7), .val (.int vcap), .val (.ref b10), .unset] [(.ref r48)])) (fun t k => st48.trans k) ?_
            refine own_go (B := T48.setTop (mkF m 184 #[.val (.int p1), .val (.int p2), .val (.int p3), .val (.int p4), .val (.int p5), .val (.int p6), .val (.int vdc), .val (.int vd0), .val (.int vd1), .val (.int vd2), .val (.int z1), .val (.int z4), .val (.int z7), .val (.int vcap), .val (.ref b10), .val (.ref r48)] [(.ref r48)])) (fun t k => ?_) ?_
            · show Steps p.tables e below (T48.setTop (mkF m 175 #[.val (.int p1), .val (.int p2), .val (.int p3), .val (.int p4), .val (.int p5), .val (.int p6), .val (.int vdc), .val (.int vd0), .val (.int vd1), .val (.int vd2), .val (.int z1), .val (.int z4), .val (.int z7), .val (.int vcap), .val (.ref b10), .unset] [(.ref r48)])) _
              refine XS.astore X48.here hx rfl (hb hby at_175) rfl rfl (l' := #[.val (.int p1), .val (.int p2), .val (.int p3), .val (.int p4), .val (.int p5), .val (.int p6), .val (.int vdc), .val (.int vd0), .val (.int vd1), .val (.int vd2), .val (.int z1), .val (.int z4), .val (.int z7), .val (.int vcap), .val (.ref b10), .val (.ref r48)]) rfl ?_
              show Steps p.tables e below (T48.setTop (mkF m 177 #[.val (.int p1), .val (.int p2), .val (.int p3), .val (.int p4), .val (.int p5), .val (.int p6), .val (.int vdc), .val (.int vd0), .val (.int vd1), .val (.int vd2), .val (.int z1), .val (.int z4), .val (.int z7), .val (.int vcap), .val (.ref b10), .val (.ref r48)] [])) _
              refine XS.aload X48.here hx rfl (hb hby at_177) rfl rfl ?_
              show Steps p.tables e below (T48.setTop (mkF m 179 #[.val (.int p1), .val (.int p2), .val (.int p3), .val (.int p4), .val (.int p5), .val (.int p6), .val (.int vdc), .val (.int vd0), .val (.int vd1), .val (.int vd2), .val (.int z1), .val (.int z4), .val (.int z7), .val (.int vcap), .val (.ref b10), .val (.ref r48)] [(.ref r48)])) _
              refine XS.ifnullNo X48.here hx rfl (hb hby at_179) rfl ?_
              show Steps p.tables e below (T48.setTop (mkF m 182 #[.val (.int p1), .val (.int p2), .val (.int p3), .val (.int p4), .val (.int p5), .val (.int p6), .val (.int vdc), .val (.int vd0), .val (.int vd1), .val (.int vd2), .val (.int z1), .val (.int z4), .val (.int z7), .val (.int vcap), .val (.ref b10), .val (.ref r48)] [])) _
              refine XS.aload X48.here hx rfl (hb hby at_182) rfl rfl ?_
              exact k
            obtain ⟨cl_r, Ar_r, q_r, S_r, M_r, H_r, G_r⟩ := id V48q
            refine own_go (B := T48.setTop (mkF m 192 #[.val (.int p1), .val (.int p2), .val (.int p3), .val (.int p4), .val (.int p5), .val (.int p6), .val (.int vdc), .val (.int vd0), .val (.int vd1), .val (.int vd2), .val (.int z1), .val (.int z4), .val (.int z7), .val (.int vcap), .val (.ref b10), .val (.ref r48)] [])) (fun t k => ?_) ?_
            · show Steps p.tables e below (T48.setTop (mkF m 184 #[.val (.int p1), .val (.int p2), .val (.int p3), .val (.int p4), .val (.int p5), .val (.int p6), .val (.int vdc), .val (.int vd0), .val (.int vd1), .val (.int vd2), .val (.int z1), .val (.int z4), .val (.int z7), .val (.int vcap), .val (.ref b10), .val (.ref r48)] [(.ref r48)])) _
              refine X48.arraylength hx Ar_r.1 (State.isArrayOf_alike hZ.alike Ar_r.2.1) (g := (mkF m 184 #[.val (.int p1), .val (.int p2), .val (.int p3), .val (.int p4), .val (.int p5), .val (.int p6), .val (.int vdc), .val (.int vd0), .val (.int vd1), .val (.int vd2), .val (.int z1), .val (.int z4), .val (.int z7), .val (.int vcap), .val (.ref b10), .val (.ref r48)] [(.ref r48)])) rfl rfl (hb hby at_184) _ ?_
              rw [len_of S_r M_r]
              show Steps p.tables e below (T48.setTop (mkF m 185 #[.val (.int p1), .val (.int p2), .val (.int p3), .val (.int p4), .val (.int p5), .val (.int p6), .val (.int vdc), .val (.int vd0), .val (.int vd1), .val (.int vd2), .val (.int z1), .val (.int z4), .val (.int z7), .val (.int vcap), .val (.ref b10), .val (.ref r48)] [(.int vdc)])) _
              refine XS.iload X48.here hx rfl (hb hby at_185) rfl ?_
              show Steps p.tables e below (T48.setTop (mkF m 187 #[.val (.int p1), .val (.int p2), .val (.int p3), .val (.int p4), .val (.int p5), .val (.int p6), .val (.int vdc), .val (.int vd0), .val (.int vd1), .val (.int vd2), .val (.int z1), .val (.int z4), .val (.int z7), .val (.int vcap), .val (.ref b10), .val (.ref r48)] [(.int vdc), (.int vdc)])) _
              refine XS.icmpYes X48.here hx rfl (pc0 := 187) (pc' := 192) rfl (hb hby at_187) rfl (teq rfl).1 (by decide) (by decide) ?_
              exact k
            have htl := own_tail p1 p2 p3 p4 p5 p6 vdc vd0 vd1 vd2 z1 z4 z7 vcap b10 r48 kr48 [(vd2, p5), (vd1, p4), (vd0, p3)] X48 hx hZ hw hby hml hown Bd rfl N48 (Nat.le_trans (Nat.le_trans (Nat.le_trans (Nat.le_trans (Nat.le_trans (Nat.le_trans Z0 E10.1) K11q.1) K25q.1) K40q.1) K47q.1) K48q.1) (by decide) (by decide) V48q (fun i => by simp only [own_gv, own_e, own_e1, if_neg hc130_12, if_neg hc143_26, if_neg hc156_41])
            exact htl
set_option maxRecDepth 65536 in
set_option maxHeartbeats 40000000 in
theorem comes_1 {Post : Tables → Env → Array Value → State → Outcome → State → Prop} (hpost : ∀ tb e args s v u, (limb_1_1.after args s (.returned v) u = true ∧ limb_1_2.after args s (.returned v) u = true ∧ True) → FrameEnd s (.returned v) u (Jvm.fieldLocs frame_1_writes args s ++ Jvm.arrayLocs frame_1_arrays args s ++ Jvm.staticLocs frame_1_statics s) 24 128 → Post tb e args s (.returned v) u) :
    ArmFor flags0 classFile x code maxLocals ret World_1 tables_1 room_1 Calls_1 rest_1 Pre_1 Post := by
  intro l hfl _ _ p e ha hc hk s m args below hf hA hF happ hP
  obtain ⟨hcalls, hrest, hpre⟩ := hP
  obtain ⟨-, -, -, hnamed, -, -, -, hat⟩ := (Spec.applies_iff hf).mp happ
  obtain ⟨hg, hn⟩ := and_e (Cond.before_iff.mp (show (Jvm.Cond.and given_1 narrow_1).before args s = true from hpre))
  obtain ⟨gc, ga0⟩ := and_e hg
  obtain ⟨ha0, ga1⟩ := and_e ga0
  obtain ⟨ha1, ga2⟩ := and_e ga1
  obtain ⟨ha2, ga3⟩ := and_e ga2
  obtain ⟨ha3, ga4⟩ := and_e ga3
  obtain ⟨ha4, ga5⟩ := and_e ga4
  obtain ⟨w0, w1, w2, w3, w4, w5, rfl⟩ : ∃ w0 w1 w2 w3 w4 w5 : Value, args = #[w0, w1, w2, w3, w4, w5] := by
    have hs : args.size = 6 := by simpa [Cond.value, given_1] using gc
    obtain ⟨L⟩ := args
    match L, hs with
    | [w0, w1, w2, w3, w4, w5], _ => exact ⟨w0, w1, w2, w3, w4, w5, rfl⟩
  have hw := fun d (hd : d ∈ tables_1) => atoms_spec (ws := Jvm.Cond.code x code maxLocals ret :: tables_1) hat d (List.mem_cons_of_mem _ hd)
  have hfit : Fit s := fun {y c} hc i hi => by
    obtain ⟨ha, rfl⟩ := Array.getElem?_eq_some_iff.mp hc
    have q := List.all_eq_true.mp ((Array.all_eq_true_iff_forall_mem.mp hF) _ (Array.getElem_mem ha)) i (List.mem_range.mpr hi)
    simpa [Array.getElem?_eq_getElem hi] using q
  obtain ⟨i0, ei0⟩ := is_v ha0
  obtain rfl : w0 = (.int i0) := Option.some.inj ei0
  obtain ⟨i1, ei1⟩ := is_v ha1
  obtain rfl : w1 = (.int i1) := Option.some.inj ei1
  obtain ⟨i2, ei2⟩ := is_v ha2
  obtain rfl : w2 = (.int i2) := Option.some.inj ei2
  obtain ⟨i3, ei3⟩ := is_v ha3
  obtain rfl : w3 = (.int i3) := Option.some.inj ei3
  obtain ⟨i4, ei4⟩ := is_v ha4
  obtain rfl : w4 = (.int i4) := Option.some.inj ei4
  obtain ⟨i5, ei5⟩ := is_v ga5
  obtain rfl : w5 = (.int i5) := Option.some.inj ei5
  obtain ⟨n, o, h1, h2, h3, _, L, rfl, ⟨rfl, N⟩, hq⟩ := rm0 l s _ hw tables_1 i0 i1 i2 i3 i4 i5 s.heap s.heap.size (Nat.le_refl _)  p e ha hc hk s m _ below hf ((Spec.applies_iff_loose hf).mp happ).1 ⟨rfl, State.Warmed39.refl s, rfl⟩ trivial
  refine ⟨n, _, h1, h2, h3, hpost _ _ _ _ _ _ ⟨Cond.after_iff.mpr rfl, Cond.after_iff.mpr (eq_i res_at (Term.int_eval (1)) rfl), trivial⟩ ⟨hq.1, hq.2.1, (hq.2.2.sift fun y hy => Or.inr (N y hy)).mono (by decide) (by decide)⟩⟩
theorem main_1_1 : Claimed_1_1 := comes_1 fun _ _ _ _ _ _ h hF => ⟨h.1, hF⟩
theorem main_1_2 : Claimed_1_2 := comes_1 fun _ _ _ _ _ _ h hF => ⟨h.2.1, hF⟩
end Jvm.Pilot.@@N@@
namespace Jvm.Pilot.@@N@@
open Jvm Jvm.ClassFile Sem Op Lib Jvm.Free Jvm.Stand Jvm.Pilot.@@N@@.Jvm.D
/-! MADE BY PROGRAM (witnessworld.py) out of the Statement's table words and the real class files: 12 classes; the members and pool entries that the words name. The judged class is class 1, her method 1. -/
namespace start1
open Jvm.ClassFile
def u (s : String) : CpInfo := .utf8 (stringToUtf16 s)
/-- a pool by its gaps: so many unusable entries, then the entry; so many at the end -/
def gap : Nat → List CpInfo → List CpInfo
  | 0, r => r
  | n + 1, r => .unusable :: gap n r
def poolList (es : List (Nat × CpInfo)) (last : Nat) : List CpInfo := es.foldr (fun e r => gap e.1 (e.2 :: r)) (gap last [])
def pool (es : List (Nat × CpInfo)) (last : Nat) : Array CpInfo := ⟨poolList es last⟩
def fileOf (pool : Array CpInfo) (this : Nat) (attrs : Array Attribute := #[]) (ms : Array MethodInfo := #[]) (fl : Nat := 33) (sup : Nat := 0) (ifs : Array Nat := #[]) (fds : Array FieldInfo := #[]) : ClassFile where
  minorVersion := 0
  majorVersion := 65
  constantPool := pool
  accessFlags := fl
  thisClass := this
  superClass := sup
  interfaces := ifs
  fields := fds
  methods := ms
  attributes := attrs
def plain (name : String) (sup : Option ClassId) : Class where
  name := name
  kind := .ordinary
  loader := none
  accessFlags := 33
  super := sup
  interfaces := #[]
  cf := none
  fields := #[]
  methods := #[]
  instanceTypes := #[]
  staticTypes := #[]
  resolved := #[]
  callSites := []
  init := .initialized
  statics := none
  mirror := none

def pool0 : Array CpInfo := pool [(5, u "<init>"), (0, u "()V"), (1, .class_ 10), (1, u "java/lang/Object")] 113

def k0c0 : Code := { maxStack := 0, maxLocals := 1, code := object_method_1_code, exceptionTable := #[], attributes := #[] }
def k0m0 : Method := { name := "<init>", desc := "()V", sig := { parameters := [], returnType := none }, accessFlags := 1, code := some k0c0 }
/-- java/lang/Object -/
def k0 : Class := { plain "java/lang/Object" none with
  accessFlags := 33
  interfaces := #[]
  cf := some (fileOf pool0 8 #[] #[{ accessFlags := 1, nameIndex := 5, descriptorIndex := 6, attributes := #[] }] 33 0 #[] #[])
  fields := #[]
  methods := #[k0m0]
  instanceTypes := #[]
  staticTypes := #[]
  resolved := Array.replicate 124 none
  statics := none }

def pool1 : Array CpInfo := pool [(2, .class_ 4), (1, u "java/lang/Object"), (0, u "<init>"), (0, u "()V"), (0, .integer 2147483647), (0, .class_ 9), (0, u "com/example/libqlm/libqlm/Postings"), (0, .methodref 8 11), (0, .nameAndType 5 12), (0, u "(II)V"), (0, .methodref 8 14), (0, .nameAndType 15 12), (0, u "add"), (0, .methodref 8 17), (0, .nameAndType 18 19), (0, u "frequenciesByDocument"), (0, u "(I)[I"), (0, .methodref 21 22), (0, .class_ 23), (0, .nameAndType 24 25), (0, u "com/example/libqlm/libqlm/PostingsFrequenciesByDocumentPinLaw"), (0, u "at"), (0, u "([IIIZIIZIIZII)Z"), (2, u "law"), (0, u "(IIIIII)Z")] 5

def k1m0 : Method := { name := "<init>", desc := "()V", sig := { parameters := [], returnType := none }, accessFlags := 1, code := none }
def k1c1 : Code := { maxStack := 12, maxLocals := 16, code := code, exceptionTable := #[], attributes := #[] }
def k1m1 : Method := { name := "law", desc := "(IIIIII)Z", sig := { parameters := [.int, .int, .int, .int, .int, .int], returnType := some .boolean }, accessFlags := 9, code := some k1c1 }
def k1c2 : Code := { maxStack := 2, maxLocals := 13, code := method_3_code, exceptionTable := #[], attributes := #[] }
def k1m2 : Method := { name := "at", desc := "([IIIZIIZIIZII)Z", sig := { parameters := [(.array .int), .int, .int, .boolean, .int, .int, .boolean, .int, .int, .boolean, .int, .int], returnType := some .boolean }, accessFlags := 10, code := some k1c2 }
/-- com/example/libqlm/libqlm/PostingsFrequenciesByDocumentPinLaw -/
def k1 : Class := { plain "com/example/libqlm/libqlm/PostingsFrequenciesByDocumentPinLaw" (some 0) with
  accessFlags := 49
  interfaces := #[]
  cf := some (fileOf pool1 21 #[] #[{ accessFlags := 1, nameIndex := 5, descriptorIndex := 6, attributes := #[] }, { accessFlags := 9, nameIndex := 28, descriptorIndex := 29, attributes := #[] }, { accessFlags := 10, nameIndex := 24, descriptorIndex := 25, attributes := #[] }] 49 2 #[] #[])
  fields := #[]
  methods := #[k1m0, k1m1, k1m2]
  instanceTypes := #[]
  staticTypes := #[]
  resolved := Array.replicate 35 none
  statics := none }

def pool2 : Array CpInfo := pool [(2, .class_ 4), (1, u "com/example/libqlm/libqlm/Postings"), (0, u "<init>"), (0, u "(II)V"), (0, .methodref 8 9), (0, .class_ 10), (0, .nameAndType 5 11), (0, u "java/lang/Object"), (0, u "()V"), (0, .fieldref 2 13), (0, .nameAndType 14 15), (0, u "term"), (0, u "I"), (0, .fieldref 2 17), (0, .nameAndType 18 19), (0, u "documents"), (0, u "[I"), (0, .fieldref 2 21), (0, .nameAndType 22 19), (0, u "frequencies"), (0, .fieldref 2 24), (0, .nameAndType 25 15), (0, u "size"), (0, .methodref 27 28), (0, .class_ 29), (0, .nameAndType 30 31), (0, u "java/util/Arrays"), (0, u "copyOf"), (0, u "([II)[I"), (0, .fieldref 2 33), (0, .nameAndType 34 35), (0, u "collectionFrequency"), (0, u "J"), (19, u "add"), (6, u "frequenciesByDocument"), (0, u "(I)[I")] 4

def k2c0 : Code := { maxStack := 2, maxLocals := 3, code := prog_92_method_2_code, exceptionTable := #[], attributes := #[] }
def k2m0 : Method := { name := "<init>", desc := "(II)V", sig := { parameters := [.int, .int], returnType := none }, accessFlags := 0, code := some k2c0 }
def k2c1 : Code := { maxStack := 5, maxLocals := 3, code := prog_92_method_4_code, exceptionTable := #[], attributes := #[] }
def k2m1 : Method := { name := "add", desc := "(II)V", sig := { parameters := [.int, .int], returnType := none }, accessFlags := 0, code := some k2c1 }
def k2c2 : Code := { maxStack := 4, maxLocals := 4, code := prog_92_method_11_code, exceptionTable := #[], attributes := #[] }
def k2m2 : Method := { name := "frequenciesByDocument", desc := "(I)[I", sig := { parameters := [.int], returnType := some (.array .int) }, accessFlags := 0, code := some k2c2 }
/-- com/example/libqlm/libqlm/Postings -/
def k2 : Class := { plain "com/example/libqlm/libqlm/Postings" (some 0) with
  accessFlags := 32
  interfaces := #[]
  cf := some (fileOf pool2 2 #[] #[{ accessFlags := 0, nameIndex := 5, descriptorIndex := 6, attributes := #[] }, { accessFlags := 0, nameIndex := 55, descriptorIndex := 6, attributes := #[] }, { accessFlags := 0, nameIndex := 62, descriptorIndex := 63, attributes := #[] }] 32 8 #[] #[{ accessFlags := 18, nameIndex := 14, descriptorIndex := 15, attributes := #[] }, { accessFlags := 2, nameIndex := 18, descriptorIndex := 19, attributes := #[] }, { accessFlags := 2, nameIndex := 22, descriptorIndex := 19, attributes := #[] }, { accessFlags := 2, nameIndex := 25, descriptorIndex := 15, attributes := #[] }, { accessFlags := 2, nameIndex := 34, descriptorIndex := 35, attributes := #[] }])
  fields := #[{ name := "term", type := .int, accessFlags := 18, slot := 0, constantValue := 0 }, { name := "documents", type := (.array .int), accessFlags := 2, slot := 1, constantValue := 0 }, { name := "frequencies", type := (.array .int), accessFlags := 2, slot := 2, constantValue := 0 }, { name := "size", type := .int, accessFlags := 2, slot := 3, constantValue := 0 }, { name := "collectionFrequency", type := .long, accessFlags := 2, slot := 4, constantValue := 0 }]
  methods := #[k2m0, k2m1, k2m2]
  instanceTypes := #[.int, (.array .int), (.array .int), .int, .long]
  staticTypes := #[]
  resolved := Array.replicate 68 none
  statics := none }

def pool3 : Array CpInfo := pool [(2, .class_ 4), (1, u "java/lang/Object"), (0, u "<init>"), (0, u "()V"), (7, .class_ 16), (1, u "java/util/Arrays"), (57, .class_ 76), (1, u "java/util/Arrays$NaturalOrder"), (36, .class_ 115), (1, u "java/util/Arrays$LegacyMergeSort"), (1, u "Z"), (32, .methodref 151 152), (0, .class_ 153), (0, .nameAndType 154 155), (0, u "java/lang/System"), (0, u "arraycopy"), (0, u "(Ljava/lang/Object;ILjava/lang/Object;II)V"), (146, u "copyOf"), (1, .methodref 305 306), (0, .class_ 307), (0, .nameAndType 308 309), (0, u "java/lang/Math"), (0, u "min"), (0, u "(II)I"), (65, .class_ 376), (0, u "java/util/Arrays$ArrayList"), (68, u "$assertionsDisabled"), (269, u "MIN_ARRAY_SORT_GRAN"), (0, u "I"), (2, u "INSERTIONSORT_THRESHOLD"), (151, u "([II)[I"), (103, .class_ 976), (0, u "java/util/Arrays$ArrayItr")] 52

def k3m0 : Method := { name := "<init>", desc := "()V", sig := { parameters := [], returnType := none }, accessFlags := 2, code := none }
def k3c1 : Code := { maxStack := 6, maxLocals := 3, code := jdk_65_method_123_code, exceptionTable := #[], attributes := #[] }
def k3m1 : Method := { name := "copyOf", desc := "([II)[I", sig := { parameters := [(.array .int), .int], returnType := some (.array .int) }, accessFlags := 9, code := some k3c1 }
/-- java/util/Arrays -/
def k3 : Class := { plain "java/util/Arrays" (some 0) with
  accessFlags := 49
  interfaces := #[]
  cf := some (fileOf pool3 14 #[.nestMembers #[975, 375, 113, 74]] #[{ accessFlags := 2, nameIndex := 5, descriptorIndex := 6, attributes := #[] }, { accessFlags := 9, nameIndex := 302, descriptorIndex := 871, attributes := #[] }] 49 2 #[] #[{ accessFlags := 26, nameIndex := 715, descriptorIndex := 716, attributes := #[] }, { accessFlags := 26, nameIndex := 719, descriptorIndex := 716, attributes := #[] }, { accessFlags := 4120, nameIndex := 445, descriptorIndex := 117, attributes := #[] }])
  fields := #[{ name := "MIN_ARRAY_SORT_GRAN", type := .int, accessFlags := 26, slot := 0, constantValue := 0 }, { name := "INSERTIONSORT_THRESHOLD", type := .int, accessFlags := 26, slot := 1, constantValue := 0 }, { name := "$assertionsDisabled", type := .boolean, accessFlags := 4120, slot := 2, constantValue := 0 }]
  methods := #[k3m0, k3m1]
  instanceTypes := #[]
  staticTypes := #[.int, .int, .boolean]
  resolved := Array.replicate 1029 none
  statics := none }

def pool4 : Array CpInfo := pool [(1, .class_ 2), (0, u "java/lang/Math"), (1, .class_ 6), (1, u "java/lang/Object"), (0, u "<init>"), (0, u "()V"), (89, .class_ 100), (1, u "java/lang/Math$RandomNumberGeneratorHolder"), (71, u "negativeZeroFloatBits"), (0, u "J"), (2, u "negativeZeroDoubleBits"), (24, u "min"), (43, u "$assertionsDisabled"), (0, u "Z"), (88, u "(II)I"), (2, u "twoToTheDoubleScaleDown"), (0, u "D"), (4, u "twoToTheDoubleScaleUp"), (9, u "E"), (3, u "PI"), (2, u "TAU"), (2, u "DEGREES_TO_RADIANS"), (0, u "RADIANS_TO_DEGREES")] 94

def k4m0 : Method := { name := "<init>", desc := "()V", sig := { parameters := [], returnType := none }, accessFlags := 2, code := none }
def k4c1 : Code := { maxStack := 2, maxLocals := 2, code := jdk_29_method_69_code, exceptionTable := #[], attributes := #[] }
def k4m1 : Method := { name := "min", desc := "(II)I", sig := { parameters := [.int, .int], returnType := some .int }, accessFlags := 9, code := some k4c1 }
/-- java/lang/Math -/
def k4 : Class := { plain "java/lang/Math" (some 0) with
  accessFlags := 49
  interfaces := #[]
  cf := some (fileOf pool4 1 #[.nestMembers #[98]] #[{ accessFlags := 2, nameIndex := 7, descriptorIndex := 8, attributes := #[] }, { accessFlags := 9, nameIndex := 201, descriptorIndex := 335, attributes := #[] }] 49 4 #[] #[{ accessFlags := 25, nameIndex := 354, descriptorIndex := 339, attributes := #[] }, { accessFlags := 25, nameIndex := 358, descriptorIndex := 339, attributes := #[] }, { accessFlags := 25, nameIndex := 361, descriptorIndex := 339, attributes := #[] }, { accessFlags := 26, nameIndex := 364, descriptorIndex := 339, attributes := #[] }, { accessFlags := 26, nameIndex := 365, descriptorIndex := 339, attributes := #[] }, { accessFlags := 26, nameIndex := 172, descriptorIndex := 173, attributes := #[] }, { accessFlags := 26, nameIndex := 176, descriptorIndex := 173, attributes := #[] }, { accessFlags := 8, nameIndex := 344, descriptorIndex := 339, attributes := #[] }, { accessFlags := 8, nameIndex := 338, descriptorIndex := 339, attributes := #[] }, { accessFlags := 4120, nameIndex := 245, descriptorIndex := 246, attributes := #[] }])
  fields := #[{ name := "E", type := .double, accessFlags := 25, slot := 0, constantValue := 0 }, { name := "PI", type := .double, accessFlags := 25, slot := 1, constantValue := 0 }, { name := "TAU", type := .double, accessFlags := 25, slot := 2, constantValue := 0 }, { name := "DEGREES_TO_RADIANS", type := .double, accessFlags := 26, slot := 3, constantValue := 0 }, { name := "RADIANS_TO_DEGREES", type := .double, accessFlags := 26, slot := 4, constantValue := 0 }, { name := "negativeZeroFloatBits", type := .long, accessFlags := 26, slot := 5, constantValue := 0 }, { name := "negativeZeroDoubleBits", type := .long, accessFlags := 26, slot := 6, constantValue := 0 }, { name := "twoToTheDoubleScaleUp", type := .double, accessFlags := 8, slot := 7, constantValue := 0 }, { name := "twoToTheDoubleScaleDown", type := .double, accessFlags := 8, slot := 8, constantValue := 0 }, { name := "$assertionsDisabled", type := .boolean, accessFlags := 4120, slot := 9, constantValue := 0 }]
  methods := #[k4m0, k4m1]
  instanceTypes := #[]
  staticTypes := #[.double, .double, .double, .double, .double, .long, .long, .double, .double, .boolean]
  resolved := Array.replicate 460 none
  statics := none }

def pool5 : Array CpInfo := pool [(2, .class_ 4), (1, u "java/lang/Object"), (0, u "<init>"), (0, u "()V"), (1, .class_ 10), (1, u "java/lang/System"), (0, u "allowSecurityManager"), (0, u "I"), (16, u "cons"), (0, u "Ljava/io/Console;"), (77, .class_ 110), (1, u "java/lang/System$CallersHolder"), (43, u "initialErrStream"), (0, u "Ljava/io/PrintStream;"), (19, u "security"), (0, u "Ljava/lang/SecurityManager;"), (31, .class_ 209), (0, u "java/lang/System$1"), (7, u "props"), (0, u "Ljava/util/Properties;"), (2, u "lineSeparator"), (0, u "Ljava/lang/String;"), (96, .class_ 321), (1, u "java/lang/System$LoggerFinder"), (5, .class_ 328), (0, u "java/lang/System$Logger"), (67, u "err"), (2, u "out"), (91, u "notSupportedJnuEncoding"), (15, u "in"), (17, u "initialIn"), (0, u "Ljava/io/InputStream;"), (35, u "bootLayer"), (0, u "Ljava/lang/ModuleLayer;"), (99, .class_ 664), (0, u "java/lang/System$2"), (9, u "NEVER"), (2, u "MAYBE"), (49, u "arraycopy"), (0, u "(Ljava/lang/Object;ILjava/lang/Object;II)V"), (72, .class_ 802), (0, u "java/lang/System$Logger$Level")] 31

def k5m0 : Method := { name := "<init>", desc := "()V", sig := { parameters := [], returnType := none }, accessFlags := 2, code := none }
def k5m1 : Method := { name := "arraycopy", desc := "(Ljava/lang/Object;ILjava/lang/Object;II)V", sig := { parameters := [(.object "java/lang/Object"), .int, (.object "java/lang/Object"), .int, .int], returnType := none }, accessFlags := 265, code := none }
/-- java/lang/System -/
def k5 : Class := { plain "java/lang/System" (some 0) with
  accessFlags := 49
  interfaces := #[]
  cf := some (fileOf pool5 8 #[.nestMembers #[319, 327, 801, 108, 663, 208]] #[{ accessFlags := 2, nameIndex := 5, descriptorIndex := 6, attributes := #[] }, { accessFlags := 265, nameIndex := 727, descriptorIndex := 728, attributes := #[] }] 49 2 #[] #[{ accessFlags := 25, nameIndex := 507, descriptorIndex := 526, attributes := #[] }, { accessFlags := 25, nameIndex := 399, descriptorIndex := 155, attributes := #[] }, { accessFlags := 25, nameIndex := 396, descriptorIndex := 155, attributes := #[] }, { accessFlags := 10, nameIndex := 525, descriptorIndex := 526, attributes := #[] }, { accessFlags := 26, nameIndex := 674, descriptorIndex := 12, attributes := #[] }, { accessFlags := 26, nameIndex := 677, descriptorIndex := 12, attributes := #[] }, { accessFlags := 10, nameIndex := 11, descriptorIndex := 12, attributes := #[] }, { accessFlags := 74, nameIndex := 175, descriptorIndex := 176, attributes := #[] }, { accessFlags := 10, nameIndex := 491, descriptorIndex := 222, attributes := #[] }, { accessFlags := 74, nameIndex := 29, descriptorIndex := 30, attributes := #[] }, { accessFlags := 74, nameIndex := 154, descriptorIndex := 155, attributes := #[] }, { accessFlags := 10, nameIndex := 217, descriptorIndex := 218, attributes := #[] }, { accessFlags := 10, nameIndex := 221, descriptorIndex := 222, attributes := #[] }, { accessFlags := 8, nameIndex := 562, descriptorIndex := 563, attributes := #[] }])
  fields := #[{ name := "in", type := (.object "java/io/InputStream"), accessFlags := 25, slot := 0, constantValue := 0 }, { name := "out", type := (.object "java/io/PrintStream"), accessFlags := 25, slot := 1, constantValue := 0 }, { name := "err", type := (.object "java/io/PrintStream"), accessFlags := 25, slot := 2, constantValue := 0 }, { name := "initialIn", type := (.object "java/io/InputStream"), accessFlags := 10, slot := 3, constantValue := 0 }, { name := "NEVER", type := .int, accessFlags := 26, slot := 4, constantValue := 0 }, { name := "MAYBE", type := .int, accessFlags := 26, slot := 5, constantValue := 0 }, { name := "allowSecurityManager", type := .int, accessFlags := 10, slot := 6, constantValue := 0 }, { name := "security", type := (.object "java/lang/SecurityManager"), accessFlags := 74, slot := 7, constantValue := 0 }, { name := "notSupportedJnuEncoding", type := (.object "java/lang/String"), accessFlags := 10, slot := 8, constantValue := 0 }, { name := "cons", type := (.object "java/io/Console"), accessFlags := 74, slot := 9, constantValue := 0 }, { name := "initialErrStream", type := (.object "java/io/PrintStream"), accessFlags := 74, slot := 10, constantValue := 0 }, { name := "props", type := (.object "java/util/Properties"), accessFlags := 10, slot := 11, constantValue := 0 }, { name := "lineSeparator", type := (.object "java/lang/String"), accessFlags := 10, slot := 12, constantValue := 0 }, { name := "bootLayer", type := (.object "java/lang/ModuleLayer"), accessFlags := 8, slot := 13, constantValue := 0 }]
  methods := #[k5m0, k5m1]
  instanceTypes := #[]
  staticTypes := #[(.object "java/io/InputStream"), (.object "java/io/PrintStream"), (.object "java/io/PrintStream"), (.object "java/io/InputStream"), .int, .int, .int, (.object "java/lang/SecurityManager"), (.object "java/lang/String"), (.object "java/io/Console"), (.object "java/io/PrintStream"), (.object "java/util/Properties"), (.object "java/lang/String"), (.object "java/lang/ModuleLayer")]
  resolved := Array.replicate 834 none
  statics := none }

def pool6 : Array CpInfo := pool [(1, u "java/lang/Cloneable"), (0, .class_ 1), (0, u "java/lang/Object"), (0, .class_ 3)] 3

/-- java/lang/Cloneable -/
def k6 : Class := { plain "java/lang/Cloneable" (some 0) with
  accessFlags := 1537
  interfaces := #[]
  cf := some (fileOf pool6 2 #[] #[] 1537 4 #[] #[])
  fields := #[]
  methods := #[]
  instanceTypes := #[]
  staticTypes := #[]
  resolved := Array.replicate 8 none
  statics := none }

def pool7 : Array CpInfo := pool [(1, u "java/io/Serializable"), (0, .class_ 1), (0, u "java/lang/Object"), (0, .class_ 3)] 3

/-- java/io/Serializable -/
def k7 : Class := { plain "java/io/Serializable" (some 0) with
  accessFlags := 1537
  interfaces := #[]
  cf := some (fileOf pool7 2 #[] #[] 1537 4 #[] #[])
  fields := #[]
  methods := #[]
  instanceTypes := #[]
  staticTypes := #[]
  resolved := Array.replicate 8 none
  statics := none }

/-- the primitive byte -/
def k8 : Class := { plain "byte" none with kind := .primitive 'B', accessFlags := 0x411 }
/-- [B -/
def k9 : Class := { plain "[B" (some 0) with kind := .array 8 .byte, interfaces := #[6, 7], accessFlags := 1041 }

/-- the primitive int -/
def k10 : Class := { plain "int" none with kind := .primitive 'I', accessFlags := 0x411 }
/-- [I -/
def k11 : Class := { plain "[I" (some 0) with kind := .array 10 .int, interfaces := #[6, 7], accessFlags := 1041 }

def heap : Heap := #[]
def classes : Array Class := #[k0, k1, k2, k3, k4, k5, k6, k7, k8, k9, k10, k11]
def interned : List (Array UInt16 × Addr) := []
def slotsUsed : Nat := 0
def theMethod : MethodId := ⟨1, 1⟩
def args0 : Array Value := #[.int 1, .int 2, .int 3, .int 4, .int 5, .int 6]
def aboutOver (below : List Frame) : State where
  vm := { classes := classes, interned := interned.toArray }
  heap := heap
  slotsUsed := slotsUsed
  threads := #[{ frames := .invoking theMethod args0 :: below }]
def below0 : List Frame := [.native { method := ⟨0, 0⟩, args := #[] }]
def about1 : State := aboutOver below0
def p0 : Program := .bare "" "" ""
def e0 : Env := launch0.env 0 0 0
theorem w_frames : about1.frames = Frame.invoking theMethod args0 :: below0 := rfl
set_option maxRecDepth 65536 in
theorem w_args : argsFit about1.vm theMethod args0 = true := by decide +kernel
set_option maxRecDepth 65536 in
theorem w_heap : heapFits about1 = true := by decide +kernel
set_option maxRecDepth 65536 in
theorem w_runnable : about1.curStatus? = some .runnable := by decide +kernel
set_option maxRecDepth 65536 in
theorem w_alone : about1.alone = true := by decide +kernel
set_option maxRecDepth 65536 in
theorem w_named : about1.methodNamed? x = some theMethod := by decide +kernel
set_option maxRecDepth 65536 in
theorem w_hears : about1.hears theMethod below0 = true := by decide +kernel
set_option maxRecDepth 65536 in
theorem w_ripe : about1.ripe theMethod args0 below0 = true := by decide +kernel
theorem w_running : about1.status = .running := rfl
set_option maxRecDepth 65536 in
theorem w_room : about1.hasRoom e0.platform room_1 = true :=
  launch0.hasRoom_least _ room_1 (by decide +kernel) (by decide +kernel) (by decide +kernel) (by decide +kernel) (by decide +kernel) (by decide +kernel)
theorem allAtoms_all (ts : List Jvm.Cond) (a : Array Jvm.Value) (st : Jvm.State) : (allAtoms ts).before a st = ts.all (fun c => c.before a st) := by
  induction ts with
  | nil => rfl
  | cons c t ih =>
    show (Jvm.Cond.and c (allAtoms t)).before a st = _
    rw [Jvm.Cond.before_and, ih, List.all_cons]
def words1 : List Jvm.Cond := Jvm.Cond.code x code maxLocals ret :: tables_1
/-- a 'code' word, met by the world's own term for the bytes: nothing is compared byte by byte -/
theorem code_word {y : MethodName} {bytes : ByteArray} {mx : Nat} {rt : Option FieldType} {a : Array Value} {s : State} {m : MethodId} {meth : Method} {c : Code} (h1 : s.methodNamed? y = some m) (h2 : s.vm.method? m = some meth) (h3 : meth.code = some c) (h4 : c.code = bytes)
    (h5 : (c.maxLocals == mx && c.exceptionTable.isEmpty && decide (c.maxStack ≤ mostOperands) && decide (meth.sig.returnType = rt) && !meth.locks && decide (parseMethodDescriptor y.desc = some meth.sig)) = true) : (Jvm.Cond.code y bytes mx rt).before a s = true := by
  simp only [Bool.and_eq_true, beq_iff_eq, Bool.not_eq_true', decide_eq_true_eq] at h5
  obtain ⟨⟨⟨⟨⟨g1, g2⟩, g3⟩, g4⟩, g5⟩, g6⟩ := h5
  simp [Cond.before, Cond.holds, Cond.value, h1, h2, h3, h4, g1, g2, g3, g4, g5, g6]
def isCode : Jvm.Cond → Bool
  | .code _ _ _ _ => true
  | _ => false
theorem all_split {L : List Jvm.Cond} {P : Jvm.Cond → Bool} (h1 : L.all (fun c => isCode c || P c) = true) (h2 : ∀ c ∈ L.filter isCode, P c = true) : L.all P = true := by
  refine List.all_eq_true.mpr fun c hc => ?_
  have h := List.all_eq_true.mp h1 c hc
  rcases Bool.eq_false_or_eq_true (isCode c) with hi | hi
  · exact h2 c (List.mem_filter.mpr ⟨hc, hi⟩)
  · simpa [hi] using h
set_option maxRecDepth 65536 in
theorem w_c0 : (Jvm.Cond.code x code maxLocals ret).before args0 about1 = true := code_word (m := ⟨1, 1⟩) (meth := k1m1) (c := k1c1) (by decide +kernel) rfl rfl rfl (by decide +kernel)
set_option maxRecDepth 65536 in
theorem w_c1 : (Jvm.Cond.code ({ cls := "com/example/libqlm/libqlm/Postings", name := "<init>", desc := "(II)V" } : Jvm.MethodName) prog_92_method_2_code (3 : Nat) (Option.none : Option Jvm.ClassFile.FieldType)).before args0 about1 = true := code_word (m := ⟨2, 0⟩) (meth := k2m0) (c := k2c0) (by decide +kernel) rfl rfl rfl (by decide +kernel)
set_option maxRecDepth 65536 in
theorem w_c2 : (Jvm.Cond.code ({ cls := "java/lang/Object", name := "<init>", desc := "()V" } : Jvm.MethodName) object_method_1_code (1 : Nat) (Option.none : Option Jvm.ClassFile.FieldType)).before args0 about1 = true := code_word (m := ⟨0, 0⟩) (meth := k0m0) (c := k0c0) (by decide +kernel) rfl rfl rfl (by decide +kernel)
set_option maxRecDepth 65536 in
theorem w_c3 : (Jvm.Cond.code ({ cls := "com/example/libqlm/libqlm/Postings", name := "frequenciesByDocument", desc := "(I)[I" } : Jvm.MethodName) prog_92_method_11_code (4 : Nat) (Option.some (Jvm.ClassFile.FieldType.array Jvm.ClassFile.FieldType.int))).before args0 about1 = true := code_word (m := ⟨2, 2⟩) (meth := k2m2) (c := k2c2) (by decide +kernel) rfl rfl rfl (by decide +kernel)
set_option maxRecDepth 65536 in
theorem w_c4 : (Jvm.Cond.code ({ cls := "com/example/libqlm/libqlm/PostingsFrequenciesByDocumentPinLaw", name := "at", desc := "([IIIZIIZIIZII)Z" } : Jvm.MethodName) method_3_code (13 : Nat) (Option.some Jvm.ClassFile.FieldType.boolean)).before args0 about1 = true := code_word (m := ⟨1, 2⟩) (meth := k1m2) (c := k1c2) (by decide +kernel) rfl rfl rfl (by decide +kernel)
set_option maxRecDepth 65536 in
theorem w_c5 : (Jvm.Cond.code ({ cls := "com/example/libqlm/libqlm/Postings", name := "add", desc := "(II)V" } : Jvm.MethodName) prog_92_method_4_code (3 : Nat) (Option.none : Option Jvm.ClassFile.FieldType)).before args0 about1 = true := code_word (m := ⟨2, 1⟩) (meth := k2m1) (c := k2c1) (by decide +kernel) rfl rfl rfl (by decide +kernel)
set_option maxRecDepth 65536 in
theorem w_c6 : (Jvm.Cond.code ({ cls := "java/util/Arrays", name := "copyOf", desc := "([II)[I" } : Jvm.MethodName) jdk_65_method_123_code (3 : Nat) (Option.some (Jvm.ClassFile.FieldType.array Jvm.ClassFile.FieldType.int))).before args0 about1 = true := code_word (m := ⟨3, 1⟩) (meth := k3m1) (c := k3c1) (by decide +kernel) rfl rfl rfl (by decide +kernel)
set_option maxRecDepth 65536 in
theorem w_c7 : (Jvm.Cond.code ({ cls := "java/lang/Math", name := "min", desc := "(II)I" } : Jvm.MethodName) jdk_29_method_69_code (2 : Nat) (Option.some Jvm.ClassFile.FieldType.int)).before args0 about1 = true := code_word (m := ⟨4, 1⟩) (meth := k4m1) (c := k4c1) (by decide +kernel) rfl rfl rfl (by decide +kernel)
def codes1 : List Jvm.Cond := [Jvm.Cond.code x code maxLocals ret, Jvm.Cond.code ({ cls := "com/example/libqlm/libqlm/Postings", name := "<init>", desc := "(II)V" } : Jvm.MethodName) prog_92_method_2_code (3 : Nat) (Option.none : Option Jvm.ClassFile.FieldType), Jvm.Cond.code ({ cls := "java/lang/Object", name := "<init>", desc := "()V" } : Jvm.MethodName) object_method_1_code (1 : Nat) (Option.none : Option Jvm.ClassFile.FieldType), Jvm.Cond.code ({ cls := "com/example/libqlm/libqlm/Postings", name := "frequenciesByDocument", desc := "(I)[I" } : Jvm.MethodName) prog_92_method_11_code (4 : Nat) (Option.some (Jvm.ClassFile.FieldType.array Jvm.ClassFile.FieldType.int)), Jvm.Cond.code ({ cls := "com/example/libqlm/libqlm/PostingsFrequenciesByDocumentPinLaw", name := "at", desc := "([IIIZIIZIIZII)Z" } : Jvm.MethodName) method_3_code (13 : Nat) (Option.some Jvm.ClassFile.FieldType.boolean), Jvm.Cond.code ({ cls := "com/example/libqlm/libqlm/Postings", name := "add", desc := "(II)V" } : Jvm.MethodName) prog_92_method_4_code (3 : Nat) (Option.none : Option Jvm.ClassFile.FieldType), Jvm.Cond.code ({ cls := "java/util/Arrays", name := "copyOf", desc := "([II)[I" } : Jvm.MethodName) jdk_65_method_123_code (3 : Nat) (Option.some (Jvm.ClassFile.FieldType.array Jvm.ClassFile.FieldType.int)), Jvm.Cond.code ({ cls := "java/lang/Math", name := "min", desc := "(II)I" } : Jvm.MethodName) jdk_29_method_69_code (2 : Nat) (Option.some Jvm.ClassFile.FieldType.int)]
set_option maxRecDepth 65536 in
theorem codes_eq : words1.filter isCode = codes1 := rfl
theorem w_codes : ∀ c ∈ words1.filter isCode, c.before args0 about1 = true := by
  rw [codes_eq]
  intro c hc
  simp only [codes1, List.mem_cons, List.not_mem_nil, or_false] at hc
  rcases hc with rfl | rfl | rfl | rfl | rfl | rfl | rfl | rfl
  · exact w_c0
  · exact w_c1
  · exact w_c2
  · exact w_c3
  · exact w_c4
  · exact w_c5
  · exact w_c6
  · exact w_c7
set_option maxRecDepth 65536 in
theorem w_t1 : (words1.take 24).all (fun c => isCode c || c.before args0 about1) = true := by decide +kernel
set_option maxRecDepth 65536 in
theorem w_t2 : (words1.drop 24).all (fun c => isCode c || c.before args0 about1) = true := by decide +kernel
theorem w_tables : (allAtoms (Jvm.Cond.code x code maxLocals ret :: tables_1)).before args0 about1 = true := by
  rw [allAtoms_all]
  show words1.all (fun c => c.before args0 about1) = true
  refine all_split ?_ w_codes
  rw [← List.take_append_drop 24 words1, List.all_append, w_t1, w_t2]
  rfl
set_option maxRecDepth 65536 in
theorem w_case : (Jvm.Cond.and given_1 narrow_1).before args0 about1 = true := by decide +kernel
theorem w_applies : (headSpec (Jvm.Cond.code x code maxLocals ret :: tables_1) room_1).applies x e0.platform about1 = true :=
  (Spec.applies_iff w_frames).mpr ⟨w_running, w_runnable, w_alone, w_named, w_hears, w_ripe, w_room, w_tables⟩
theorem atStart : AtStart classFile x code maxLocals ret World_1 tables_1 room_1 Calls_1 rest_1 Pre_1 launch0 p0 e0 about1 theMethod args0 below0 :=
  ⟨lists_1, trivial, launch0.admits_env _ _ _, launch0.least_env, fairChoices_fair.cas, fairChoices_fair.clock, w_frames, w_args, w_heap, w_applies, trivial, trivial, w_case⟩
end start1
theorem witness_1 : WitnessClaimed_1 := ⟨start1.p0, start1.e0, start1.about1, start1.theMethod, start1.args0, start1.below0, start1.atStart⟩
end Jvm.Pilot.@@N@@
