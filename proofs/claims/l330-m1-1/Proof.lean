import JvmDerived
import JvmDerived.Pilot.@@N@@Statement
import JvmDerived.Pilot.@@N@@Code
set_option linter.unusedVariables false
set_option linter.unusedSimpArgs false
namespace Jvm.RoadKit
open Sem ClassFile Op Lib Jvm.Stand Jvm.Free Jvm.LawKit
section New
variable {p : Program} {l : Launch} {e : Env} {R : Room} {s : State} {m : MethodId} {args : Array Value} {below : List Frame} {meth : Method} {c : Code} {T : State} {locs : List Loc} {cells slots : Nat}
theorem retI (X : Stand p l e R s m args below meth c T locs cells slots) (hx : p.tables.exec = Jvm.exec) {pc : Nat} {Ls : Array Slot} {z : Int32} {rest : List Value} (hret : meth.sig.returnType = some .int) (hd : decode c.code pc = .ok (.ireturn, 1)) {fs : List Frame}
    (hl : ∀ (f : JFrame) (acts : List Action), f.method = m → f.locked = none → f.entered = [] → (doReturn e (T.setTop f) acts (some (.int z))).1 = T.setFrames fs) : Steps p.tables e below (T.setTop (mkF m pc Ls (.int z :: rest))) (T.setFrames fs) := by
  have hm' : T.vm.method? m = some meth := X.method'
  have hn : narrow .int (.int z) = .int z := rfl
  show Steps p.tables e below (T.setTop { method := m, pc := pc, locals := Ls, stack := _ :: rest, locked := none }) _
  jvm_step X.here [X.here.top, hx, hd, hm', hret, hn]
  first | (intro acts; rw [hl _ acts rfl rfl rfl]) | rw [hl _ _ rfl rfl rfl]
  exact Steps.refl _
end New
end Jvm.RoadKit
namespace Jvm.Pilot.@@N@@
open Jvm Jvm.ClassFile Sem Op Lib Jvm.Free Jvm.Stand Jvm.LawKit Jvm.RoadKit Bundle Jvm.Pilot.@@N@@.Jvm.D
theorem own_go {tb : Tables} {e : Env} {below : List Frame} {A B : State} {R : State → Outcome → Prop} (h : ∀ t, Steps tb e below B t → Steps tb e below A t) (k : ∃ s₂ o, Steps tb e below B s₂ ∧ R s₂ o) : ∃ s₂ o, Steps tb e below A s₂ ∧ R s₂ o := by
  obtain ⟨s₂, o, h1, h2⟩ := k
  exact ⟨s₂, o, h _ h1, h2⟩
theorem own_pd0 : parseMethodDescriptor "(I)Lcom/example/sealwright/sealwright/model/SignatureScheme;" = some ⟨[.int], some (.object "com/example/sealwright/sealwright/model/SignatureScheme")⟩ := by decide +kernel
theorem own_pd1 : parseMethodDescriptor "()Z" = some ⟨[], some .boolean⟩ := by decide +kernel
def own_pick (i : Int32) (w_V1 : Addr) (w_V2 : Addr) (w_V3 : Addr) (w_V4 : Addr) : Addr := if i = (0 : Int32) then w_V1 else if i = (1 : Int32) then w_V2 else if i = (2 : Int32) then w_V3 else w_V4
def own_in (a w_V2 w_V3 : Addr) : Int32 := if a = w_V2 then (1 : Int32) else if a = w_V3 then (1 : Int32) else (0 : Int32)
theorem pn_1 : plainName "com/example/sealwright/sealwright/model/SignatureSchemeInSigningBlockPinLaw" = true := by first | (simp [plainName, overriddenIn]; done) | decide +kernel
theorem d1_0 : decode method_2_code 0 = .ok (.iload_n 0, 1) := by decide +kernel
theorem d1_1 : decode method_2_code 1 = .ok (.ifCond .ne 7, 3) := by decide +kernel
theorem d1_4 : decode method_2_code 4 = .ok (.getstatic 7, 3) := by decide +kernel
theorem d1_7 : decode method_2_code 7 = .ok (.areturn, 1) := by decide +kernel
theorem d1_8 : decode method_2_code 8 = .ok (.iload_n 0, 1) := by decide +kernel
theorem d1_9 : decode method_2_code 9 = .ok (.iconst 1, 1) := by decide +kernel
theorem d1_10 : decode method_2_code 10 = .ok (.if_icmp .ne 7, 3) := by decide +kernel
theorem d1_13 : decode method_2_code 13 = .ok (.getstatic 13, 3) := by decide +kernel
theorem d1_16 : decode method_2_code 16 = .ok (.areturn, 1) := by decide +kernel
theorem d1_17 : decode method_2_code 17 = .ok (.iload_n 0, 1) := by decide +kernel
theorem d1_18 : decode method_2_code 18 = .ok (.iconst 2, 1) := by decide +kernel
theorem d1_19 : decode method_2_code 19 = .ok (.if_icmp .ne 7, 3) := by decide +kernel
theorem d1_22 : decode method_2_code 22 = .ok (.getstatic 16, 3) := by decide +kernel
theorem d1_25 : decode method_2_code 25 = .ok (.areturn, 1) := by decide +kernel
theorem d1_26 : decode method_2_code 26 = .ok (.getstatic 19, 3) := by decide +kernel
theorem d1_29 : decode method_2_code 29 = .ok (.areturn, 1) := by decide +kernel
theorem ef_1 (m : MethodId) (x0 : Int32) : entryFrame m #[(.int x0)] 1 = mkF m 0 #[.val (.int x0)] [] := by first | (simp [entryFrame, mkF, argsToLocals, Value.category]; done) | rfl
def Q1 (Z : State) (p1 : Int32) (w_V1 : Addr) (w_V2 : Addr) (w_V3 : Addr) (w_V4 : Addr) (h0 : Heap) (n0 : Nat) (v : Option Value) (h : Heap) (L : List Loc) : Prop := v = some (.ref (own_pick p1 w_V1 w_V2 w_V3 w_V4)) ∧ Fr n0 L ∧ h = h0
set_option maxRecDepth 65536 in
set_option maxHeartbeats 40000000 in
theorem rm1 (l : Launch) (Z : State) (a0 : Array Value) (hw : ∀ d ∈ tables_1, d.before a0 Z = true) (ws : List Jvm.Cond) (p1 : Int32) (w_V1 : Addr) (w_V2 : Addr) (w_V3 : Addr) (w_V4 : Addr) (h0 : Heap) (n0 : Nat) (Z0 : n0 ≤ h0.size) (S_V1 : Sta Z h0 "com/example/sealwright/sealwright/model/SignatureScheme" "V1" "Lcom/example/sealwright/sealwright/model/SignatureScheme;" (.ref w_V1)) (S_V2 : Sta Z h0 "com/example/sealwright/sealwright/model/SignatureScheme" "V2" "Lcom/example/sealwright/sealwright/model/SignatureScheme;" (.ref w_V2)) (S_V3 : Sta Z h0 "com/example/sealwright/sealwright/model/SignatureScheme" "V3" "Lcom/example/sealwright/sealwright/model/SignatureScheme;" (.ref w_V3)) (S_V4 : Sta Z h0 "com/example/sealwright/sealwright/model/SignatureScheme" "V4" "Lcom/example/sealwright/sealwright/model/SignatureScheme;" (.ref w_V4)) :
    MetFree l (⟨"com/example/sealwright/sealwright/model/SignatureSchemeInSigningBlockPinLaw", "pick", "(I)Lcom/example/sealwright/sealwright/model/SignatureScheme;"⟩ : MethodName) (head1 (Jvm.Cond.code (⟨"com/example/sealwright/sealwright/model/SignatureSchemeInSigningBlockPinLaw", "pick", "(I)Lcom/example/sealwright/sealwright/model/SignatureScheme;"⟩ : MethodName) method_2_code 1 (some (.object "com/example/sealwright/sealwright/model/SignatureScheme")) :: ws) ({ frames := 0, cells := 0, slots := 0, locals := 0 } : Room)) (fun a U => a = #[(.int p1)] ∧ Z.Warmed39 U.vm ∧ U.heap = h0) (fun _ _ _ _ _ => True) (fun _ U o U' => ∃ v L, o = .returned v ∧ Q1 Z p1 w_V1 w_V2 w_V3 w_V4 h0 n0 v U'.heap L ∧ FrameEnd U o U' L ({ frames := 0, cells := 0, slots := 0, locals := 0 } : Room).cells ({ frames := 0, cells := 0, slots := 0, locals := 0 } : Room).slots) := by
  refine MetFree.of_bodySF (plainFor_of_name pn_1) hisR ?_
  intro p e s m args below meth c s₁ Bd hml0 hP hK
  obtain ⟨rfl, hZ, hh⟩ := hP
  have hx := Bd.exec
  have hby := Bd.bytes
  have hml : c.maxLocals = 1 := hml0
  have hown : s.vm.findClass "com/example/sealwright/sealwright/model/SignatureSchemeInSigningBlockPinLaw" = some m.cls := findClass_of_methodNamed Bd.named
  have hnm := (name_of_methodNamed Bd.named Bd.method).1
  have X0 : Stand p l e ({ frames := 0, cells := 0, slots := 0, locals := 0 } : Room) s m #[(.int p1)] below meth c s₁ [] 0 0 := Stand.of_body Bd
  have e0 : s₁.heap = h0 := by rw [← hh, Bd.state]; rfl
  have N0 := Fr.nil n0
  refine own_go (B := s₁.setTop (mkF m 0 #[.val (.int p1)] [])) (fun t k => castTop (ef_1 m p1) k) ?_
  refine own_go (B := s₁.setTop (mkF m 1 #[.val (.int p1)] [(.int p1)])) (fun t k => ?_) ?_
  · show Steps p.tables e below (s₁.setTop (mkF m 0 #[.val (.int p1)] [])) _
    refine XS.iloadN X0.here hx rfl (hb hby d1_0) rfl ?_
    exact k
  by_cases hc1_1 : p1 = (0 : Int32)
  · refine own_go (B := s₁.setTop (mkF m 4 #[.val (.int p1)] [])) (fun t k => ?_) ?_
    · show Steps p.tables e below (s₁.setTop (mkF m 1 #[.val (.int p1)] [(.int p1)])) _
      refine XS.ifNo X0.here hx rfl (hb hby d1_1) rfl ((if0 _ _).trans (teq hc1_1).2) ?_
      exact k
    obtain ⟨T2, X2, e2, st2⟩ := getS2 X0 hx hZ hown (host := "") (Or.inl (hw _ (List.mem_of_getElem? (i := 4) rfl))) Via.refl e0 S_V1 (g := (mkF m 4 #[.val (.int p1)] [])) rfl (hb hby d1_4)
    refine own_go (B := T2.setTop (mkF m 7 #[.val (.int p1)] [(.ref w_V1)])) (fun t k => st2 _ k) ?_
    obtain ⟨fs, hr, hrun, hended, hW, hsame⟩ := X2.leave (v := some (.ref w_V1)) (fun h => by rw [Bd.returns] at h; cases h)
    refine ⟨_, _, ?_, hrun, hended, _, _, rfl, ?_, ⟨_, rfl⟩, hW, hsame.mono (by decide) (by decide)⟩
    · show Steps p.tables e below (T2.setTop (mkF m 7 #[.val (.int p1)] [(.ref w_V1)])) _
      jvm_step X2.here [X2.here.top, hx, (hb hby d1_7), X2.method', Bd.returns, Value.isRef, FieldType.isReference]
      first | (intro acts; rw [hr _ acts rfl rfl rfl]) | rw [hr _ _ rfl rfl rfl]
      exact Steps.refl _
    · show Q1 Z p1 w_V1 w_V2 w_V3 w_V4 h0 n0 _ T2.heap _
      rw [e2]
      exact ⟨by rw [own_pick, if_pos hc1_1], N0, rfl⟩
  · refine own_go (B := s₁.setTop (mkF m 10 #[.val (.int p1)] [(.int (1 : Int32)), (.int p1)])) (fun t k => ?_) ?_
    · show Steps p.tables e below (s₁.setTop (mkF m 1 #[.val (.int p1)] [(.int p1)])) _
      refine XS.ifYes X0.here hx rfl (pc0 := 1) (pc' := 8) rfl (hb hby d1_1) rfl ((if0 _ _).trans (feq hc1_1).2) (by decide) (by decide) ?_
      show Steps p.tables e below (s₁.setTop (mkF m 8 #[.val (.int p1)] [])) _
      refine XS.iloadN X0.here hx rfl (hb hby d1_8) rfl ?_
      show Steps p.tables e below (s₁.setTop (mkF m 9 #[.val (.int p1)] [(.int p1)])) _
      refine XS.iconst X0.here hx rfl (hb hby d1_9) ?_
      exact k
    by_cases hc10_3 : p1 = (1 : Int32)
    · refine own_go (B := s₁.setTop (mkF m 13 #[.val (.int p1)] [])) (fun t k => ?_) ?_
      · show Steps p.tables e below (s₁.setTop (mkF m 10 #[.val (.int p1)] [(.int (1 : Int32)), (.int p1)])) _
        refine XS.icmpNo X0.here hx rfl (hb hby d1_10) rfl (teq hc10_3).2 ?_
        exact k
      obtain ⟨T4, X4, e4, st4⟩ := getS2 X0 hx hZ hown (host := "") (Or.inl (hw _ (List.mem_of_getElem? (i := 19) rfl))) Via.refl e0 S_V2 (g := (mkF m 13 #[.val (.int p1)] [])) rfl (hb hby d1_13)
      refine own_go (B := T4.setTop (mkF m 16 #[.val (.int p1)] [(.ref w_V2)])) (fun t k => st4 _ k) ?_
      obtain ⟨fs, hr, hrun, hended, hW, hsame⟩ := X4.leave (v := some (.ref w_V2)) (fun h => by rw [Bd.returns] at h; cases h)
      refine ⟨_, _, ?_, hrun, hended, _, _, rfl, ?_, ⟨_, rfl⟩, hW, hsame.mono (by decide) (by decide)⟩
      · show Steps p.tables e below (T4.setTop (mkF m 16 #[.val (.int p1)] [(.ref w_V2)])) _
        jvm_step X4.here [X4.here.top, hx, (hb hby d1_16), X4.method', Bd.returns, Value.isRef, FieldType.isReference]
        first | (intro acts; rw [hr _ acts rfl rfl rfl]) | rw [hr _ _ rfl rfl rfl]
        exact Steps.refl _
      · show Q1 Z p1 w_V1 w_V2 w_V3 w_V4 h0 n0 _ T4.heap _
        rw [e4]
        exact ⟨by rw [own_pick, if_neg hc1_1, if_pos hc10_3], N0, rfl⟩
    · refine own_go (B := s₁.setTop (mkF m 19 #[.val (.int p1)] [(.int (2 : Int32)), (.int p1)])) (fun t k => ?_) ?_
      · show Steps p.tables e below (s₁.setTop (mkF m 10 #[.val (.int p1)] [(.int (1 : Int32)), (.int p1)])) _
        refine XS.icmpYes X0.here hx rfl (pc0 := 10) (pc' := 17) rfl (hb hby d1_10) rfl (feq hc10_3).2 (by decide) (by decide) ?_
        show Steps p.tables e below (s₁.setTop (mkF m 17 #[.val (.int p1)] [])) _
        refine XS.iloadN X0.here hx rfl (hb hby d1_17) rfl ?_
        show Steps p.tables e below (s₁.setTop (mkF m 18 #[.val (.int p1)] [(.int p1)])) _
        refine XS.iconst X0.here hx rfl (hb hby d1_18) ?_
        exact k
      by_cases hc19_5 : p1 = (2 : Int32)
      · refine own_go (B := s₁.setTop (mkF m 22 #[.val (.int p1)] [])) (fun t k => ?_) ?_
        · show Steps p.tables e below (s₁.setTop (mkF m 19 #[.val (.int p1)] [(.int (2 : Int32)), (.int p1)])) _
          refine XS.icmpNo X0.here hx rfl (hb hby d1_19) rfl (teq hc19_5).2 ?_
          exact k
        obtain ⟨T6, X6, e6, st6⟩ := getS2 X0 hx hZ hown (host := "") (Or.inl (hw _ (List.mem_of_getElem? (i := 18) rfl))) Via.refl e0 S_V3 (g := (mkF m 22 #[.val (.int p1)] [])) rfl (hb hby d1_22)
        refine own_go (B := T6.setTop (mkF m 25 #[.val (.int p1)] [(.ref w_V3)])) (fun t k => st6 _ k) ?_
        obtain ⟨fs, hr, hrun, hended, hW, hsame⟩ := X6.leave (v := some (.ref w_V3)) (fun h => by rw [Bd.returns] at h; cases h)
        refine ⟨_, _, ?_, hrun, hended, _, _, rfl, ?_, ⟨_, rfl⟩, hW, hsame.mono (by decide) (by decide)⟩
        · show Steps p.tables e below (T6.setTop (mkF m 25 #[.val (.int p1)] [(.ref w_V3)])) _
          jvm_step X6.here [X6.here.top, hx, (hb hby d1_25), X6.method', Bd.returns, Value.isRef, FieldType.isReference]
          first | (intro acts; rw [hr _ acts rfl rfl rfl]) | rw [hr _ _ rfl rfl rfl]
          exact Steps.refl _
        · show Q1 Z p1 w_V1 w_V2 w_V3 w_V4 h0 n0 _ T6.heap _
          rw [e6]
          exact ⟨by rw [own_pick, if_neg hc1_1, if_neg hc10_3, if_pos hc19_5], N0, rfl⟩
      · refine own_go (B := s₁.setTop (mkF m 26 #[.val (.int p1)] [])) (fun t k => ?_) ?_
        · show Steps p.tables e below (s₁.setTop (mkF m 19 #[.val (.int p1)] [(.int (2 : Int32)), (.int p1)])) _
          refine XS.icmpYes X0.here hx rfl (pc0 := 19) (pc' := 26) rfl (hb hby d1_19) rfl (feq hc19_5).2 (by decide) (by decide) ?_
          exact k
        obtain ⟨T7, X7, e7, st7⟩ := getS2 X0 hx hZ hown (host := "") (Or.inl (hw _ (List.mem_of_getElem? (i := 16) rfl))) Via.refl e0 S_V4 (g := (mkF m 26 #[.val (.int p1)] [])) rfl (hb hby d1_26)
        refine own_go (B := T7.setTop (mkF m 29 #[.val (.int p1)] [(.ref w_V4)])) (fun t k => st7 _ k) ?_
        obtain ⟨fs, hr, hrun, hended, hW, hsame⟩ := X7.leave (v := some (.ref w_V4)) (fun h => by rw [Bd.returns] at h; cases h)
        refine ⟨_, _, ?_, hrun, hended, _, _, rfl, ?_, ⟨_, rfl⟩, hW, hsame.mono (by decide) (by decide)⟩
        · show Steps p.tables e below (T7.setTop (mkF m 29 #[.val (.int p1)] [(.ref w_V4)])) _
          jvm_step X7.here [X7.here.top, hx, (hb hby d1_29), X7.method', Bd.returns, Value.isRef, FieldType.isReference]
          first | (intro acts; rw [hr _ acts rfl rfl rfl]) | rw [hr _ _ rfl rfl rfl]
          exact Steps.refl _
        · show Q1 Z p1 w_V1 w_V2 w_V3 w_V4 h0 n0 _ T7.heap _
          rw [e7]
          exact ⟨by rw [own_pick, if_neg hc1_1, if_neg hc10_3, if_neg hc19_5], N0, rfl⟩
theorem pn_2 : plainName "com/example/sealwright/sealwright/model/SignatureScheme" = true := by first | (simp [plainName, overriddenIn]; done) | decide +kernel
theorem d2_0 : decode prog_79_method_5_code 0 = .ok (.aload_n 0, 1) := by decide +kernel
theorem d2_1 : decode prog_79_method_5_code 1 = .ok (.getstatic 7, 3) := by decide +kernel
theorem d2_4 : decode prog_79_method_5_code 4 = .ok (.if_acmp .eq 10, 3) := by decide +kernel
theorem d2_7 : decode prog_79_method_5_code 7 = .ok (.aload_n 0, 1) := by decide +kernel
theorem d2_8 : decode prog_79_method_5_code 8 = .ok (.getstatic 10, 3) := by decide +kernel
theorem d2_11 : decode prog_79_method_5_code 11 = .ok (.if_acmp .ne 7, 3) := by decide +kernel
theorem d2_14 : decode prog_79_method_5_code 14 = .ok (.iconst 1, 1) := by decide +kernel
theorem d2_15 : decode prog_79_method_5_code 15 = .ok (.goto 4, 3) := by decide +kernel
theorem d2_18 : decode prog_79_method_5_code 18 = .ok (.iconst 0, 1) := by decide +kernel
theorem d2_19 : decode prog_79_method_5_code 19 = .ok (.ireturn, 1) := by decide +kernel
theorem ef_2 (m : MethodId) (x0 : Addr) : entryFrame m #[(.ref x0)] 1 = mkF m 0 #[.val (.ref x0)] [] := by first | (simp [entryFrame, mkF, argsToLocals, Value.category]; done) | rfl
def Q2 (Z : State) (a1 : Addr) (w_V1 : Addr) (w_V2 : Addr) (w_V3 : Addr) (w_V4 : Addr) (h0 : Heap) (n0 : Nat) (v : Option Value) (h : Heap) (L : List Loc) : Prop := v = some (.int (own_in a1 w_V2 w_V3)) ∧ Fr n0 L ∧ h = h0
set_option maxRecDepth 65536 in
set_option maxHeartbeats 40000000 in
theorem rm2 (l : Launch) (Z : State) (a0 : Array Value) (hw : ∀ d ∈ tables_1, d.before a0 Z = true) (ws : List Jvm.Cond) (a1 : Addr) (w_V1 : Addr) (w_V2 : Addr) (w_V3 : Addr) (w_V4 : Addr) (h0 : Heap) (n0 : Nat) (Z0 : n0 ≤ h0.size) (S_V1 : Sta Z h0 "com/example/sealwright/sealwright/model/SignatureScheme" "V1" "Lcom/example/sealwright/sealwright/model/SignatureScheme;" (.ref w_V1)) (S_V2 : Sta Z h0 "com/example/sealwright/sealwright/model/SignatureScheme" "V2" "Lcom/example/sealwright/sealwright/model/SignatureScheme;" (.ref w_V2)) (S_V3 : Sta Z h0 "com/example/sealwright/sealwright/model/SignatureScheme" "V3" "Lcom/example/sealwright/sealwright/model/SignatureScheme;" (.ref w_V3)) (S_V4 : Sta Z h0 "com/example/sealwright/sealwright/model/SignatureScheme" "V4" "Lcom/example/sealwright/sealwright/model/SignatureScheme;" (.ref w_V4)) :
    MetFree l (⟨"com/example/sealwright/sealwright/model/SignatureScheme", "inSigningBlock", "()Z"⟩ : MethodName) (head1 (Jvm.Cond.code (⟨"com/example/sealwright/sealwright/model/SignatureScheme", "inSigningBlock", "()Z"⟩ : MethodName) prog_79_method_5_code 1 (some .boolean) :: ws) ({ frames := 0, cells := 0, slots := 0, locals := 0 } : Room)) (fun a U => a = #[(.ref a1)] ∧ Z.Warmed39 U.vm ∧ U.heap = h0) (fun _ _ _ _ _ => True) (fun _ U o U' => ∃ v L, o = .returned v ∧ Q2 Z a1 w_V1 w_V2 w_V3 w_V4 h0 n0 v U'.heap L ∧ FrameEnd U o U' L ({ frames := 0, cells := 0, slots := 0, locals := 0 } : Room).cells ({ frames := 0, cells := 0, slots := 0, locals := 0 } : Room).slots) := by
  refine MetFree.of_bodySF (plainFor_of_name pn_2) hisR ?_
  intro p e s m args below meth c s₁ Bd hml0 hP hK
  obtain ⟨rfl, hZ, hh⟩ := hP
  have hx := Bd.exec
  have hby := Bd.bytes
  have hml : c.maxLocals = 1 := hml0
  have hown : s.vm.findClass "com/example/sealwright/sealwright/model/SignatureScheme" = some m.cls := findClass_of_methodNamed Bd.named
  have hnm := (name_of_methodNamed Bd.named Bd.method).1
  have X0 : Stand p l e ({ frames := 0, cells := 0, slots := 0, locals := 0 } : Room) s m #[(.ref a1)] below meth c s₁ [] 0 0 := Stand.of_body Bd
  have e0 : s₁.heap = h0 := by rw [← hh, Bd.state]; rfl
  have N0 := Fr.nil n0
  refine own_go (B := s₁.setTop (mkF m 0 #[.val (.ref a1)] [])) (fun t k => castTop (ef_2 m a1) k) ?_
  refine own_go (B := s₁.setTop (mkF m 1 #[.val (.ref a1)] [(.ref a1)])) (fun t k => ?_) ?_
  · show Steps p.tables e below (s₁.setTop (mkF m 0 #[.val (.ref a1)] [])) _
    refine XS.aloadN X0.here hx rfl (hb hby d2_0) rfl rfl ?_
    exact k
  obtain ⟨T1, X1, e1, st1⟩ := getS2 X0 hx hZ hown (host := "") (Or.inl (hw _ (List.mem_of_getElem? (i := 12) rfl))) Via.refl e0 S_V2 (g := (mkF m 1 #[.val (.ref a1)] [(.ref a1)])) rfl (hb hby d2_1)
  refine own_go (B := T1.setTop (mkF m 4 #[.val (.ref a1)] [(.ref w_V2), (.ref a1)])) (fun t k => st1 _ k) ?_
  by_cases ha4_2 : a1 = w_V2
  · obtain ⟨fs, hr, hrun, hended, hW, hsame⟩ := X1.leave (v := some (.int (1 : Int32))) (fun h => by rw [Bd.returns] at h; cases h)
    refine ⟨_, _, ?_, hrun, hended, _, _, rfl, ?_, ⟨_, rfl⟩, hW, hsame.mono (by decide) (by decide)⟩
    · show Steps p.tables e below (T1.setTop (mkF m 4 #[.val (.ref a1)] [(.ref w_V2), (.ref a1)])) _
      refine Jvm.RoadKit.acmp (g := (mkF m 4 #[.val (.ref a1)] [(.ref w_V2), (.ref a1)])) X1 hx rfl rfl rfl (pc0 := 4) (pc' := 14) (same := true) rfl (hb hby d2_4) rfl (decide_eq_true (congrArg Value.ref ha4_2)) (by decide) (by decide) ?_
      show Steps p.tables e below (T1.setTop (mkF m 14 #[.val (.ref a1)] [])) _
      refine XS.iconst X1.here hx rfl (hb hby d2_14) ?_
      show Steps p.tables e below (T1.setTop (mkF m 15 #[.val (.ref a1)] [(.int (1 : Int32))])) _
      refine XS.goto X1.here hx rfl (pc0 := 15) (pc' := 19) rfl (hb hby d2_15) (by decide) (by decide) ?_
      show Steps p.tables e below (T1.setTop (mkF m 19 #[.val (.ref a1)] [(.int (1 : Int32))])) _
      exact retN X1 hx (t := .boolean) Bd.returns (by simp) (hb hby d2_19) hr
    · show Q2 Z a1 w_V1 w_V2 w_V3 w_V4 h0 n0 _ T1.heap _
      rw [e1]
      exact ⟨by rw [own_in, if_pos ha4_2], N0, rfl⟩
  · refine own_go (B := T1.setTop (mkF m 8 #[.val (.ref a1)] [(.ref a1)])) (fun t k => ?_) ?_
    · show Steps p.tables e below (T1.setTop (mkF m 4 #[.val (.ref a1)] [(.ref w_V2), (.ref a1)])) _
      refine Jvm.RoadKit.acmp (g := (mkF m 4 #[.val (.ref a1)] [(.ref w_V2), (.ref a1)])) X1 hx rfl rfl rfl (pc0 := 4) (pc' := 7) (same := false) rfl (hb hby d2_4) rfl (decide_eq_false fun q => ha4_2 (Value.ref.inj q)) (by decide) (by decide) ?_
      show Steps p.tables e below (T1.setTop (mkF m 7 #[.val (.ref a1)] [])) _
      refine XS.aloadN X1.here hx rfl (hb hby d2_7) rfl rfl ?_
      exact k
    obtain ⟨T3, X3, e3, st3⟩ := getS2 X1 hx hZ hown (host := "") (Or.inl (hw _ (List.mem_of_getElem? (i := 14) rfl))) Via.refl e1 S_V3 (g := (mkF m 8 #[.val (.ref a1)] [(.ref a1)])) rfl (hb hby d2_8)
    refine own_go (B := T3.setTop (mkF m 11 #[.val (.ref a1)] [(.ref w_V3), (.ref a1)])) (fun t k => st3 _ k) ?_
    by_cases ha11_4 : a1 = w_V3
    · obtain ⟨fs, hr, hrun, hended, hW, hsame⟩ := X3.leave (v := some (.int (1 : Int32))) (fun h => by rw [Bd.returns] at h; cases h)
      refine ⟨_, _, ?_, hrun, hended, _, _, rfl, ?_, ⟨_, rfl⟩, hW, hsame.mono (by decide) (by decide)⟩
      · show Steps p.tables e below (T3.setTop (mkF m 11 #[.val (.ref a1)] [(.ref w_V3), (.ref a1)])) _
        refine Jvm.RoadKit.acmp (g := (mkF m 11 #[.val (.ref a1)] [(.ref w_V3), (.ref a1)])) X3 hx rfl rfl rfl (pc0 := 11) (pc' := 14) (same := true) rfl (hb hby d2_11) rfl (decide_eq_true (congrArg Value.ref ha11_4)) (by decide) (by decide) ?_
        show Steps p.tables e below (T3.setTop (mkF m 14 #[.val (.ref a1)] [])) _
        refine XS.iconst X3.here hx rfl (hb hby d2_14) ?_
        show Steps p.tables e below (T3.setTop (mkF m 15 #[.val (.ref a1)] [(.int (1 : Int32))])) _
        refine XS.goto X3.here hx rfl (pc0 := 15) (pc' := 19) rfl (hb hby d2_15) (by decide) (by decide) ?_
        show Steps p.tables e below (T3.setTop (mkF m 19 #[.val (.ref a1)] [(.int (1 : Int32))])) _
        exact retN X3 hx (t := .boolean) Bd.returns (by simp) (hb hby d2_19) hr
      · show Q2 Z a1 w_V1 w_V2 w_V3 w_V4 h0 n0 _ T3.heap _
        rw [e3]
        exact ⟨by rw [own_in, if_neg ha4_2, if_pos ha11_4], N0, rfl⟩
    · obtain ⟨fs, hr, hrun, hended, hW, hsame⟩ := X3.leave (v := some (.int (0 : Int32))) (fun h => by rw [Bd.returns] at h; cases h)
      refine ⟨_, _, ?_, hrun, hended, _, _, rfl, ?_, ⟨_, rfl⟩, hW, hsame.mono (by decide) (by decide)⟩
      · show Steps p.tables e below (T3.setTop (mkF m 11 #[.val (.ref a1)] [(.ref w_V3), (.ref a1)])) _
        refine Jvm.RoadKit.acmp (g := (mkF m 11 #[.val (.ref a1)] [(.ref w_V3), (.ref a1)])) X3 hx rfl rfl rfl (pc0 := 11) (pc' := 18) (same := false) rfl (hb hby d2_11) rfl (decide_eq_false fun q => ha11_4 (Value.ref.inj q)) (by decide) (by decide) ?_
        show Steps p.tables e below (T3.setTop (mkF m 18 #[.val (.ref a1)] [])) _
        refine XS.iconst X3.here hx rfl (hb hby d2_18) ?_
        show Steps p.tables e below (T3.setTop (mkF m 19 #[.val (.ref a1)] [(.int (0 : Int32))])) _
        exact retN X3 hx (t := .boolean) Bd.returns (by simp) (hb hby d2_19) hr
      · show Q2 Z a1 w_V1 w_V2 w_V3 w_V4 h0 n0 _ T3.heap _
        rw [e3]
        exact ⟨by rw [own_in, if_neg ha4_2, if_neg ha11_4], N0, rfl⟩
theorem own_pick_exa {Z : State} {h : Heap} {C : String} (i : Int32) (w_V1 : Addr) (w_V2 : Addr) (w_V3 : Addr) (w_V4 : Addr) (E1 : Exa Z h w_V1 C) (E2 : Exa Z h w_V2 C) (E3 : Exa Z h w_V3 C) (E4 : Exa Z h w_V4 C) : Exa Z h (own_pick i w_V1 w_V2 w_V3 w_V4) C := by
  unfold own_pick
  split
  · exact E1
  · split
    · exact E2
    · split
      · exact E3
      · exact E4
theorem own_law (i : Int32) (w_V1 : Addr) (w_V2 : Addr) (w_V3 : Addr) (w_V4 : Addr) (n12 : w_V1 ≠ w_V2) (n13 : w_V1 ≠ w_V3) (n24 : w_V2 ≠ w_V4) (n34 : w_V3 ≠ w_V4) :
    own_in (own_pick i w_V1 w_V2 w_V3 w_V4) w_V2 w_V3 = (if i = (0 : Int32) then (0 : Int32) else (if i = (1 : Int32) then (1 : Int32) else (if i = (2 : Int32) then (1 : Int32) else (0 : Int32)))) := by
  unfold own_pick
  by_cases h0 : i = 0
  · rw [if_pos h0, if_pos h0, own_in, if_neg n12, if_neg n13]
  · rw [if_neg h0, if_neg h0]
    by_cases h1 : i = 1
    · rw [if_pos h1, if_pos h1, own_in, if_pos rfl]
    · rw [if_neg h1, if_neg h1]
      by_cases h2 : i = 2
      · rw [if_pos h2, if_pos h2, own_in]
        split
        · rfl
        · rw [if_pos rfl]
      · rw [if_neg h2, if_neg h2, own_in, if_neg n24.symm, if_neg n34.symm]
theorem own_ord {args : Array Value} {s : State} {t : Term} {w : Addr} {k : Int32} (ev : t.eval args s none [] s = some (.ref w)) (h : (Jvm.Cond.eq (Jvm.Term.field t "java/lang/Enum" "ordinal" "I") (Jvm.Term.int k)).value args s none s [] = some true) : s.fieldOf? w "java/lang/Enum" "ordinal" "I" = some (.int k) := by
  have h1 : (Jvm.Term.field t "java/lang/Enum" "ordinal" "I").eval args s none [] s = s.fieldOf? w "java/lang/Enum" "ordinal" "I" := fld_at ev
  have h2 : (Jvm.Term.int k).eval args s none [] s = some (.int k) := Term.int_eval k
  cases h3 : s.fieldOf? w "java/lang/Enum" "ordinal" "I" with
  | none => rw [h3] at h1; simp [Cond.value, h1] at h
  | some v =>
    rw [h3] at h1
    cases v <;> simp [Cond.value, h1, h2] at h ⊢
    exact h
theorem pn_0 : plainName "com/example/sealwright/sealwright/model/SignatureSchemeInSigningBlockPinLaw" = true := by first | (simp [plainName, overriddenIn]; done) | decide +kernel
theorem ef_0 (m : MethodId) (x0 : Int32) : entryFrame m #[(.int x0)] maxLocals = mkF m 0 #[.val (.int x0), .unset, .unset, .unset] [] := by first | (simp [entryFrame, mkF, argsToLocals, Value.category, maxLocals]; done) | rfl
def Q0 (Z : State) (p1 : Int32) (w_V1 : Addr) (w_V2 : Addr) (w_V3 : Addr) (w_V4 : Addr) (h0 : Heap) (n0 : Nat) (v : Option Value) (h : Heap) (L : List Loc) : Prop := v = some (.int 1) ∧ Fr n0 L
set_option maxRecDepth 65536 in
set_option maxHeartbeats 40000000 in
theorem rm0 (l : Launch) (Z : State) (a0 : Array Value) (hw : ∀ d ∈ tables_1, d.before a0 Z = true) (ws : List Jvm.Cond) (p1 : Int32) (w_V1 : Addr) (w_V2 : Addr) (w_V3 : Addr) (w_V4 : Addr) (h0 : Heap) (n0 : Nat) (Z0 : n0 ≤ h0.size) (S_V1 : Sta Z h0 "com/example/sealwright/sealwright/model/SignatureScheme" "V1" "Lcom/example/sealwright/sealwright/model/SignatureScheme;" (.ref w_V1)) (S_V2 : Sta Z h0 "com/example/sealwright/sealwright/model/SignatureScheme" "V2" "Lcom/example/sealwright/sealwright/model/SignatureScheme;" (.ref w_V2)) (S_V3 : Sta Z h0 "com/example/sealwright/sealwright/model/SignatureScheme" "V3" "Lcom/example/sealwright/sealwright/model/SignatureScheme;" (.ref w_V3)) (S_V4 : Sta Z h0 "com/example/sealwright/sealwright/model/SignatureScheme" "V4" "Lcom/example/sealwright/sealwright/model/SignatureScheme;" (.ref w_V4)) (E_V1 : Exa Z h0 w_V1 "com/example/sealwright/sealwright/model/SignatureScheme") (E_V2 : Exa Z h0 w_V2 "com/example/sealwright/sealwright/model/SignatureScheme") (E_V3 : Exa Z h0 w_V3 "com/example/sealwright/sealwright/model/SignatureScheme") (E_V4 : Exa Z h0 w_V4 "com/example/sealwright/sealwright/model/SignatureScheme") (ne_V1_V2 : w_V1 ≠ w_V2) (ne_V1_V3 : w_V1 ≠ w_V3) (ne_V1_V4 : w_V1 ≠ w_V4) (ne_V2_V3 : w_V2 ≠ w_V3) (ne_V2_V4 : w_V2 ≠ w_V4) (ne_V3_V4 : w_V3 ≠ w_V4) :
    MetFree l x (head1 (Jvm.Cond.code x code maxLocals ret :: ws) room_1) (fun a U => a = #[(.int p1)] ∧ Z.Warmed39 U.vm ∧ U.heap = h0) (fun _ _ _ _ _ => True) (fun _ U o U' => ∃ v L, o = .returned v ∧ Q0 Z p1 w_V1 w_V2 w_V3 w_V4 h0 n0 v U'.heap L ∧ FrameEnd U o U' L room_1.cells room_1.slots) := by
  refine MetFree.of_bodySF (plainFor_of_name pn_0) hisR ?_
  intro p e s m args below meth c s₁ Bd hml0 hP hK
  obtain ⟨rfl, hZ, hh⟩ := hP
  have hx := Bd.exec
  have hby := Bd.bytes
  have hml : c.maxLocals = 4 := hml0
  have hown : s.vm.findClass "com/example/sealwright/sealwright/model/SignatureSchemeInSigningBlockPinLaw" = some m.cls := findClass_of_methodNamed Bd.named
  have hnm := (name_of_methodNamed Bd.named Bd.method).1
  have X0 : Stand p l e room_1 s m #[(.int p1)] below meth c s₁ [] 0 0 := Stand.of_body Bd
  have e0 : s₁.heap = h0 := by rw [← hh, Bd.state]; rfl
  have N0 := Fr.nil n0
  refine own_go (B := s₁.setTop (mkF m 0 #[.val (.int p1), .unset, .unset, .unset] [])) (fun t k => castTop (ef_0 m p1) k) ?_
  refine own_go (B := s₁.setTop (mkF m 5 #[.val (.int p1), .val (.int (p1 &&& (3 : Int32))), .unset, .unset] [(.int (p1 &&& (3 : Int32)))])) (fun t k => ?_) ?_
  · show Steps p.tables e below (s₁.setTop (mkF m 0 #[.val (.int p1), .unset, .unset, .unset] [])) _
    refine XS.iloadN X0.here hx rfl (hb hby at_0) rfl ?_
    show Steps p.tables e below (s₁.setTop (mkF m 1 #[.val (.int p1), .unset, .unset, .unset] [(.int p1)])) _
    refine XS.iconst X0.here hx rfl (hb hby at_1) ?_
    show Steps p.tables e below (s₁.setTop (mkF m 2 #[.val (.int p1), .unset, .unset, .unset] [(.int (3 : Int32)), (.int p1)])) _
    refine XS.iand X0.here hx rfl (hb hby at_2) rfl ?_
    show Steps p.tables e below (s₁.setTop (mkF m 3 #[.val (.int p1), .unset, .unset, .unset] [(.int (p1 &&& (3 : Int32)))])) _
    refine XS.istoreN X0.here hx rfl (hb hby at_3) rfl (l' := #[.val (.int p1), .val (.int (p1 &&& (3 : Int32))), .unset, .unset]) rfl ?_
    show Steps p.tables e below (s₁.setTop (mkF m 4 #[.val (.int p1), .val (.int (p1 &&& (3 : Int32))), .unset, .unset] [])) _
    refine XS.iloadN X0.here hx rfl (hb hby at_4) rfl ?_
    exact k
  obtain ⟨_, _, ⟨T1, L1, k1, n1⟩, -, X1, ⟨Lc1, hQ1, l1, y1, z1⟩, st1⟩ := Jvm.LawKit.callS X0 hx (y := (⟨"com/example/sealwright/sealwright/model/SignatureSchemeInSigningBlockPinLaw", "pick", "(I)Lcom/example/sealwright/sealwright/model/SignatureScheme;"⟩ : MethodName)) hown (mvT hZ (hw _ (List.mem_of_getElem? (i := 0) rfl))) (mvT hZ (hw _ (List.mem_of_getElem? (i := 1) rfl))) (mvT hZ (hw _ (List.mem_of_getElem? (i := 2) rfl))) (mvT hZ (hw _ (List.mem_of_getElem? (i := 3) rfl))) (by decide) (backOf (W := 0) (rm1 l Z a0 hw [] (p1 &&& (3 : Int32)) w_V1 w_V2 w_V3 w_V4 h0 n0 Z0 S_V1 S_V2 S_V3 S_V4) hZ (hw _ (List.mem_of_getElem? (i := 3) rfl)) (hw _ (List.mem_of_getElem? (i := 2) rfl)) (by decide) (by decide)) (g := (mkF m 5 #[.val (.int p1), .val (.int (p1 &&& (3 : Int32))), .unset, .unset] [(.int (p1 &&& (3 : Int32)))])) rfl (by rw [hml]; rfl) (argsL := [(.int (p1 &&& (3 : Int32)))]) (rest := []) (lenOf own_pd0 rfl) rfl (by show 2 * 0 + _ ≤ _; exact Nat.le_of_eq rfl) (hb hby at_5) (fun _ _ => ⟨rfl, e0, (by decide : 0 + 0 ≤ _), (by decide : 0 + 0 ≤ _)⟩)
  dsimp only [Pt.U, Pt.locs, Pt.cells, Pt.slots] at X1 l1 y1 z1 st1 hQ1
  subst l1 y1 z1
  obtain ⟨rfl, N1q, eq1⟩ := hQ1
  have N1 := Fr.app N0 N1q
  refine own_go (B := T1.setTop (mkF m 8 #[.val (.int p1), .val (.int (p1 &&& (3 : Int32))), .unset, .unset] [(.ref (own_pick (p1 &&& (3 : Int32)) w_V1 w_V2 w_V3 w_V4))])) (fun t k => st1 _ k) ?_
  obtain ⟨r1, hr1⟩ : ∃ z : Addr, z = (own_pick (p1 &&& (3 : Int32)) w_V1 w_V2 w_V3 w_V4) := ⟨_, rfl⟩
  refine own_go (B := T1.setTop (mkF m 8 #[.val (.int p1), .val (.int (p1 &&& (3 : Int32))), .unset, .unset] [(.ref r1)])) (fun t k => by rw [hr1] at k; exact k) ?_
  have E_r1 : Exa Z h0 r1 "com/example/sealwright/sealwright/model/SignatureScheme" := by rw [hr1]; exact own_pick_exa _ w_V1 w_V2 w_V3 w_V4 E_V1 E_V2 E_V3 E_V4
  refine own_go (B := T1.setTop (mkF m 10 #[.val (.int p1), .val (.int (p1 &&& (3 : Int32))), .val (.ref r1), .unset] [(.int (p1 &&& (3 : Int32)))])) (fun t k => ?_) ?_
  · show Steps p.tables e below (T1.setTop (mkF m 8 #[.val (.int p1), .val (.int (p1 &&& (3 : Int32))), .unset, .unset] [(.ref r1)])) _
    refine XS.astoreN X1.here hx rfl (hb hby at_8) rfl rfl (l' := #[.val (.int p1), .val (.int (p1 &&& (3 : Int32))), .val (.ref r1), .unset]) rfl ?_
    show Steps p.tables e below (T1.setTop (mkF m 9 #[.val (.int p1), .val (.int (p1 &&& (3 : Int32))), .val (.ref r1), .unset] [])) _
    refine XS.iloadN X1.here hx rfl (hb hby at_9) rfl ?_
    exact k
  obtain ⟨z2, hz2⟩ : ∃ q : Int32, q = (if (p1 &&& (3 : Int32)) = (0 : Int32) then (0 : Int32) else (if (p1 &&& (3 : Int32)) = (1 : Int32) then (1 : Int32) else (if (p1 &&& (3 : Int32)) = (2 : Int32) then (1 : Int32) else (0 : Int32)))) := ⟨_, rfl⟩
  refine own_go (B := T1.setTop (mkF m 40 #[.val (.int p1), .val (.int (p1 &&& (3 : Int32))), .val (.ref r1), .val (.int z2)] [])) (fun t k => ?_) ?_
  · by_cases hc10_3 : (p1 &&& (3 : Int32)) = (0 : Int32)
    · rw [show z2 = (0 : Int32) from hz2.trans (by rw [if_pos hc10_3])] at k
      show Steps p.tables e below (T1.setTop (mkF m 10 #[.val (.int p1), .val (.int (p1 &&& (3 : Int32))), .val (.ref r1), .unset] [(.int (p1 &&& (3 : Int32)))])) _
      refine XS.ifNo X1.here hx rfl (hb hby at_10) rfl ((if0 _ _).trans (teq hc10_3).2) ?_
      show Steps p.tables e below (T1.setTop (mkF m 13 #[.val (.int p1), .val (.int (p1 &&& (3 : Int32))), .val (.ref r1), .unset] [])) _
      refine XS.iconst X1.here hx rfl (hb hby at_13) ?_
      show Steps p.tables e below (T1.setTop (mkF m 14 #[.val (.int p1), .val (.int (p1 &&& (3 : Int32))), .val (.ref r1), .unset] [(.int (0 : Int32))])) _
      refine XS.istoreN X1.here hx rfl (hb hby at_14) rfl (l' := #[.val (.int p1), .val (.int (p1 &&& (3 : Int32))), .val (.ref r1), .val (.int (0 : Int32))]) rfl ?_
      show Steps p.tables e below (T1.setTop (mkF m 15 #[.val (.int p1), .val (.int (p1 &&& (3 : Int32))), .val (.ref r1), .val (.int (0 : Int32))] [])) _
      refine XS.goto X1.here hx rfl (pc0 := 15) (pc' := 40) rfl (hb hby at_15) (by decide) (by decide) ?_
      exact k
    · show Steps p.tables e below (T1.setTop (mkF m 10 #[.val (.int p1), .val (.int (p1 &&& (3 : Int32))), .val (.ref r1), .unset] [(.int (p1 &&& (3 : Int32)))])) _
      refine XS.ifYes X1.here hx rfl (pc0 := 10) (pc' := 18) rfl (hb hby at_10) rfl ((if0 _ _).trans (feq hc10_3).2) (by decide) (by decide) ?_
      show Steps p.tables e below (T1.setTop (mkF m 18 #[.val (.int p1), .val (.int (p1 &&& (3 : Int32))), .val (.ref r1), .unset] [])) _
      refine XS.iloadN X1.here hx rfl (hb hby at_18) rfl ?_
      show Steps p.tables e below (T1.setTop (mkF m 19 #[.val (.int p1), .val (.int (p1 &&& (3 : Int32))), .val (.ref r1), .unset] [(.int (p1 &&& (3 : Int32)))])) _
      refine XS.iconst X1.here hx rfl (hb hby at_19) ?_
      by_cases hc20_4 : (p1 &&& (3 : Int32)) = (1 : Int32)
      · rw [show z2 = (1 : Int32) from hz2.trans (by rw [if_neg hc10_3, if_pos hc20_4])] at k
        show Steps p.tables e below (T1.setTop (mkF m 20 #[.val (.int p1), .val (.int (p1 &&& (3 : Int32))), .val (.ref r1), .unset] [(.int (1 : Int32)), (.int (p1 &&& (3 : Int32)))])) _
        refine XS.icmpNo X1.here hx rfl (hb hby at_20) rfl (teq hc20_4).2 ?_
        show Steps p.tables e below (T1.setTop (mkF m 23 #[.val (.int p1), .val (.int (p1 &&& (3 : Int32))), .val (.ref r1), .unset] [])) _
        refine XS.iconst X1.here hx rfl (hb hby at_23) ?_
        show Steps p.tables e below (T1.setTop (mkF m 24 #[.val (.int p1), .val (.int (p1 &&& (3 : Int32))), .val (.ref r1), .unset] [(.int (1 : Int32))])) _
        refine XS.istoreN X1.here hx rfl (hb hby at_24) rfl (l' := #[.val (.int p1), .val (.int (p1 &&& (3 : Int32))), .val (.ref r1), .val (.int (1 : Int32))]) rfl ?_
        show Steps p.tables e below (T1.setTop (mkF m 25 #[.val (.int p1), .val (.int (p1 &&& (3 : Int32))), .val (.ref r1), .val (.int (1 : Int32))] [])) _
        refine XS.goto X1.here hx rfl (pc0 := 25) (pc' := 40) rfl (hb hby at_25) (by decide) (by decide) ?_
        exact k
      · show Steps p.tables e below (T1.setTop (mkF m 20 #[.val (.int p1), .val (.int (p1 &&& (3 : Int32))), .val (.ref r1), .unset] [(.int (1 : Int32)), (.int (p1 &&& (3 : Int32)))])) _
        refine XS.icmpYes X1.here hx rfl (pc0 := 20) (pc' := 28) rfl (hb hby at_20) rfl (feq hc20_4).2 (by decide) (by decide) ?_
        show Steps p.tables e below (T1.setTop (mkF m 28 #[.val (.int p1), .val (.int (p1 &&& (3 : Int32))), .val (.ref r1), .unset] [])) _
        refine XS.iloadN X1.here hx rfl (hb hby at_28) rfl ?_
        show Steps p.tables e below (T1.setTop (mkF m 29 #[.val (.int p1), .val (.int (p1 &&& (3 : Int32))), .val (.ref r1), .unset] [(.int (p1 &&& (3 : Int32)))])) _
        refine XS.iconst X1.here hx rfl (hb hby at_29) ?_
        by_cases hc30_5 : (p1 &&& (3 : Int32)) = (2 : Int32)
        · rw [show z2 = (1 : Int32) from hz2.trans (by rw [if_neg hc10_3, if_neg hc20_4, if_pos hc30_5])] at k
          show Steps p.tables e below (T1.setTop (mkF m 30 #[.val (.int p1), .val (.int (p1 &&& (3 : Int32))), .val (.ref r1), .unset] [(.int (2 : Int32)), (.int (p1 &&& (3 : Int32)))])) _
          refine XS.icmpNo X1.here hx rfl (hb hby at_30) rfl (teq hc30_5).2 ?_
          show Steps p.tables e below (T1.setTop (mkF m 33 #[.val (.int p1), .val (.int (p1 &&& (3 : Int32))), .val (.ref r1), .unset] [])) _
          refine XS.iconst X1.here hx rfl (hb hby at_33) ?_
          show Steps p.tables e below (T1.setTop (mkF m 34 #[.val (.int p1), .val (.int (p1 &&& (3 : Int32))), .val (.ref r1), .unset] [(.int (1 : Int32))])) _
          refine XS.istoreN X1.here hx rfl (hb hby at_34) rfl (l' := #[.val (.int p1), .val (.int (p1 &&& (3 : Int32))), .val (.ref r1), .val (.int (1 : Int32))]) rfl ?_
          show Steps p.tables e below (T1.setTop (mkF m 35 #[.val (.int p1), .val (.int (p1 &&& (3 : Int32))), .val (.ref r1), .val (.int (1 : Int32))] [])) _
          refine XS.goto X1.here hx rfl (pc0 := 35) (pc' := 40) rfl (hb hby at_35) (by decide) (by decide) ?_
          exact k
        · rw [show z2 = (0 : Int32) from hz2.trans (by rw [if_neg hc10_3, if_neg hc20_4, if_neg hc30_5])] at k
          show Steps p.tables e below (T1.setTop (mkF m 30 #[.val (.int p1), .val (.int (p1 &&& (3 : Int32))), .val (.ref r1), .unset] [(.int (2 : Int32)), (.int (p1 &&& (3 : Int32)))])) _
          refine XS.icmpYes X1.here hx rfl (pc0 := 30) (pc' := 38) rfl (hb hby at_30) rfl (feq hc30_5).2 (by decide) (by decide) ?_
          show Steps p.tables e below (T1.setTop (mkF m 38 #[.val (.int p1), .val (.int (p1 &&& (3 : Int32))), .val (.ref r1), .unset] [])) _
          refine XS.iconst X1.here hx rfl (hb hby at_38) ?_
          show Steps p.tables e below (T1.setTop (mkF m 39 #[.val (.int p1), .val (.int (p1 &&& (3 : Int32))), .val (.ref r1), .unset] [(.int (0 : Int32))])) _
          refine XS.istoreN X1.here hx rfl (hb hby at_39) rfl (l' := #[.val (.int p1), .val (.int (p1 &&& (3 : Int32))), .val (.ref r1), .val (.int (0 : Int32))]) rfl ?_
          exact k
  refine own_go (B := T1.setTop (mkF m 41 #[.val (.int p1), .val (.int (p1 &&& (3 : Int32))), .val (.ref r1), .val (.int z2)] [(.ref r1)])) (fun t k => ?_) ?_
  · show Steps p.tables e below (T1.setTop (mkF m 40 #[.val (.int p1), .val (.int (p1 &&& (3 : Int32))), .val (.ref r1), .val (.int z2)] [])) _
    refine XS.aloadN X1.here hx rfl (hb hby at_40) rfl rfl ?_
    exact k
  obtain ⟨cq6, kq6, q6a, q6b, q6c⟩ := isOf hZ eq1 E_r1
  obtain ⟨_, _, ⟨T6, L6, k6, n6⟩, -, X6, ⟨Lc6, hQ6, l6, y6, z6⟩, st6⟩ := X1.virtualBack hx (y := (⟨"com/example/sealwright/sealwright/model/SignatureScheme", "inSigningBlock", "()Z"⟩ : MethodName)) (z := (⟨"com/example/sealwright/sealwright/model/SignatureScheme", "inSigningBlock", "()Z"⟩ : MethodName)) hown (mvT hZ (hw _ (List.mem_of_getElem? (i := 7) rfl))) (mvT hZ (hw _ (List.mem_of_getElem? (i := 8) rfl))) (notFace_of_selects (args := #[]) (mvT hZ (hw _ (List.mem_of_getElem? (i := 10) rfl)))) (mvT hZ (hw _ (List.mem_of_getElem? (i := 10) rfl))) (mvT hZ (hw _ (List.mem_of_getElem? (i := 9) rfl))) (by decide) (backOf (W := 0) (rm2 l Z a0 hw [] r1 w_V1 w_V2 w_V3 w_V4 h0 n0 Z0 S_V1 S_V2 S_V3 S_V4) hZ (hw _ (List.mem_of_getElem? (i := 11) rfl)) (hw _ (List.mem_of_getElem? (i := 5) rfl)) (by decide) (by decide)) q6a q6c (g := (mkF m 41 #[.val (.int p1), .val (.int (p1 &&& (3 : Int32))), .val (.ref r1), .val (.int z2)] [(.ref r1)])) rfl (by rw [hml]; rfl) (Steps.refl _) (argsL := []) (rest := []) (lenOf own_pd1 rfl) rfl (by show 2 * 0 + _ ≤ _; exact Nat.le_of_eq rfl) (hb hby at_41) (fun _ _ => ⟨rfl, eq1, (by decide : 0 + 0 ≤ _), (by decide : 0 + 0 ≤ _)⟩)
  dsimp only [Pt.U, Pt.locs, Pt.cells, Pt.slots] at X6 l6 y6 z6 st6 hQ6
  subst l6 y6 z6
  obtain ⟨rfl, N6q, eq6⟩ := hQ6
  have N6 := Fr.app N1 N6q
  refine own_go (B := T6.setTop (mkF m 44 #[.val (.int p1), .val (.int (p1 &&& (3 : Int32))), .val (.ref r1), .val (.int z2)] [(.int (own_in r1 w_V2 w_V3))])) (fun t k => st6.trans k) ?_
  obtain ⟨fs, hr, hrun, hended, hW, hsame⟩ := X6.leave (v := some (.int (1 : Int32))) (fun h => by rw [Bd.returns] at h; cases h)
  refine ⟨_, _, ?_, hrun, hended, _, _, rfl, ?_, ⟨_, rfl⟩, hW, hsame.mono (by decide) (by decide)⟩
  · show Steps p.tables e below (T6.setTop (mkF m 44 #[.val (.int p1), .val (.int (p1 &&& (3 : Int32))), .val (.ref r1), .val (.int z2)] [(.int (own_in r1 w_V2 w_V3))])) _
    refine XS.iloadN X6.here hx rfl (hb hby at_44) rfl ?_
    show Steps p.tables e below (T6.setTop (mkF m 45 #[.val (.int p1), .val (.int (p1 &&& (3 : Int32))), .val (.ref r1), .val (.int z2)] [(.int z2), (.int (own_in r1 w_V2 w_V3))])) _
    refine XS.icmpNo X6.here hx rfl (hb hby at_45) rfl (teq (by rw [hz2, hr1]; exact own_law _ w_V1 w_V2 w_V3 w_V4 ne_V1_V2 ne_V1_V3 ne_V2_V4 ne_V3_V4)).2 ?_
    show Steps p.tables e below (T6.setTop (mkF m 48 #[.val (.int p1), .val (.int (p1 &&& (3 : Int32))), .val (.ref r1), .val (.int z2)] [])) _
    refine XS.iconst X6.here hx rfl (hb hby at_48) ?_
    show Steps p.tables e below (T6.setTop (mkF m 49 #[.val (.int p1), .val (.int (p1 &&& (3 : Int32))), .val (.ref r1), .val (.int z2)] [(.int (1 : Int32))])) _
    refine XS.goto X6.here hx rfl (pc0 := 49) (pc' := 53) rfl (hb hby at_49) (by decide) (by decide) ?_
    show Steps p.tables e below (T6.setTop (mkF m 53 #[.val (.int p1), .val (.int (p1 &&& (3 : Int32))), .val (.ref r1), .val (.int z2)] [(.int (1 : Int32))])) _
    exact retN X6 hx (t := .boolean) Bd.returns (by simp) (hb hby at_53) hr
  · show Q0 Z p1 w_V1 w_V2 w_V3 w_V4 h0 n0 _ T6.heap _
    rw [eq6]
    exact ⟨rfl, N6⟩
set_option maxRecDepth 65536 in
set_option maxHeartbeats 40000000 in
theorem comes_1 {Post : Tables → Env → Array Value → State → Outcome → State → Prop} (hpost : ∀ tb e args s v u, (limb_1_1.after args s (.returned v) u = true ∧ limb_1_2.after args s (.returned v) u = true ∧ True) → FrameEnd s (.returned v) u (Jvm.fieldLocs frame_1_writes args s ++ Jvm.arrayLocs frame_1_arrays args s ++ Jvm.staticLocs frame_1_statics s) 0 0 → Post tb e args s (.returned v) u) :
    ArmFor flags0 classFile x code maxLocals ret World_1 tables_1 room_1 Calls_1 rest_1 Pre_1 Post := by
  intro l hfl _ _ p e ha hc hk s m args below hf hA hF happ hP
  obtain ⟨hcalls, hrest, hpre⟩ := hP
  obtain ⟨-, -, -, hnamed, -, -, -, hat⟩ := (Spec.applies_iff hf).mp happ
  obtain ⟨hg, hn⟩ := and_e (Cond.before_iff.mp (show (Jvm.Cond.and given_1 narrow_1).before args s = true from hpre))
  obtain ⟨gc, ga0⟩ := and_e hg
  obtain ⟨w0, rfl⟩ : ∃ w0 : Value, args = #[w0] := by
    have hs : args.size = 1 := by simpa [Cond.value, given_1] using gc
    obtain ⟨L⟩ := args
    match L, hs with
    | [w0], _ => exact ⟨w0, rfl⟩
  have hw := fun d (hd : d ∈ tables_1) => atoms_spec (ws := Jvm.Cond.code x code maxLocals ret :: tables_1) hat d (List.mem_cons_of_mem _ hd)
  have hfit : Fit s := fun {y c} hc i hi => by
    obtain ⟨ha, rfl⟩ := Array.getElem?_eq_some_iff.mp hc
    have q := List.all_eq_true.mp ((Array.all_eq_true_iff_forall_mem.mp hF) _ (Array.getElem_mem ha)) i (List.mem_range.mpr hi)
    simpa [Array.getElem?_eq_getElem hi] using q
  obtain ⟨i0, ei0⟩ := is_v ga0
  obtain rfl : w0 = (.int i0) := Option.some.inj ei0
  obtain ⟨hx0, hy0⟩ := and_e hn
  obtain ⟨hx1, hy1⟩ := and_e hy0
  obtain ⟨hx2, hy2⟩ := and_e hy1
  obtain ⟨hx3, hy3⟩ := and_e hy2
  obtain ⟨hx4, hy4⟩ := and_e hy3
  obtain ⟨hx5, hy5⟩ := and_e hy4
  obtain ⟨hx6, hy6⟩ := and_e hy5
  obtain ⟨w_V1, ev_V1⟩ := exa_v hx0
  have S_V1 : Sta s s.heap "com/example/sealwright/sealwright/model/SignatureScheme" "V1" "Lcom/example/sealwright/sealwright/model/SignatureScheme;" (.ref w_V1) := Sta.start ev_V1 (Or.inr ⟨(hw _ (List.mem_of_getElem? (i := 5) rfl)), (hw _ (List.mem_of_getElem? (i := 6) rfl))⟩)
  have E_V1 : Exa s s.heap w_V1 "com/example/sealwright/sealwright/model/SignatureScheme" := Exa.start ev_V1 hx0
  have o_V1 : s.fieldOf? w_V1 "java/lang/Enum" "ordinal" "I" = some (.int (0 : Int32)) := own_ord ev_V1 hx2
  obtain ⟨w_V2, ev_V2⟩ := exa_v hx1
  have S_V2 : Sta s s.heap "com/example/sealwright/sealwright/model/SignatureScheme" "V2" "Lcom/example/sealwright/sealwright/model/SignatureScheme;" (.ref w_V2) := Sta.start ev_V2 (Or.inr ⟨(hw _ (List.mem_of_getElem? (i := 5) rfl)), (hw _ (List.mem_of_getElem? (i := 13) rfl))⟩)
  have E_V2 : Exa s s.heap w_V2 "com/example/sealwright/sealwright/model/SignatureScheme" := Exa.start ev_V2 hx1
  have o_V2 : s.fieldOf? w_V2 "java/lang/Enum" "ordinal" "I" = some (.int (1 : Int32)) := own_ord ev_V2 hx3
  obtain ⟨w_V3, ev_V3⟩ := exa_v hx4
  have S_V3 : Sta s s.heap "com/example/sealwright/sealwright/model/SignatureScheme" "V3" "Lcom/example/sealwright/sealwright/model/SignatureScheme;" (.ref w_V3) := Sta.start ev_V3 (Or.inr ⟨(hw _ (List.mem_of_getElem? (i := 5) rfl)), (hw _ (List.mem_of_getElem? (i := 15) rfl))⟩)
  have E_V3 : Exa s s.heap w_V3 "com/example/sealwright/sealwright/model/SignatureScheme" := Exa.start ev_V3 hx4
  have o_V3 : s.fieldOf? w_V3 "java/lang/Enum" "ordinal" "I" = some (.int (2 : Int32)) := own_ord ev_V3 hx5
  obtain ⟨w_V4, ev_V4⟩ := exa_v hx6
  have S_V4 : Sta s s.heap "com/example/sealwright/sealwright/model/SignatureScheme" "V4" "Lcom/example/sealwright/sealwright/model/SignatureScheme;" (.ref w_V4) := Sta.start ev_V4 (Or.inr ⟨(hw _ (List.mem_of_getElem? (i := 5) rfl)), (hw _ (List.mem_of_getElem? (i := 17) rfl))⟩)
  have E_V4 : Exa s s.heap w_V4 "com/example/sealwright/sealwright/model/SignatureScheme" := Exa.start ev_V4 hx6
  have o_V4 : s.fieldOf? w_V4 "java/lang/Enum" "ordinal" "I" = some (.int (3 : Int32)) := own_ord ev_V4 hy6
  have ne_V1_V2 : w_V1 ≠ w_V2 := fun q => by rw [q, o_V2] at o_V1; simp at o_V1
  have ne_V1_V3 : w_V1 ≠ w_V3 := fun q => by rw [q, o_V3] at o_V1; simp at o_V1
  have ne_V1_V4 : w_V1 ≠ w_V4 := fun q => by rw [q, o_V4] at o_V1; simp at o_V1
  have ne_V2_V3 : w_V2 ≠ w_V3 := fun q => by rw [q, o_V3] at o_V2; simp at o_V2
  have ne_V2_V4 : w_V2 ≠ w_V4 := fun q => by rw [q, o_V4] at o_V2; simp at o_V2
  have ne_V3_V4 : w_V3 ≠ w_V4 := fun q => by rw [q, o_V4] at o_V3; simp at o_V3
  obtain ⟨n, o, h1, h2, h3, _, L, rfl, ⟨rfl, N⟩, hq⟩ := rm0 l s _ hw tables_1 i0 w_V1 w_V2 w_V3 w_V4 s.heap s.heap.size (Nat.le_refl _) S_V1 S_V2 S_V3 S_V4 E_V1 E_V2 E_V3 E_V4 ne_V1_V2 ne_V1_V3 ne_V1_V4 ne_V2_V3 ne_V2_V4 ne_V3_V4 p e ha hc hk s m _ below hf ((Spec.applies_iff_loose hf).mp happ).1 ⟨rfl, State.Warmed39.refl s, rfl⟩ trivial
  refine ⟨n, _, h1, h2, h3, hpost _ _ _ _ _ _ ⟨Cond.after_iff.mpr rfl, Cond.after_iff.mpr (eq_i res_at (Term.int_eval (1)) rfl), trivial⟩ ⟨hq.1, hq.2.1, (hq.2.2.sift fun y hy => Or.inr (N y hy)).mono (by decide) (by decide)⟩⟩
theorem main_1_1 : Claimed_1_1 := comes_1 fun _ _ _ _ _ _ h hF => ⟨h.1, hF⟩
theorem main_1_2 : Claimed_1_2 := comes_1 fun _ _ _ _ _ _ h hF => ⟨h.2.1, hF⟩
end Jvm.Pilot.@@N@@
namespace Jvm.Pilot.@@N@@
open Jvm Jvm.ClassFile Sem Op Lib Jvm.Free Jvm.Stand Jvm.Pilot.@@N@@.Jvm.D
/-! MADE BY PROGRAM (witnessworld.py) out of the Statement's table words and the real class files: 12 classes; the members and pool entries that the words name. The judged class is class 1, her method 2. -/
namespace start1
open Jvm.ClassFile
def u (s : String) : CpInfo := .utf8 (stringToUtf16 s)
/-- a pool by its gaps: so many unusable entries, then the entry; so many at the end -/
def gap : Nat → List CpInfo → List CpInfo
  | 0, r => r
  | n + 1, r => .unusable :: gap n r
def poolList (es : List (Nat × CpInfo)) (last : Nat) : List CpInfo := es.foldr (fun e r => gap e.1 (e.2 :: r)) (gap last [])
def pool (es : List (Nat × CpInfo)) (last : Nat) : Array CpInfo := ⟨poolList es last⟩
def fileOf (pool : Array CpInfo) (this : Nat) (attrs : Array Attribute := #[]) (ms : Array MethodInfo := #[]) (fl : Nat := 33) (sup : Nat := 0) (ifs : Array Nat := #[]) (fds : Array FieldInfo := #[]) : ClassFile where
  minorVersion := 0
  majorVersion := 65
  constantPool := pool
  accessFlags := fl
  thisClass := this
  superClass := sup
  interfaces := ifs
  fields := fds
  methods := ms
  attributes := attrs
def plain (name : String) (sup : Option ClassId) : Class where
  name := name
  kind := .ordinary
  loader := none
  accessFlags := 33
  super := sup
  interfaces := #[]
  cf := none
  fields := #[]
  methods := #[]
  instanceTypes := #[]
  staticTypes := #[]
  resolved := #[]
  callSites := []
  init := .initialized
  statics := none
  mirror := none

def pool0 : Array CpInfo := pool [(5, u "<init>"), (0, u "()V"), (1, .class_ 10), (1, u "java/lang/Object")] 113

def k0m0 : Method := { name := "<init>", desc := "()V", sig := { parameters := [], returnType := none }, accessFlags := 1, code := none }
/-- java/lang/Object -/
def k0 : Class := { plain "java/lang/Object" none with
  accessFlags := 33
  interfaces := #[]
  cf := some (fileOf pool0 8 #[] #[{ accessFlags := 1, nameIndex := 5, descriptorIndex := 6, attributes := #[] }] 33 0 #[] #[])
  fields := #[]
  methods := #[k0m0]
  instanceTypes := #[]
  staticTypes := #[]
  resolved := Array.replicate 124 none
  statics := none }

def pool1 : Array CpInfo := pool [(2, .class_ 4), (1, u "java/lang/Object"), (0, u "<init>"), (0, u "()V"), (0, .fieldref 8 9), (0, .class_ 10), (0, .nameAndType 11 12), (0, u "com/example/sealwright/sealwright/model/SignatureScheme"), (0, u "V1"), (0, u "Lcom/example/sealwright/sealwright/model/SignatureScheme;"), (0, .fieldref 8 14), (0, .nameAndType 15 12), (0, u "V2"), (0, .fieldref 8 17), (0, .nameAndType 18 12), (0, u "V3"), (0, .fieldref 8 20), (0, .nameAndType 21 12), (0, u "V4"), (0, .methodref 23 24), (0, .class_ 25), (0, .nameAndType 26 27), (0, u "com/example/sealwright/sealwright/model/SignatureSchemeInSigningBlockPinLaw"), (0, u "pick"), (0, u "(I)Lcom/example/sealwright/sealwright/model/SignatureScheme;"), (0, .methodref 8 29), (0, .nameAndType 30 31), (0, u "inSigningBlock"), (0, u "()Z"), (3, u "law"), (0, u "(I)Z")] 2

def k1m0 : Method := { name := "<init>", desc := "()V", sig := { parameters := [], returnType := none }, accessFlags := 2, code := none }
def k1c1 : Code := { maxStack := 2, maxLocals := 1, code := method_2_code, exceptionTable := #[], attributes := #[] }
def k1m1 : Method := { name := "pick", desc := "(I)Lcom/example/sealwright/sealwright/model/SignatureScheme;", sig := { parameters := [.int], returnType := some (.object "com/example/sealwright/sealwright/model/SignatureScheme") }, accessFlags := 10, code := some k1c1 }
def k1c2 : Code := { maxStack := 2, maxLocals := 4, code := code, exceptionTable := #[], attributes := #[] }
def k1m2 : Method := { name := "law", desc := "(I)Z", sig := { parameters := [.int], returnType := some .boolean }, accessFlags := 9, code := some k1c2 }
/-- com/example/sealwright/sealwright/model/SignatureSchemeInSigningBlockPinLaw -/
def k1 : Class := { plain "com/example/sealwright/sealwright/model/SignatureSchemeInSigningBlockPinLaw" (some 0) with
  accessFlags := 49
  interfaces := #[]
  cf := some (fileOf pool1 23 #[] #[{ accessFlags := 2, nameIndex := 5, descriptorIndex := 6, attributes := #[] }, { accessFlags := 10, nameIndex := 26, descriptorIndex := 27, attributes := #[] }, { accessFlags := 9, nameIndex := 35, descriptorIndex := 36, attributes := #[] }] 49 2 #[] #[])
  fields := #[]
  methods := #[k1m0, k1m1, k1m2]
  instanceTypes := #[]
  staticTypes := #[]
  resolved := Array.replicate 39 none
  statics := none }

def pool2 : Array CpInfo := pool [(1, .class_ 2), (0, u "java/lang/constant/Constable"), (0, .class_ 4), (0, u "java/lang/Object")] 6

/-- java/lang/constant/Constable -/
def k2 : Class := { plain "java/lang/constant/Constable" (some 0) with
  accessFlags := 1537
  interfaces := #[]
  cf := some (fileOf pool2 1 #[] #[] 1537 3 #[] #[])
  fields := #[]
  methods := #[]
  instanceTypes := #[]
  staticTypes := #[]
  resolved := Array.replicate 11 none
  statics := none }

def pool3 : Array CpInfo := pool [(1, .class_ 2), (0, u "java/lang/Comparable"), (0, .class_ 4), (0, u "java/lang/Object")] 7

/-- java/lang/Comparable -/
def k3 : Class := { plain "java/lang/Comparable" (some 0) with
  accessFlags := 1537
  interfaces := #[]
  cf := some (fileOf pool3 1 #[] #[] 1537 3 #[] #[])
  fields := #[]
  methods := #[]
  instanceTypes := #[]
  staticTypes := #[]
  resolved := Array.replicate 12 none
  statics := none }

def pool4 : Array CpInfo := pool [(1, .class_ 2), (0, u "java/io/Serializable"), (0, .class_ 4), (0, u "java/lang/Object")] 2

/-- java/io/Serializable -/
def k4 : Class := { plain "java/io/Serializable" (some 0) with
  accessFlags := 1537
  interfaces := #[]
  cf := some (fileOf pool4 1 #[] #[] 1537 3 #[] #[])
  fields := #[]
  methods := #[]
  instanceTypes := #[]
  staticTypes := #[]
  resolved := Array.replicate 7 none
  statics := none }

def pool5 : Array CpInfo := pool [(2, .class_ 4), (1, u "java/lang/Enum"), (0, u "name"), (0, u "Ljava/lang/String;"), (2, u "ordinal"), (0, u "I"), (1, .class_ 14), (1, u "java/lang/Object"), (4, u "hash"), (86, .class_ 108), (1, u "java/lang/Enum$EnumDesc"), (2, .class_ 112), (0, u "java/lang/constant/Constable"), (0, .class_ 114), (0, u "java/lang/Comparable"), (0, .class_ 116), (0, u "java/io/Serializable")] 87

/-- java/lang/Enum -/
def k5 : Class := { plain "java/lang/Enum" (some 0) with
  accessFlags := 1057
  interfaces := #[2, 3, 4]
  cf := some (fileOf pool5 2 #[.nestMembers #[106]] #[] 1057 12 #[111, 113, 115] #[{ accessFlags := 18, nameIndex := 5, descriptorIndex := 6, attributes := #[] }, { accessFlags := 18, nameIndex := 9, descriptorIndex := 10, attributes := #[] }, { accessFlags := 2, nameIndex := 19, descriptorIndex := 10, attributes := #[] }])
  fields := #[{ name := "name", type := (.object "java/lang/String"), accessFlags := 18, slot := 0, constantValue := 0 }, { name := "ordinal", type := .int, accessFlags := 18, slot := 1, constantValue := 0 }, { name := "hash", type := .int, accessFlags := 2, slot := 2, constantValue := 0 }]
  methods := #[]
  instanceTypes := #[(.object "java/lang/String"), .int, .int]
  staticTypes := #[]
  resolved := Array.replicate 204 none
  statics := none }

def pool6 : Array CpInfo := pool [(1, .class_ 2), (0, u "com/example/sealwright/sealwright/model/SignatureScheme"), (2, u "V1"), (0, u "Lcom/example/sealwright/sealwright/model/SignatureScheme;"), (0, .fieldref 1 8), (0, .nameAndType 9 6), (0, u "V2"), (0, .fieldref 1 11), (0, .nameAndType 12 6), (0, u "V3"), (2, u "V4"), (2, u "$VALUES"), (0, u "[Lcom/example/sealwright/sealwright/model/SignatureScheme;"), (6, .class_ 28), (1, u "java/lang/Enum"), (8, u "number"), (0, u "I"), (54, u "inSigningBlock"), (0, u "()Z")] 9

def k6c0 : Code := { maxStack := 2, maxLocals := 1, code := prog_79_method_5_code, exceptionTable := #[], attributes := #[] }
def k6m0 : Method := { name := "inSigningBlock", desc := "()Z", sig := { parameters := [], returnType := some .boolean }, accessFlags := 1, code := some k6c0 }
/-- com/example/sealwright/sealwright/model/SignatureScheme -/
def k6 : Class := { plain "com/example/sealwright/sealwright/model/SignatureScheme" (some 5) with
  accessFlags := 16433
  interfaces := #[]
  cf := some (fileOf pool6 1 #[] #[{ accessFlags := 1, nameIndex := 93, descriptorIndex := 94, attributes := #[] }] 16433 26 #[] #[{ accessFlags := 16409, nameIndex := 5, descriptorIndex := 6, attributes := #[] }, { accessFlags := 16409, nameIndex := 9, descriptorIndex := 6, attributes := #[] }, { accessFlags := 16409, nameIndex := 12, descriptorIndex := 6, attributes := #[] }, { accessFlags := 16409, nameIndex := 15, descriptorIndex := 6, attributes := #[] }, { accessFlags := 18, nameIndex := 37, descriptorIndex := 38, attributes := #[] }, { accessFlags := 4122, nameIndex := 18, descriptorIndex := 19, attributes := #[] }])
  fields := #[{ name := "V1", type := (.object "com/example/sealwright/sealwright/model/SignatureScheme"), accessFlags := 16409, slot := 0, constantValue := 0 }, { name := "V2", type := (.object "com/example/sealwright/sealwright/model/SignatureScheme"), accessFlags := 16409, slot := 1, constantValue := 0 }, { name := "V3", type := (.object "com/example/sealwright/sealwright/model/SignatureScheme"), accessFlags := 16409, slot := 2, constantValue := 0 }, { name := "V4", type := (.object "com/example/sealwright/sealwright/model/SignatureScheme"), accessFlags := 16409, slot := 3, constantValue := 0 }, { name := "number", type := .int, accessFlags := 18, slot := 3, constantValue := 0 }, { name := "$VALUES", type := (.array (.object "com/example/sealwright/sealwright/model/SignatureScheme")), accessFlags := 4122, slot := 4, constantValue := 0 }]
  methods := #[k6m0]
  instanceTypes := #[(.object "java/lang/String"), .int, .int, .int]
  staticTypes := #[(.object "com/example/sealwright/sealwright/model/SignatureScheme"), (.object "com/example/sealwright/sealwright/model/SignatureScheme"), (.object "com/example/sealwright/sealwright/model/SignatureScheme"), (.object "com/example/sealwright/sealwright/model/SignatureScheme"), (.array (.object "com/example/sealwright/sealwright/model/SignatureScheme"))]
  resolved := Array.replicate 104 none
  statics := some 0 }

def pool7 : Array CpInfo := pool [(1, u "java/lang/Cloneable"), (0, .class_ 1), (0, u "java/lang/Object"), (0, .class_ 3)] 3

/-- java/lang/Cloneable -/
def k7 : Class := { plain "java/lang/Cloneable" (some 0) with
  accessFlags := 1537
  interfaces := #[]
  cf := some (fileOf pool7 2 #[] #[] 1537 4 #[] #[])
  fields := #[]
  methods := #[]
  instanceTypes := #[]
  staticTypes := #[]
  resolved := Array.replicate 8 none
  statics := none }

/-- the primitive byte -/
def k8 : Class := { plain "byte" none with kind := .primitive 'B', accessFlags := 0x411 }
/-- [B -/
def k9 : Class := { plain "[B" (some 0) with kind := .array 8 .byte, interfaces := #[7, 4], accessFlags := 1041 }

/-- the primitive int -/
def k10 : Class := { plain "int" none with kind := .primitive 'I', accessFlags := 0x411 }
/-- [I -/
def k11 : Class := { plain "[I" (some 0) with kind := .array 10 .int, interfaces := #[7, 4], accessFlags := 1041 }

def heap : Heap := #[{ cls := 6, slots := #[.ref 1, .ref 2, .ref 3, .ref 4, .null], vm := .statics 6 },
  { cls := 6, slots := #[.null, .int 0, .int 0, .int 0], vm := .none },
  { cls := 6, slots := #[.null, .int 1, .int 0, .int 0], vm := .none },
  { cls := 6, slots := #[.null, .int 2, .int 0, .int 0], vm := .none },
  { cls := 6, slots := #[.null, .int 3, .int 0, .int 0], vm := .none }]
def classes : Array Class := #[k0, k1, k2, k3, k4, k5, k6, k7, k8, k9, k10, k11]
def interned : List (Array UInt16 × Addr) := []
def slotsUsed : Nat := 21
def theMethod : MethodId := ⟨1, 2⟩
def args0 : Array Value := #[.int 1]
def aboutOver (below : List Frame) : State where
  vm := { classes := classes, interned := interned.toArray }
  heap := heap
  slotsUsed := slotsUsed
  threads := #[{ frames := .invoking theMethod args0 :: below }]
def below0 : List Frame := [.native { method := ⟨0, 0⟩, args := #[] }]
def about1 : State := aboutOver below0
def p0 : Program := .bare "" "" ""
def e0 : Env := launch0.env 0 0 0
theorem w_frames : about1.frames = Frame.invoking theMethod args0 :: below0 := rfl
set_option maxRecDepth 65536 in
theorem w_args : argsFit about1.vm theMethod args0 = true := by decide +kernel
set_option maxRecDepth 65536 in
theorem w_heap : heapFits about1 = true := by decide +kernel
set_option maxRecDepth 65536 in
theorem w_runnable : about1.curStatus? = some .runnable := by decide +kernel
set_option maxRecDepth 65536 in
theorem w_alone : about1.alone = true := by decide +kernel
set_option maxRecDepth 65536 in
theorem w_named : about1.methodNamed? x = some theMethod := by decide +kernel
set_option maxRecDepth 65536 in
theorem w_hears : about1.hears theMethod below0 = true := by decide +kernel
set_option maxRecDepth 65536 in
theorem w_ripe : about1.ripe theMethod args0 below0 = true := by decide +kernel
theorem w_running : about1.status = .running := rfl
set_option maxRecDepth 65536 in
theorem w_room : about1.hasRoom e0.platform room_1 = true :=
  launch0.hasRoom_least _ room_1 (by decide +kernel) (by decide +kernel) (by decide +kernel) (by decide +kernel) (by decide +kernel) (by decide +kernel)
theorem allAtoms_all (ts : List Jvm.Cond) (a : Array Jvm.Value) (st : Jvm.State) : (allAtoms ts).before a st = ts.all (fun c => c.before a st) := by
  induction ts with
  | nil => rfl
  | cons c t ih =>
    show (Jvm.Cond.and c (allAtoms t)).before a st = _
    rw [Jvm.Cond.before_and, ih, List.all_cons]
def words1 : List Jvm.Cond := Jvm.Cond.code x code maxLocals ret :: tables_1
/-- a 'code' word, met by the world's own term for the bytes: nothing is compared byte by byte -/
theorem code_word {y : MethodName} {bytes : ByteArray} {mx : Nat} {rt : Option FieldType} {a : Array Value} {s : State} {m : MethodId} {meth : Method} {c : Code} (h1 : s.methodNamed? y = some m) (h2 : s.vm.method? m = some meth) (h3 : meth.code = some c) (h4 : c.code = bytes)
    (h5 : (c.maxLocals == mx && c.exceptionTable.isEmpty && decide (c.maxStack ≤ mostOperands) && decide (meth.sig.returnType = rt) && !meth.locks && decide (parseMethodDescriptor y.desc = some meth.sig)) = true) : (Jvm.Cond.code y bytes mx rt).before a s = true := by
  simp only [Bool.and_eq_true, beq_iff_eq, Bool.not_eq_true', decide_eq_true_eq] at h5
  obtain ⟨⟨⟨⟨⟨g1, g2⟩, g3⟩, g4⟩, g5⟩, g6⟩ := h5
  simp [Cond.before, Cond.holds, Cond.value, h1, h2, h3, h4, g1, g2, g3, g4, g5, g6]
def isCode : Jvm.Cond → Bool
  | .code _ _ _ _ => true
  | _ => false
theorem all_split {L : List Jvm.Cond} {P : Jvm.Cond → Bool} (h1 : L.all (fun c => isCode c || P c) = true) (h2 : ∀ c ∈ L.filter isCode, P c = true) : L.all P = true := by
  refine List.all_eq_true.mpr fun c hc => ?_
  have h := List.all_eq_true.mp h1 c hc
  rcases Bool.eq_false_or_eq_true (isCode c) with hi | hi
  · exact h2 c (List.mem_filter.mpr ⟨hc, hi⟩)
  · simpa [hi] using h
set_option maxRecDepth 65536 in
theorem w_c0 : (Jvm.Cond.code x code maxLocals ret).before args0 about1 = true := code_word (m := ⟨1, 2⟩) (meth := k1m2) (c := k1c2) (by decide +kernel) rfl rfl rfl (by decide +kernel)
set_option maxRecDepth 65536 in
theorem w_c1 : (Jvm.Cond.code ({ cls := "com/example/sealwright/sealwright/model/SignatureSchemeInSigningBlockPinLaw", name := "pick", desc := "(I)Lcom/example/sealwright/sealwright/model/SignatureScheme;" } : Jvm.MethodName) method_2_code (1 : Nat) (Option.some (Jvm.ClassFile.FieldType.object "com/example/sealwright/sealwright/model/SignatureScheme"))).before args0 about1 = true := code_word (m := ⟨1, 1⟩) (meth := k1m1) (c := k1c1) (by decide +kernel) rfl rfl rfl (by decide +kernel)
set_option maxRecDepth 65536 in
theorem w_c2 : (Jvm.Cond.code ({ cls := "com/example/sealwright/sealwright/model/SignatureScheme", name := "inSigningBlock", desc := "()Z" } : Jvm.MethodName) prog_79_method_5_code (1 : Nat) (Option.some Jvm.ClassFile.FieldType.boolean)).before args0 about1 = true := code_word (m := ⟨6, 0⟩) (meth := k6m0) (c := k6c0) (by decide +kernel) rfl rfl rfl (by decide +kernel)
def codes1 : List Jvm.Cond := [Jvm.Cond.code x code maxLocals ret, Jvm.Cond.code ({ cls := "com/example/sealwright/sealwright/model/SignatureSchemeInSigningBlockPinLaw", name := "pick", desc := "(I)Lcom/example/sealwright/sealwright/model/SignatureScheme;" } : Jvm.MethodName) method_2_code (1 : Nat) (Option.some (Jvm.ClassFile.FieldType.object "com/example/sealwright/sealwright/model/SignatureScheme")), Jvm.Cond.code ({ cls := "com/example/sealwright/sealwright/model/SignatureScheme", name := "inSigningBlock", desc := "()Z" } : Jvm.MethodName) prog_79_method_5_code (1 : Nat) (Option.some Jvm.ClassFile.FieldType.boolean)]
set_option maxRecDepth 65536 in
theorem codes_eq : words1.filter isCode = codes1 := rfl
theorem w_codes : ∀ c ∈ words1.filter isCode, c.before args0 about1 = true := by
  rw [codes_eq]
  intro c hc
  simp only [codes1, List.mem_cons, List.not_mem_nil, or_false] at hc
  rcases hc with rfl | rfl | rfl
  · exact w_c0
  · exact w_c1
  · exact w_c2
set_option maxRecDepth 65536 in
theorem w_t1 : words1.all (fun c => isCode c || c.before args0 about1) = true := by decide +kernel
theorem w_tables : (allAtoms (Jvm.Cond.code x code maxLocals ret :: tables_1)).before args0 about1 = true := by
  rw [allAtoms_all]
  show words1.all (fun c => c.before args0 about1) = true
  refine all_split ?_ w_codes
  rw [w_t1]
set_option maxRecDepth 65536 in
theorem w_case : (Jvm.Cond.and given_1 narrow_1).before args0 about1 = true := by decide +kernel
theorem w_applies : (headSpec (Jvm.Cond.code x code maxLocals ret :: tables_1) room_1).applies x e0.platform about1 = true :=
  (Spec.applies_iff w_frames).mpr ⟨w_running, w_runnable, w_alone, w_named, w_hears, w_ripe, w_room, w_tables⟩
theorem atStart : AtStart classFile x code maxLocals ret World_1 tables_1 room_1 Calls_1 rest_1 Pre_1 launch0 p0 e0 about1 theMethod args0 below0 :=
  ⟨lists_1, trivial, launch0.admits_env _ _ _, launch0.least_env, fairChoices_fair.cas, fairChoices_fair.clock, w_frames, w_args, w_heap, w_applies, trivial, trivial, w_case⟩
end start1
theorem witness_1 : WitnessClaimed_1 := ⟨start1.p0, start1.e0, start1.about1, start1.theMethod, start1.args0, start1.below0, start1.atStart⟩
end Jvm.Pilot.@@N@@
