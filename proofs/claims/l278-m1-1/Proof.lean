import JvmDerived
import JvmDerived.Pilot.@@N@@Statement
import JvmDerived.Pilot.@@N@@Code
set_option linter.unusedVariables false
set_option linter.unusedSimpArgs false
namespace Jvm.RoadKit
open Sem ClassFile Op Lib Jvm.Stand Jvm.Free Jvm.LawKit
section New
variable {p : Program} {l : Launch} {e : Env} {R : Room} {s : State} {m : MethodId} {args : Array Value} {below : List Frame} {meth : Method} {c : Code} {T : State} {locs : List Loc} {cells slots : Nat}
theorem retI (X : Stand p l e R s m args below meth c T locs cells slots) (hx : p.tables.exec = Jvm.exec) {pc : Nat} {Ls : Array Slot} {z : Int32} {rest : List Value} (hret : meth.sig.returnType = some .int) (hd : decode c.code pc = .ok (.ireturn, 1)) {fs : List Frame}
    (hl : ∀ (f : JFrame) (acts : List Action), f.method = m → f.locked = none → f.entered = [] → (doReturn e (T.setTop f) acts (some (.int z))).1 = T.setFrames fs) : Steps p.tables e below (T.setTop (mkF m pc Ls (.int z :: rest))) (T.setFrames fs) := by
  have hm' : T.vm.method? m = some meth := X.method'
  have hn : narrow .int (.int z) = .int z := rfl
  show Steps p.tables e below (T.setTop { method := m, pc := pc, locals := Ls, stack := _ :: rest, locked := none }) _
  jvm_step X.here [X.here.top, hx, hd, hm', hret, hn]
  first | (intro acts; rw [hl _ acts rfl rfl rfl]) | rw [hl _ _ rfl rfl rfl]
  exact Steps.refl _
end New
end Jvm.RoadKit
namespace Jvm.Pilot.@@N@@
open Jvm Jvm.ClassFile Sem Op Lib Jvm.Free Jvm.Stand Jvm.LawKit Jvm.RoadKit Bundle Jvm.Pilot.@@N@@.Jvm.D
theorem own_go {tb : Tables} {e : Env} {below : List Frame} {A B : State} {R : State → Outcome → Prop} (h : ∀ t, Steps tb e below B t → Steps tb e below A t) (k : ∃ s₂ o, Steps tb e below B s₂ ∧ R s₂ o) : ∃ s₂ o, Steps tb e below A s₂ ∧ R s₂ o := by
  obtain ⟨s₂, o, h1, h2⟩ := k
  exact ⟨s₂, o, h _ h1, h2⟩
theorem own_pd0 : parseMethodDescriptor "(I)Lcom/example/palinode/palinode/Run$End;" = some ⟨[.int], some (.object "com/example/palinode/palinode/Run$End")⟩ := by decide +kernel
theorem own_pd1 : parseMethodDescriptor "(II)I" = some ⟨[.int, .int], some .int⟩ := by decide +kernel
theorem own_pd2 : parseMethodDescriptor "(Lcom/example/palinode/palinode/Run$End;)Lcom/example/palinode/palinode/Run$End;" = some ⟨[(.object "com/example/palinode/palinode/Run$End")], some (.object "com/example/palinode/palinode/Run$End")⟩ := by decide +kernel
def own_by (i : Int32) (w_OK : Addr) (w_YIELD : Addr) (w_FAIL : Addr) (w_CRASH : Addr) : Addr := if i = (0 : Int32) then w_OK else if i = (1 : Int32) then w_YIELD else if i = (2 : Int32) then w_FAIL else w_CRASH
def own_and (a b : Addr) (w_OK : Addr) (w_YIELD : Addr) (w_FAIL : Addr) (w_CRASH : Addr) : Addr := if a = w_CRASH then w_CRASH else if b = w_CRASH then w_CRASH else if a = w_FAIL then w_FAIL else if b = w_FAIL then w_FAIL else if a = w_YIELD then w_YIELD else if b = w_YIELD then w_YIELD else w_OK
theorem pn_1 : plainName "com/example/palinode/palinode/EndAndPinLaw" = true := by first | (simp [plainName, overriddenIn]; done) | decide +kernel
theorem d1_0 : decode method_2_code 0 = .ok (.iload_n 0, 1) := by decide +kernel
theorem d1_1 : decode method_2_code 1 = .ok (.ifCond .ne 7, 3) := by decide +kernel
theorem d1_4 : decode method_2_code 4 = .ok (.getstatic 7, 3) := by decide +kernel
theorem d1_7 : decode method_2_code 7 = .ok (.areturn, 1) := by decide +kernel
theorem d1_8 : decode method_2_code 8 = .ok (.iload_n 0, 1) := by decide +kernel
theorem d1_9 : decode method_2_code 9 = .ok (.iconst 1, 1) := by decide +kernel
theorem d1_10 : decode method_2_code 10 = .ok (.if_icmp .ne 7, 3) := by decide +kernel
theorem d1_13 : decode method_2_code 13 = .ok (.getstatic 13, 3) := by decide +kernel
theorem d1_16 : decode method_2_code 16 = .ok (.areturn, 1) := by decide +kernel
theorem d1_17 : decode method_2_code 17 = .ok (.iload_n 0, 1) := by decide +kernel
theorem d1_18 : decode method_2_code 18 = .ok (.iconst 2, 1) := by decide +kernel
theorem d1_19 : decode method_2_code 19 = .ok (.if_icmp .ne 7, 3) := by decide +kernel
theorem d1_22 : decode method_2_code 22 = .ok (.getstatic 16, 3) := by decide +kernel
theorem d1_25 : decode method_2_code 25 = .ok (.areturn, 1) := by decide +kernel
theorem d1_26 : decode method_2_code 26 = .ok (.getstatic 19, 3) := by decide +kernel
theorem d1_29 : decode method_2_code 29 = .ok (.areturn, 1) := by decide +kernel
theorem ef_1 (m : MethodId) (x0 : Int32) : entryFrame m #[(.int x0)] 1 = mkF m 0 #[.val (.int x0)] [] := by first | (simp [entryFrame, mkF, argsToLocals, Value.category]; done) | rfl
def Q1 (Z : State) (p1 : Int32) (w_OK : Addr) (w_YIELD : Addr) (w_FAIL : Addr) (w_CRASH : Addr) (h0 : Heap) (n0 : Nat) (v : Option Value) (h : Heap) (L : List Loc) : Prop := v = some (.ref (own_by p1 w_OK w_YIELD w_FAIL w_CRASH)) ∧ Fr n0 L ∧ h = h0
set_option maxRecDepth 65536 in
set_option maxHeartbeats 40000000 in
theorem rm1 (l : Launch) (Z : State) (a0 : Array Value) (hw : ∀ d ∈ tables_1, d.before a0 Z = true) (ws : List Jvm.Cond) (p1 : Int32) (w_OK : Addr) (w_YIELD : Addr) (w_FAIL : Addr) (w_CRASH : Addr) (h0 : Heap) (n0 : Nat) (Z0 : n0 ≤ h0.size) (S_OK : Sta Z h0 "com/example/palinode/palinode/Run$End" "OK" "Lcom/example/palinode/palinode/Run$End;" (.ref w_OK)) (S_YIELD : Sta Z h0 "com/example/palinode/palinode/Run$End" "YIELD" "Lcom/example/palinode/palinode/Run$End;" (.ref w_YIELD)) (S_FAIL : Sta Z h0 "com/example/palinode/palinode/Run$End" "FAIL" "Lcom/example/palinode/palinode/Run$End;" (.ref w_FAIL)) (S_CRASH : Sta Z h0 "com/example/palinode/palinode/Run$End" "CRASH" "Lcom/example/palinode/palinode/Run$End;" (.ref w_CRASH)) :
    MetFree l (⟨"com/example/palinode/palinode/EndAndPinLaw", "bySeverity", "(I)Lcom/example/palinode/palinode/Run$End;"⟩ : MethodName) (head1 (Jvm.Cond.code (⟨"com/example/palinode/palinode/EndAndPinLaw", "bySeverity", "(I)Lcom/example/palinode/palinode/Run$End;"⟩ : MethodName) method_2_code 1 (some (.object "com/example/palinode/palinode/Run$End")) :: ws) ({ frames := 0, cells := 0, slots := 0, locals := 0 } : Room)) (fun a U => a = #[(.int p1)] ∧ Z.Warmed39 U.vm ∧ U.heap = h0) (fun _ _ _ _ _ => True) (fun _ U o U' => ∃ v L, o = .returned v ∧ Q1 Z p1 w_OK w_YIELD w_FAIL w_CRASH h0 n0 v U'.heap L ∧ FrameEnd U o U' L ({ frames := 0, cells := 0, slots := 0, locals := 0 } : Room).cells ({ frames := 0, cells := 0, slots := 0, locals := 0 } : Room).slots) := by
  refine MetFree.of_bodySF (plainFor_of_name pn_1) hisR ?_
  intro p e s m args below meth c s₁ Bd hml0 hP hK
  obtain ⟨rfl, hZ, hh⟩ := hP
  have hx := Bd.exec
  have hby := Bd.bytes
  have hml : c.maxLocals = 1 := hml0
  have hown : s.vm.findClass "com/example/palinode/palinode/EndAndPinLaw" = some m.cls := findClass_of_methodNamed Bd.named
  have hnm := (name_of_methodNamed Bd.named Bd.method).1
  have X0 : Stand p l e ({ frames := 0, cells := 0, slots := 0, locals := 0 } : Room) s m #[(.int p1)] below meth c s₁ [] 0 0 := Stand.of_body Bd
  have e0 : s₁.heap = h0 := by rw [← hh, Bd.state]; rfl
  have N0 := Fr.nil n0
  refine own_go (B := s₁.setTop (mkF m 0 #[.val (.int p1)] [])) (fun t k => castTop (ef_1 m p1) k) ?_
  refine own_go (B := s₁.setTop (mkF m 1 #[.val (.int p1)] [(.int p1)])) (fun t k => ?_) ?_
  · show Steps p.tables e below (s₁.setTop (mkF m 0 #[.val (.int p1)] [])) _
    refine XS.iloadN X0.here hx rfl (hb hby d1_0) rfl ?_
    exact k
  by_cases hc1_1 : p1 = (0 : Int32)
  · refine own_go (B := s₁.setTop (mkF m 4 #[.val (.int p1)] [])) (fun t k => ?_) ?_
    · show Steps p.tables e below (s₁.setTop (mkF m 1 #[.val (.int p1)] [(.int p1)])) _
      refine XS.ifNo X0.here hx rfl (hb hby d1_1) rfl ((if0 _ _).trans (teq hc1_1).2) ?_
      exact k
    obtain ⟨T2, X2, e2, st2⟩ := getS2 X0 hx hZ hown (host := "") (Or.inl (hw _ (List.mem_of_getElem? (i := 4) rfl))) Via.refl e0 S_OK (g := (mkF m 4 #[.val (.int p1)] [])) rfl (hb hby d1_4)
    refine own_go (B := T2.setTop (mkF m 7 #[.val (.int p1)] [(.ref w_OK)])) (fun t k => st2 _ k) ?_
    obtain ⟨fs, hr, hrun, hended, hW, hsame⟩ := X2.leave (v := some (.ref w_OK)) (fun h => by rw [Bd.returns] at h; cases h)
    refine ⟨_, _, ?_, hrun, hended, _, _, rfl, ?_, ⟨_, rfl⟩, hW, hsame.mono (by decide) (by decide)⟩
    · show Steps p.tables e below (T2.setTop (mkF m 7 #[.val (.int p1)] [(.ref w_OK)])) _
      jvm_step X2.here [X2.here.top, hx, (hb hby d1_7), X2.method', Bd.returns, Value.isRef, FieldType.isReference]
      first | (intro acts; rw [hr _ acts rfl rfl rfl]) | rw [hr _ _ rfl rfl rfl]
      exact Steps.refl _
    · show Q1 Z p1 w_OK w_YIELD w_FAIL w_CRASH h0 n0 _ T2.heap _
      rw [e2]
      exact ⟨by rw [own_by, if_pos hc1_1], N0, rfl⟩
  · refine own_go (B := s₁.setTop (mkF m 10 #[.val (.int p1)] [(.int (1 : Int32)), (.int p1)])) (fun t k => ?_) ?_
    · show Steps p.tables e below (s₁.setTop (mkF m 1 #[.val (.int p1)] [(.int p1)])) _
      refine XS.ifYes X0.here hx rfl (pc0 := 1) (pc' := 8) rfl (hb hby d1_1) rfl ((if0 _ _).trans (feq hc1_1).2) (by decide) (by decide) ?_
      show Steps p.tables e below (s₁.setTop (mkF m 8 #[.val (.int p1)] [])) _
      refine XS.iloadN X0.here hx rfl (hb hby d1_8) rfl ?_
      show Steps p.tables e below (s₁.setTop (mkF m 9 #[.val (.int p1)] [(.int p1)])) _
      refine XS.iconst X0.here hx rfl (hb hby d1_9) ?_
      exact k
    by_cases hc10_3 : p1 = (1 : Int32)
    · refine own_go (B := s₁.setTop (mkF m 13 #[.val (.int p1)] [])) (fun t k => ?_) ?_
      · show Steps p.tables e below (s₁.setTop (mkF m 10 #[.val (.int p1)] [(.int (1 : Int32)), (.int p1)])) _
        refine XS.icmpNo X0.here hx rfl (hb hby d1_10) rfl (teq hc10_3).2 ?_
        exact k
      obtain ⟨T4, X4, e4, st4⟩ := getS2 X0 hx hZ hown (host := "") (Or.inl (hw _ (List.mem_of_getElem? (i := 21) rfl))) Via.refl e0 S_YIELD (g := (mkF m 13 #[.val (.int p1)] [])) rfl (hb hby d1_13)
      refine own_go (B := T4.setTop (mkF m 16 #[.val (.int p1)] [(.ref w_YIELD)])) (fun t k => st4 _ k) ?_
      obtain ⟨fs, hr, hrun, hended, hW, hsame⟩ := X4.leave (v := some (.ref w_YIELD)) (fun h => by rw [Bd.returns] at h; cases h)
      refine ⟨_, _, ?_, hrun, hended, _, _, rfl, ?_, ⟨_, rfl⟩, hW, hsame.mono (by decide) (by decide)⟩
      · show Steps p.tables e below (T4.setTop (mkF m 16 #[.val (.int p1)] [(.ref w_YIELD)])) _
        jvm_step X4.here [X4.here.top, hx, (hb hby d1_16), X4.method', Bd.returns, Value.isRef, FieldType.isReference]
        first | (intro acts; rw [hr _ acts rfl rfl rfl]) | rw [hr _ _ rfl rfl rfl]
        exact Steps.refl _
      · show Q1 Z p1 w_OK w_YIELD w_FAIL w_CRASH h0 n0 _ T4.heap _
        rw [e4]
        exact ⟨by rw [own_by, if_neg hc1_1, if_pos hc10_3], N0, rfl⟩
    · refine own_go (B := s₁.setTop (mkF m 19 #[.val (.int p1)] [(.int (2 : Int32)), (.int p1)])) (fun t k => ?_) ?_
      · show Steps p.tables e below (s₁.setTop (mkF m 10 #[.val (.int p1)] [(.int (1 : Int32)), (.int p1)])) _
        refine XS.icmpYes X0.here hx rfl (pc0 := 10) (pc' := 17) rfl (hb hby d1_10) rfl (feq hc10_3).2 (by decide) (by decide) ?_
        show Steps p.tables e below (s₁.setTop (mkF m 17 #[.val (.int p1)] [])) _
        refine XS.iloadN X0.here hx rfl (hb hby d1_17) rfl ?_
        show Steps p.tables e below (s₁.setTop (mkF m 18 #[.val (.int p1)] [(.int p1)])) _
        refine XS.iconst X0.here hx rfl (hb hby d1_18) ?_
        exact k
      by_cases hc19_5 : p1 = (2 : Int32)
      · refine own_go (B := s₁.setTop (mkF m 22 #[.val (.int p1)] [])) (fun t k => ?_) ?_
        · show Steps p.tables e below (s₁.setTop (mkF m 19 #[.val (.int p1)] [(.int (2 : Int32)), (.int p1)])) _
          refine XS.icmpNo X0.here hx rfl (hb hby d1_19) rfl (teq hc19_5).2 ?_
          exact k
        obtain ⟨T6, X6, e6, st6⟩ := getS2 X0 hx hZ hown (host := "") (Or.inl (hw _ (List.mem_of_getElem? (i := 19) rfl))) Via.refl e0 S_FAIL (g := (mkF m 22 #[.val (.int p1)] [])) rfl (hb hby d1_22)
        refine own_go (B := T6.setTop (mkF m 25 #[.val (.int p1)] [(.ref w_FAIL)])) (fun t k => st6 _ k) ?_
        obtain ⟨fs, hr, hrun, hended, hW, hsame⟩ := X6.leave (v := some (.ref w_FAIL)) (fun h => by rw [Bd.returns] at h; cases h)
        refine ⟨_, _, ?_, hrun, hended, _, _, rfl, ?_, ⟨_, rfl⟩, hW, hsame.mono (by decide) (by decide)⟩
        · show Steps p.tables e below (T6.setTop (mkF m 25 #[.val (.int p1)] [(.ref w_FAIL)])) _
          jvm_step X6.here [X6.here.top, hx, (hb hby d1_25), X6.method', Bd.returns, Value.isRef, FieldType.isReference]
          first | (intro acts; rw [hr _ acts rfl rfl rfl]) | rw [hr _ _ rfl rfl rfl]
          exact Steps.refl _
        · show Q1 Z p1 w_OK w_YIELD w_FAIL w_CRASH h0 n0 _ T6.heap _
          rw [e6]
          exact ⟨by rw [own_by, if_neg hc1_1, if_neg hc10_3, if_pos hc19_5], N0, rfl⟩
      · refine own_go (B := s₁.setTop (mkF m 26 #[.val (.int p1)] [])) (fun t k => ?_) ?_
        · show Steps p.tables e below (s₁.setTop (mkF m 19 #[.val (.int p1)] [(.int (2 : Int32)), (.int p1)])) _
          refine XS.icmpYes X0.here hx rfl (pc0 := 19) (pc' := 26) rfl (hb hby d1_19) rfl (feq hc19_5).2 (by decide) (by decide) ?_
          exact k
        obtain ⟨T7, X7, e7, st7⟩ := getS2 X0 hx hZ hown (host := "") (Or.inl (hw _ (List.mem_of_getElem? (i := 7) rfl))) Via.refl e0 S_CRASH (g := (mkF m 26 #[.val (.int p1)] [])) rfl (hb hby d1_26)
        refine own_go (B := T7.setTop (mkF m 29 #[.val (.int p1)] [(.ref w_CRASH)])) (fun t k => st7 _ k) ?_
        obtain ⟨fs, hr, hrun, hended, hW, hsame⟩ := X7.leave (v := some (.ref w_CRASH)) (fun h => by rw [Bd.returns] at h; cases h)
        refine ⟨_, _, ?_, hrun, hended, _, _, rfl, ?_, ⟨_, rfl⟩, hW, hsame.mono (by decide) (by decide)⟩
        · show Steps p.tables e below (T7.setTop (mkF m 29 #[.val (.int p1)] [(.ref w_CRASH)])) _
          jvm_step X7.here [X7.here.top, hx, (hb hby d1_29), X7.method', Bd.returns, Value.isRef, FieldType.isReference]
          first | (intro acts; rw [hr _ acts rfl rfl rfl]) | rw [hr _ _ rfl rfl rfl]
          exact Steps.refl _
        · show Q1 Z p1 w_OK w_YIELD w_FAIL w_CRASH h0 n0 _ T7.heap _
          rw [e7]
          exact ⟨by rw [own_by, if_neg hc1_1, if_neg hc10_3, if_neg hc19_5], N0, rfl⟩
def own_max (u1 : Int32) (u2 : Int32) : Int32 := (if u1 < u2 then u2 else u1)
theorem d2_0 : decode jdk_29_method_65_code 0 = .ok (.iload_n 0, 1) := by decide +kernel
theorem d2_1 : decode jdk_29_method_65_code 1 = .ok (.iload_n 1, 1) := by decide +kernel
theorem d2_2 : decode jdk_29_method_65_code 2 = .ok (.if_icmp .lt 7, 3) := by decide +kernel
theorem d2_5 : decode jdk_29_method_65_code 5 = .ok (.iload_n 0, 1) := by decide +kernel
theorem d2_6 : decode jdk_29_method_65_code 6 = .ok (.goto 4, 3) := by decide +kernel
theorem d2_9 : decode jdk_29_method_65_code 9 = .ok (.iload_n 1, 1) := by decide +kernel
theorem d2_10 : decode jdk_29_method_65_code 10 = .ok (.ireturn, 1) := by decide +kernel
theorem ef_2 (m : MethodId) (x0 : Int32) (x1 : Int32) : entryFrame m #[(.int x0), (.int x1)] 2 = mkF m 0 #[.val (.int x0), .val (.int x1)] [] := by first | (simp [entryFrame, mkF, argsToLocals, Value.category]; done) | rfl
def Q2 (Z : State) (u1 : Int32) (u2 : Int32) (h0 : Heap) (n0 : Nat) (v : Option Value) (h : Heap) (L : List Loc) : Prop := v = some (.int (own_max u1 u2)) ∧ Fr n0 L ∧ h = h0
set_option maxRecDepth 65536 in
set_option maxHeartbeats 40000000 in
theorem rm2 (l : Launch) (Z : State) (a0 : Array Value) (hw : ∀ d ∈ tables_1, d.before a0 Z = true) (ws : List Jvm.Cond) (u1 : Int32) (u2 : Int32) (h0 : Heap) (n0 : Nat) (Z0 : n0 ≤ h0.size) :
    MetFree l (⟨"java/lang/Math", "max", "(II)I"⟩ : MethodName) (head1 (Jvm.Cond.code (⟨"java/lang/Math", "max", "(II)I"⟩ : MethodName) jdk_29_method_65_code 2 (some .int) :: ws) ({ frames := 0, cells := 0, slots := 0, locals := 0 } : Room)) (fun a U => a = #[(.int u1), (.int u2)] ∧ Z.Warmed39 U.vm ∧ U.heap = h0) (fun _ _ _ _ _ => True) (fun _ U o U' => ∃ v L, o = .returned v ∧ Q2 Z u1 u2 h0 n0 v U'.heap L ∧ FrameEnd U o U' L ({ frames := 0, cells := 0, slots := 0, locals := 0 } : Room).cells ({ frames := 0, cells := 0, slots := 0, locals := 0 } : Room).slots) := by
  refine MetFree.of_bodySF (Jvm.Free.JP.mathPlain rfl (by decide +kernel)) hisR ?_
  intro p e s m args below meth c s₁ Bd hml0 hP hK
  obtain ⟨rfl, hZ, hh⟩ := hP
  have hx := Bd.exec
  have hby := Bd.bytes
  have hml : c.maxLocals = 2 := hml0
  have hown : s.vm.findClass "java/lang/Math" = some m.cls := findClass_of_methodNamed Bd.named
  have hnm := (name_of_methodNamed Bd.named Bd.method).1
  have X0 : Stand p l e ({ frames := 0, cells := 0, slots := 0, locals := 0 } : Room) s m #[(.int u1), (.int u2)] below meth c s₁ [] 0 0 := Stand.of_body Bd
  have e0 : s₁.heap = h0 := by rw [← hh, Bd.state]; rfl
  have N0 := Fr.nil n0
  refine own_go (B := s₁.setTop (mkF m 0 #[.val (.int u1), .val (.int u2)] [])) (fun t k => castTop (ef_2 m u1 u2) k) ?_
  refine own_go (B := s₁.setTop (mkF m 2 #[.val (.int u1), .val (.int u2)] [(.int u2), (.int u1)])) (fun t k => ?_) ?_
  · show Steps p.tables e below (s₁.setTop (mkF m 0 #[.val (.int u1), .val (.int u2)] [])) _
    refine XS.iloadN X0.here hx rfl (hb hby d2_0) rfl ?_
    show Steps p.tables e below (s₁.setTop (mkF m 1 #[.val (.int u1), .val (.int u2)] [(.int u1)])) _
    refine XS.iloadN X0.here hx rfl (hb hby d2_1) rfl ?_
    exact k
  by_cases hc2_1 : u1 < u2
  · obtain ⟨fs, hr, hrun, hended, hW, hsame⟩ := X0.leave (v := some (.int u2)) (fun h => by rw [Bd.returns] at h; cases h)
    refine ⟨_, _, ?_, hrun, hended, _, _, rfl, ?_, ⟨_, rfl⟩, hW, hsame.mono (by decide) (by decide)⟩
    · show Steps p.tables e below (s₁.setTop (mkF m 2 #[.val (.int u1), .val (.int u2)] [(.int u2), (.int u1)])) _
      refine XS.icmpYes X0.here hx rfl (pc0 := 2) (pc' := 9) rfl (hb hby d2_2) rfl (tlt hc2_1).1 (by decide) (by decide) ?_
      show Steps p.tables e below (s₁.setTop (mkF m 9 #[.val (.int u1), .val (.int u2)] [])) _
      refine XS.iloadN X0.here hx rfl (hb hby d2_9) rfl ?_
      show Steps p.tables e below (s₁.setTop (mkF m 10 #[.val (.int u1), .val (.int u2)] [(.int u2)])) _
      exact retI X0 hx Bd.returns (hb hby d2_10) hr
    · show Q2 Z u1 u2 h0 n0 _ s₁.heap _
      rw [e0]
      exact ⟨by rw [own_max, if_pos hc2_1], N0, rfl⟩
  · obtain ⟨fs, hr, hrun, hended, hW, hsame⟩ := X0.leave (v := some (.int u1)) (fun h => by rw [Bd.returns] at h; cases h)
    refine ⟨_, _, ?_, hrun, hended, _, _, rfl, ?_, ⟨_, rfl⟩, hW, hsame.mono (by decide) (by decide)⟩
    · show Steps p.tables e below (s₁.setTop (mkF m 2 #[.val (.int u1), .val (.int u2)] [(.int u2), (.int u1)])) _
      refine XS.icmpNo X0.here hx rfl (hb hby d2_2) rfl (flt hc2_1).1 ?_
      show Steps p.tables e below (s₁.setTop (mkF m 5 #[.val (.int u1), .val (.int u2)] [])) _
      refine XS.iloadN X0.here hx rfl (hb hby d2_5) rfl ?_
      show Steps p.tables e below (s₁.setTop (mkF m 6 #[.val (.int u1), .val (.int u2)] [(.int u1)])) _
      refine XS.goto X0.here hx rfl (pc0 := 6) (pc' := 10) rfl (hb hby d2_6) (by decide) (by decide) ?_
      show Steps p.tables e below (s₁.setTop (mkF m 10 #[.val (.int u1), .val (.int u2)] [(.int u1)])) _
      exact retI X0 hx Bd.returns (hb hby d2_10) hr
    · show Q2 Z u1 u2 h0 n0 _ s₁.heap _
      rw [e0]
      exact ⟨by rw [own_max, if_neg hc2_1], N0, rfl⟩
theorem pn_3 : plainName "com/example/palinode/palinode/Run$End" = true := by first | (simp [plainName, overriddenIn]; done) | decide +kernel
theorem d3_0 : decode prog_30_method_5_code 0 = .ok (.aload_n 0, 1) := by decide +kernel
theorem d3_1 : decode prog_30_method_5_code 1 = .ok (.getstatic 13, 3) := by decide +kernel
theorem d3_4 : decode prog_30_method_5_code 4 = .ok (.if_acmp .eq 10, 3) := by decide +kernel
theorem d3_7 : decode prog_30_method_5_code 7 = .ok (.aload_n 1, 1) := by decide +kernel
theorem d3_8 : decode prog_30_method_5_code 8 = .ok (.getstatic 13, 3) := by decide +kernel
theorem d3_11 : decode prog_30_method_5_code 11 = .ok (.if_acmp .ne 7, 3) := by decide +kernel
theorem d3_14 : decode prog_30_method_5_code 14 = .ok (.getstatic 13, 3) := by decide +kernel
theorem d3_17 : decode prog_30_method_5_code 17 = .ok (.areturn, 1) := by decide +kernel
theorem d3_18 : decode prog_30_method_5_code 18 = .ok (.aload_n 0, 1) := by decide +kernel
theorem d3_19 : decode prog_30_method_5_code 19 = .ok (.getstatic 7, 3) := by decide +kernel
theorem d3_22 : decode prog_30_method_5_code 22 = .ok (.if_acmp .eq 10, 3) := by decide +kernel
theorem d3_25 : decode prog_30_method_5_code 25 = .ok (.aload_n 1, 1) := by decide +kernel
theorem d3_26 : decode prog_30_method_5_code 26 = .ok (.getstatic 7, 3) := by decide +kernel
theorem d3_29 : decode prog_30_method_5_code 29 = .ok (.if_acmp .ne 7, 3) := by decide +kernel
theorem d3_32 : decode prog_30_method_5_code 32 = .ok (.getstatic 7, 3) := by decide +kernel
theorem d3_35 : decode prog_30_method_5_code 35 = .ok (.areturn, 1) := by decide +kernel
theorem d3_36 : decode prog_30_method_5_code 36 = .ok (.aload_n 0, 1) := by decide +kernel
theorem d3_37 : decode prog_30_method_5_code 37 = .ok (.getstatic 10, 3) := by decide +kernel
theorem d3_40 : decode prog_30_method_5_code 40 = .ok (.if_acmp .eq 10, 3) := by decide +kernel
theorem d3_43 : decode prog_30_method_5_code 43 = .ok (.aload_n 1, 1) := by decide +kernel
theorem d3_44 : decode prog_30_method_5_code 44 = .ok (.getstatic 10, 3) := by decide +kernel
theorem d3_47 : decode prog_30_method_5_code 47 = .ok (.if_acmp .ne 7, 3) := by decide +kernel
theorem d3_50 : decode prog_30_method_5_code 50 = .ok (.getstatic 10, 3) := by decide +kernel
theorem d3_53 : decode prog_30_method_5_code 53 = .ok (.areturn, 1) := by decide +kernel
theorem d3_54 : decode prog_30_method_5_code 54 = .ok (.getstatic 3, 3) := by decide +kernel
theorem d3_57 : decode prog_30_method_5_code 57 = .ok (.areturn, 1) := by decide +kernel
theorem ef_3 (m : MethodId) (x0 : Addr) (x1 : Addr) : entryFrame m #[(.ref x0), (.ref x1)] 2 = mkF m 0 #[.val (.ref x0), .val (.ref x1)] [] := by first | (simp [entryFrame, mkF, argsToLocals, Value.category]; done) | rfl
def Q3 (Z : State) (a1 : Addr) (a2 : Addr) (w_OK : Addr) (w_YIELD : Addr) (w_FAIL : Addr) (w_CRASH : Addr) (h0 : Heap) (n0 : Nat) (v : Option Value) (h : Heap) (L : List Loc) : Prop := v = some (.ref (own_and a1 a2 w_OK w_YIELD w_FAIL w_CRASH)) ∧ Fr n0 L ∧ h = h0
set_option maxRecDepth 65536 in
set_option maxHeartbeats 40000000 in
theorem rm3 (l : Launch) (Z : State) (a0 : Array Value) (hw : ∀ d ∈ tables_1, d.before a0 Z = true) (ws : List Jvm.Cond) (a1 : Addr) (a2 : Addr) (w_OK : Addr) (w_YIELD : Addr) (w_FAIL : Addr) (w_CRASH : Addr) (h0 : Heap) (n0 : Nat) (Z0 : n0 ≤ h0.size) (S_OK : Sta Z h0 "com/example/palinode/palinode/Run$End" "OK" "Lcom/example/palinode/palinode/Run$End;" (.ref w_OK)) (S_YIELD : Sta Z h0 "com/example/palinode/palinode/Run$End" "YIELD" "Lcom/example/palinode/palinode/Run$End;" (.ref w_YIELD)) (S_FAIL : Sta Z h0 "com/example/palinode/palinode/Run$End" "FAIL" "Lcom/example/palinode/palinode/Run$End;" (.ref w_FAIL)) (S_CRASH : Sta Z h0 "com/example/palinode/palinode/Run$End" "CRASH" "Lcom/example/palinode/palinode/Run$End;" (.ref w_CRASH)) :
    MetFree l (⟨"com/example/palinode/palinode/Run$End", "and", "(Lcom/example/palinode/palinode/Run$End;)Lcom/example/palinode/palinode/Run$End;"⟩ : MethodName) (head1 (Jvm.Cond.code (⟨"com/example/palinode/palinode/Run$End", "and", "(Lcom/example/palinode/palinode/Run$End;)Lcom/example/palinode/palinode/Run$End;"⟩ : MethodName) prog_30_method_5_code 2 (some (.object "com/example/palinode/palinode/Run$End")) :: ws) ({ frames := 0, cells := 0, slots := 0, locals := 0 } : Room)) (fun a U => a = #[(.ref a1), (.ref a2)] ∧ Z.Warmed39 U.vm ∧ U.heap = h0) (fun _ _ _ _ _ => True) (fun _ U o U' => ∃ v L, o = .returned v ∧ Q3 Z a1 a2 w_OK w_YIELD w_FAIL w_CRASH h0 n0 v U'.heap L ∧ FrameEnd U o U' L ({ frames := 0, cells := 0, slots := 0, locals := 0 } : Room).cells ({ frames := 0, cells := 0, slots := 0, locals := 0 } : Room).slots) := by
  refine MetFree.of_bodySF (plainFor_of_name pn_3) hisR ?_
  intro p e s m args below meth c s₁ Bd hml0 hP hK
  obtain ⟨rfl, hZ, hh⟩ := hP
  have hx := Bd.exec
  have hby := Bd.bytes
  have hml : c.maxLocals = 2 := hml0
  have hown : s.vm.findClass "com/example/palinode/palinode/Run$End" = some m.cls := findClass_of_methodNamed Bd.named
  have hnm := (name_of_methodNamed Bd.named Bd.method).1
  have X0 : Stand p l e ({ frames := 0, cells := 0, slots := 0, locals := 0 } : Room) s m #[(.ref a1), (.ref a2)] below meth c s₁ [] 0 0 := Stand.of_body Bd
  have e0 : s₁.heap = h0 := by rw [← hh, Bd.state]; rfl
  have N0 := Fr.nil n0
  refine own_go (B := s₁.setTop (mkF m 0 #[.val (.ref a1), .val (.ref a2)] [])) (fun t k => castTop (ef_3 m a1 a2) k) ?_
  refine own_go (B := s₁.setTop (mkF m 1 #[.val (.ref a1), .val (.ref a2)] [(.ref a1)])) (fun t k => ?_) ?_
  · show Steps p.tables e below (s₁.setTop (mkF m 0 #[.val (.ref a1), .val (.ref a2)] [])) _
    refine XS.aloadN X0.here hx rfl (hb hby d3_0) rfl rfl ?_
    exact k
  obtain ⟨T1, X1, e1, st1⟩ := getS2 X0 hx hZ hown (host := "") (Or.inl (hw _ (List.mem_of_getElem? (i := 18) rfl))) Via.refl e0 S_CRASH (g := (mkF m 1 #[.val (.ref a1), .val (.ref a2)] [(.ref a1)])) rfl (hb hby d3_1)
  refine own_go (B := T1.setTop (mkF m 4 #[.val (.ref a1), .val (.ref a2)] [(.ref w_CRASH), (.ref a1)])) (fun t k => st1 _ k) ?_
  by_cases ha4_2 : a1 = w_CRASH
  · refine own_go (B := T1.setTop (mkF m 14 #[.val (.ref a1), .val (.ref a2)] [])) (fun t k => ?_) ?_
    · show Steps p.tables e below (T1.setTop (mkF m 4 #[.val (.ref a1), .val (.ref a2)] [(.ref w_CRASH), (.ref a1)])) _
      refine Jvm.RoadKit.acmp (g := (mkF m 4 #[.val (.ref a1), .val (.ref a2)] [(.ref w_CRASH), (.ref a1)])) X1 hx rfl rfl rfl (pc0 := 4) (pc' := 14) (same := true) rfl (hb hby d3_4) rfl (decide_eq_true (congrArg Value.ref ha4_2)) (by decide) (by decide) ?_
      exact k
    obtain ⟨T3, X3, e3, st3⟩ := getS2 X1 hx hZ hown (host := "") (Or.inl (hw _ (List.mem_of_getElem? (i := 18) rfl))) Via.refl e1 S_CRASH (g := (mkF m 14 #[.val (.ref a1), .val (.ref a2)] [])) rfl (hb hby d3_14)
    refine own_go (B := T3.setTop (mkF m 17 #[.val (.ref a1), .val (.ref a2)] [(.ref w_CRASH)])) (fun t k => st3 _ k) ?_
    obtain ⟨fs, hr, hrun, hended, hW, hsame⟩ := X3.leave (v := some (.ref w_CRASH)) (fun h => by rw [Bd.returns] at h; cases h)
    refine ⟨_, _, ?_, hrun, hended, _, _, rfl, ?_, ⟨_, rfl⟩, hW, hsame.mono (by decide) (by decide)⟩
    · show Steps p.tables e below (T3.setTop (mkF m 17 #[.val (.ref a1), .val (.ref a2)] [(.ref w_CRASH)])) _
      jvm_step X3.here [X3.here.top, hx, (hb hby d3_17), X3.method', Bd.returns, Value.isRef, FieldType.isReference]
      first | (intro acts; rw [hr _ acts rfl rfl rfl]) | rw [hr _ _ rfl rfl rfl]
      exact Steps.refl _
    · show Q3 Z a1 a2 w_OK w_YIELD w_FAIL w_CRASH h0 n0 _ T3.heap _
      rw [e3]
      exact ⟨by rw [own_and, if_pos ha4_2], N0, rfl⟩
  · refine own_go (B := T1.setTop (mkF m 8 #[.val (.ref a1), .val (.ref a2)] [(.ref a2)])) (fun t k => ?_) ?_
    · show Steps p.tables e below (T1.setTop (mkF m 4 #[.val (.ref a1), .val (.ref a2)] [(.ref w_CRASH), (.ref a1)])) _
      refine Jvm.RoadKit.acmp (g := (mkF m 4 #[.val (.ref a1), .val (.ref a2)] [(.ref w_CRASH), (.ref a1)])) X1 hx rfl rfl rfl (pc0 := 4) (pc' := 7) (same := false) rfl (hb hby d3_4) rfl (decide_eq_false fun q => ha4_2 (Value.ref.inj q)) (by decide) (by decide) ?_
      show Steps p.tables e below (T1.setTop (mkF m 7 #[.val (.ref a1), .val (.ref a2)] [])) _
      refine XS.aloadN X1.here hx rfl (hb hby d3_7) rfl rfl ?_
      exact k
    obtain ⟨T4, X4, e4, st4⟩ := getS2 X1 hx hZ hown (host := "") (Or.inl (hw _ (List.mem_of_getElem? (i := 18) rfl))) Via.refl e1 S_CRASH (g := (mkF m 8 #[.val (.ref a1), .val (.ref a2)] [(.ref a2)])) rfl (hb hby d3_8)
    refine own_go (B := T4.setTop (mkF m 11 #[.val (.ref a1), .val (.ref a2)] [(.ref w_CRASH), (.ref a2)])) (fun t k => st4 _ k) ?_
    by_cases ha11_5 : a2 = w_CRASH
    · refine own_go (B := T4.setTop (mkF m 14 #[.val (.ref a1), .val (.ref a2)] [])) (fun t k => ?_) ?_
      · show Steps p.tables e below (T4.setTop (mkF m 11 #[.val (.ref a1), .val (.ref a2)] [(.ref w_CRASH), (.ref a2)])) _
        refine Jvm.RoadKit.acmp (g := (mkF m 11 #[.val (.ref a1), .val (.ref a2)] [(.ref w_CRASH), (.ref a2)])) X4 hx rfl rfl rfl (pc0 := 11) (pc' := 14) (same := true) rfl (hb hby d3_11) rfl (decide_eq_true (congrArg Value.ref ha11_5)) (by decide) (by decide) ?_
        exact k
      obtain ⟨T6, X6, e6, st6⟩ := getS2 X4 hx hZ hown (host := "") (Or.inl (hw _ (List.mem_of_getElem? (i := 18) rfl))) Via.refl e4 S_CRASH (g := (mkF m 14 #[.val (.ref a1), .val (.ref a2)] [])) rfl (hb hby d3_14)
      refine own_go (B := T6.setTop (mkF m 17 #[.val (.ref a1), .val (.ref a2)] [(.ref w_CRASH)])) (fun t k => st6 _ k) ?_
      obtain ⟨fs, hr, hrun, hended, hW, hsame⟩ := X6.leave (v := some (.ref w_CRASH)) (fun h => by rw [Bd.returns] at h; cases h)
      refine ⟨_, _, ?_, hrun, hended, _, _, rfl, ?_, ⟨_, rfl⟩, hW, hsame.mono (by decide) (by decide)⟩
      · show Steps p.tables e below (T6.setTop (mkF m 17 #[.val (.ref a1), .val (.ref a2)] [(.ref w_CRASH)])) _
        jvm_step X6.here [X6.here.top, hx, (hb hby d3_17), X6.method', Bd.returns, Value.isRef, FieldType.isReference]
        first | (intro acts; rw [hr _ acts rfl rfl rfl]) | rw [hr _ _ rfl rfl rfl]
        exact Steps.refl _
      · show Q3 Z a1 a2 w_OK w_YIELD w_FAIL w_CRASH h0 n0 _ T6.heap _
        rw [e6]
        exact ⟨by rw [own_and, if_neg ha4_2, if_pos ha11_5], N0, rfl⟩
    · refine own_go (B := T4.setTop (mkF m 19 #[.val (.ref a1), .val (.ref a2)] [(.ref a1)])) (fun t k => ?_) ?_
      · show Steps p.tables e below (T4.setTop (mkF m 11 #[.val (.ref a1), .val (.ref a2)] [(.ref w_CRASH), (.ref a2)])) _
        refine Jvm.RoadKit.acmp (g := (mkF m 11 #[.val (.ref a1), .val (.ref a2)] [(.ref w_CRASH), (.ref a2)])) X4 hx rfl rfl rfl (pc0 := 11) (pc' := 18) (same := false) rfl (hb hby d3_11) rfl (decide_eq_false fun q => ha11_5 (Value.ref.inj q)) (by decide) (by decide) ?_
        show Steps p.tables e below (T4.setTop (mkF m 18 #[.val (.ref a1), .val (.ref a2)] [])) _
        refine XS.aloadN X4.here hx rfl (hb hby d3_18) rfl rfl ?_
        exact k
      obtain ⟨T7, X7, e7, st7⟩ := getS2 X4 hx hZ hown (host := "") (Or.inl (hw _ (List.mem_of_getElem? (i := 23) rfl))) Via.refl e4 S_FAIL (g := (mkF m 19 #[.val (.ref a1), .val (.ref a2)] [(.ref a1)])) rfl (hb hby d3_19)
      refine own_go (B := T7.setTop (mkF m 22 #[.val (.ref a1), .val (.ref a2)] [(.ref w_FAIL), (.ref a1)])) (fun t k => st7 _ k) ?_
      by_cases ha22_8 : a1 = w_FAIL
      · refine own_go (B := T7.setTop (mkF m 32 #[.val (.ref a1), .val (.ref a2)] [])) (fun t k => ?_) ?_
        · show Steps p.tables e below (T7.setTop (mkF m 22 #[.val (.ref a1), .val (.ref a2)] [(.ref w_FAIL), (.ref a1)])) _
          refine Jvm.RoadKit.acmp (g := (mkF m 22 #[.val (.ref a1), .val (.ref a2)] [(.ref w_FAIL), (.ref a1)])) X7 hx rfl rfl rfl (pc0 := 22) (pc' := 32) (same := true) rfl (hb hby d3_22) rfl (decide_eq_true (congrArg Value.ref ha22_8)) (by decide) (by decide) ?_
          exact k
        obtain ⟨T9, X9, e9, st9⟩ := getS2 X7 hx hZ hown (host := "") (Or.inl (hw _ (List.mem_of_getElem? (i := 23) rfl))) Via.refl e7 S_FAIL (g := (mkF m 32 #[.val (.ref a1), .val (.ref a2)] [])) rfl (hb hby d3_32)
        refine own_go (B := T9.setTop (mkF m 35 #[.val (.ref a1), .val (.ref a2)] [(.ref w_FAIL)])) (fun t k => st9 _ k) ?_
        obtain ⟨fs, hr, hrun, hended, hW, hsame⟩ := X9.leave (v := some (.ref w_FAIL)) (fun h => by rw [Bd.returns] at h; cases h)
        refine ⟨_, _, ?_, hrun, hended, _, _, rfl, ?_, ⟨_, rfl⟩, hW, hsame.mono (by decide) (by decide)⟩
        · show Steps p.tables e below (T9.setTop (mkF m 35 #[.val (.ref a1), .val (.ref a2)] [(.ref w_FAIL)])) _
          jvm_step X9.here [X9.here.top, hx, (hb hby d3_35), X9.method', Bd.returns, Value.isRef, FieldType.isReference]
          first | (intro acts; rw [hr _ acts rfl rfl rfl]) | rw [hr _ _ rfl rfl rfl]
          exact Steps.refl _
        · show Q3 Z a1 a2 w_OK w_YIELD w_FAIL w_CRASH h0 n0 _ T9.heap _
          rw [e9]
          exact ⟨by rw [own_and, if_neg ha4_2, if_neg ha11_5, if_pos ha22_8], N0, rfl⟩
      · refine own_go (B := T7.setTop (mkF m 26 #[.val (.ref a1), .val (.ref a2)] [(.ref a2)])) (fun t k => ?_) ?_
        · show Steps p.tables e below (T7.setTop (mkF m 22 #[.val (.ref a1), .val (.ref a2)] [(.ref w_FAIL), (.ref a1)])) _
          refine Jvm.RoadKit.acmp (g := (mkF m 22 #[.val (.ref a1), .val (.ref a2)] [(.ref w_FAIL), (.ref a1)])) X7 hx rfl rfl rfl (pc0 := 22) (pc' := 25) (same := false) rfl (hb hby d3_22) rfl (decide_eq_false fun q => ha22_8 (Value.ref.inj q)) (by decide) (by decide) ?_
          show Steps p.tables e below (T7.setTop (mkF m 25 #[.val (.ref a1), .val (.ref a2)] [])) _
          refine XS.aloadN X7.here hx rfl (hb hby d3_25) rfl rfl ?_
          exact k
        obtain ⟨T10, X10, e10, st10⟩ := getS2 X7 hx hZ hown (host := "") (Or.inl (hw _ (List.mem_of_getElem? (i := 23) rfl))) Via.refl e7 S_FAIL (g := (mkF m 26 #[.val (.ref a1), .val (.ref a2)] [(.ref a2)])) rfl (hb hby d3_26)
        refine own_go (B := T10.setTop (mkF m 29 #[.val (.ref a1), .val (.ref a2)] [(.ref w_FAIL), (.ref a2)])) (fun t k => st10 _ k) ?_
        by_cases ha29_11 : a2 = w_FAIL
        · refine own_go (B := T10.setTop (mkF m 32 #[.val (.ref a1), .val (.ref a2)] [])) (fun t k => ?_) ?_
          · show Steps p.tables e below (T10.setTop (mkF m 29 #[.val (.ref a1), .val (.ref a2)] [(.ref w_FAIL), (.ref a2)])) _
            refine Jvm.RoadKit.acmp (g := (mkF m 29 #[.val (.ref a1), .val (.ref a2)] [(.ref w_FAIL), (.ref a2)])) X10 hx rfl rfl rfl (pc0 := 29) (pc' := 32) (same := true) rfl (hb hby d3_29) rfl (decide_eq_true (congrArg Value.ref ha29_11)) (by decide) (by decide) ?_
            exact k
          obtain ⟨T12, X12, e12, st12⟩ := getS2 X10 hx hZ hown (host := "") (Or.inl (hw _ (List.mem_of_getElem? (i := 23) rfl))) Via.refl e10 S_FAIL (g := (mkF m 32 #[.val (.ref a1), .val (.ref a2)] [])) rfl (hb hby d3_32)
          refine own_go (B := T12.setTop (mkF m 35 #[.val (.ref a1), .val (.ref a2)] [(.ref w_FAIL)])) (fun t k => st12 _ k) ?_
          obtain ⟨fs, hr, hrun, hended, hW, hsame⟩ := X12.leave (v := some (.ref w_FAIL)) (fun h => by rw [Bd.returns] at h; cases h)
          refine ⟨_, _, ?_, hrun, hended, _, _, rfl, ?_, ⟨_, rfl⟩, hW, hsame.mono (by decide) (by decide)⟩
          · show Steps p.tables e below (T12.setTop (mkF m 35 #[.val (.ref a1), .val (.ref a2)] [(.ref w_FAIL)])) _
            jvm_step X12.here [X12.here.top, hx, (hb hby d3_35), X12.method', Bd.returns, Value.isRef, FieldType.isReference]
            first | (intro acts; rw [hr _ acts rfl rfl rfl]) | rw [hr _ _ rfl rfl rfl]
            exact Steps.refl _
          · show Q3 Z a1 a2 w_OK w_YIELD w_FAIL w_CRASH h0 n0 _ T12.heap _
            rw [e12]
            exact ⟨by rw [own_and, if_neg ha4_2, if_neg ha11_5, if_neg ha22_8, if_pos ha29_11], N0, rfl⟩
        · refine own_go (B := T10.setTop (mkF m 37 #[.val (.ref a1), .val (.ref a2)] [(.ref a1)])) (fun t k => ?_) ?_
          · show Steps p.tables e below (T10.setTop (mkF m 29 #[.val (.ref a1), .val (.ref a2)] [(.ref w_FAIL), (.ref a2)])) _
            refine Jvm.RoadKit.acmp (g := (mkF m 29 #[.val (.ref a1), .val (.ref a2)] [(.ref w_FAIL), (.ref a2)])) X10 hx rfl rfl rfl (pc0 := 29) (pc' := 36) (same := false) rfl (hb hby d3_29) rfl (decide_eq_false fun q => ha29_11 (Value.ref.inj q)) (by decide) (by decide) ?_
            show Steps p.tables e below (T10.setTop (mkF m 36 #[.val (.ref a1), .val (.ref a2)] [])) _
            refine XS.aloadN X10.here hx rfl (hb hby d3_36) rfl rfl ?_
            exact k
          obtain ⟨T13, X13, e13, st13⟩ := getS2 X10 hx hZ hown (host := "") (Or.inl (hw _ (List.mem_of_getElem? (i := 24) rfl))) Via.refl e10 S_YIELD (g := (mkF m 37 #[.val (.ref a1), .val (.ref a2)] [(.ref a1)])) rfl (hb hby d3_37)
          refine own_go (B := T13.setTop (mkF m 40 #[.val (.ref a1), .val (.ref a2)] [(.ref w_YIELD), (.ref a1)])) (fun t k => st13 _ k) ?_
          by_cases ha40_14 : a1 = w_YIELD
          · refine own_go (B := T13.setTop (mkF m 50 #[.val (.ref a1), .val (.ref a2)] [])) (fun t k => ?_) ?_
            · show Steps p.tables e below (T13.setTop (mkF m 40 #[.val (.ref a1), .val (.ref a2)] [(.ref w_YIELD), (.ref a1)])) _
              refine Jvm.RoadKit.acmp (g := (mkF m 40 #[.val (.ref a1), .val (.ref a2)] [(.ref w_YIELD), (.ref a1)])) X13 hx rfl rfl rfl (pc0 := 40) (pc' := 50) (same := true) rfl (hb hby d3_40) rfl (decide_eq_true (congrArg Value.ref ha40_14)) (by decide) (by decide) ?_
              exact k
            obtain ⟨T15, X15, e15, st15⟩ := getS2 X13 hx hZ hown (host := "") (Or.inl (hw _ (List.mem_of_getElem? (i := 24) rfl))) Via.refl e13 S_YIELD (g := (mkF m 50 #[.val (.ref a1), .val (.ref a2)] [])) rfl (hb hby d3_50)
            refine own_go (B := T15.setTop (mkF m 53 #[.val (.ref a1), .val (.ref a2)] [(.ref w_YIELD)])) (fun t k => st15 _ k) ?_
            obtain ⟨fs, hr, hrun, hended, hW, hsame⟩ := X15.leave (v := some (.ref w_YIELD)) (fun h => by rw [Bd.returns] at h; cases h)
            refine ⟨_, _, ?_, hrun, hended, _, _, rfl, ?_, ⟨_, rfl⟩, hW, hsame.mono (by decide) (by decide)⟩
            · show Steps p.tables e below (T15.setTop (mkF m 53 #[.val (.ref a1), .val (.ref a2)] [(.ref w_YIELD)])) _
              jvm_step X15.here [X15.here.top, hx, (hb hby d3_53), X15.method', Bd.returns, Value.isRef, FieldType.isReference]
              first | (intro acts; rw [hr _ acts rfl rfl rfl]) | rw [hr _ _ rfl rfl rfl]
              exact Steps.refl _
            · show Q3 Z a1 a2 w_OK w_YIELD w_FAIL w_CRASH h0 n0 _ T15.heap _
              rw [e15]
              exact ⟨by rw [own_and, if_neg ha4_2, if_neg ha11_5, if_neg ha22_8, if_neg ha29_11, if_pos ha40_14], N0, rfl⟩
          · refine own_go (B := T13.setTop (mkF m 44 #[.val (.ref a1), .val (.ref a2)] [(.ref a2)])) (fun t k => ?_) ?_
            · show Steps p.tables e below (T13.setTop (mkF m 40 #[.val (.ref a1), .val (.ref a2)] [(.ref w_YIELD), (.ref a1)])) _
              refine Jvm.RoadKit.acmp (g := (mkF m 40 #[.val (.ref a1), .val (.ref a2)] [(.ref w_YIELD), (.ref a1)])) X13 hx rfl rfl rfl (pc0 := 40) (pc' := 43) (same := false) rfl (hb hby d3_40) rfl (decide_eq_false fun q => ha40_14 (Value.ref.inj q)) (by decide) (by decide) ?_
              show Steps p.tables e below (T13.setTop (mkF m 43 #[.val (.ref a1), .val (.ref a2)] [])) _
              refine XS.aloadN X13.here hx rfl (hb hby d3_43) rfl rfl ?_
              exact k
            obtain ⟨T16, X16, e16, st16⟩ := getS2 X13 hx hZ hown (host := "") (Or.inl (hw _ (List.mem_of_getElem? (i := 24) rfl))) Via.refl e13 S_YIELD (g := (mkF m 44 #[.val (.ref a1), .val (.ref a2)] [(.ref a2)])) rfl (hb hby d3_44)
            refine own_go (B := T16.setTop (mkF m 47 #[.val (.ref a1), .val (.ref a2)] [(.ref w_YIELD), (.ref a2)])) (fun t k => st16 _ k) ?_
            by_cases ha47_17 : a2 = w_YIELD
            · refine own_go (B := T16.setTop (mkF m 50 #[.val (.ref a1), .val (.ref a2)] [])) (fun t k => ?_) ?_
              · show Steps p.tables e below (T16.setTop (mkF m 47 #[.val (.ref a1), .val (.ref a2)] [(.ref w_YIELD), (.ref a2)])) _
                refine Jvm.RoadKit.acmp (g := (mkF m 47 #[.val (.ref a1), .val (.ref a2)] [(.ref w_YIELD), (.ref a2)])) X16 hx rfl rfl rfl (pc0 := 47) (pc' := 50) (same := true) rfl (hb hby d3_47) rfl (decide_eq_true (congrArg Value.ref ha47_17)) (by decide) (by decide) ?_
                exact k
              obtain ⟨T18, X18, e18, st18⟩ := getS2 X16 hx hZ hown (host := "") (Or.inl (hw _ (List.mem_of_getElem? (i := 24) rfl))) Via.refl e16 S_YIELD (g := (mkF m 50 #[.val (.ref a1), .val (.ref a2)] [])) rfl (hb hby d3_50)
              refine own_go (B := T18.setTop (mkF m 53 #[.val (.ref a1), .val (.ref a2)] [(.ref w_YIELD)])) (fun t k => st18 _ k) ?_
              obtain ⟨fs, hr, hrun, hended, hW, hsame⟩ := X18.leave (v := some (.ref w_YIELD)) (fun h => by rw [Bd.returns] at h; cases h)
              refine ⟨_, _, ?_, hrun, hended, _, _, rfl, ?_, ⟨_, rfl⟩, hW, hsame.mono (by decide) (by decide)⟩
              · show Steps p.tables e below (T18.setTop (mkF m 53 #[.val (.ref a1), .val (.ref a2)] [(.ref w_YIELD)])) _
                jvm_step X18.here [X18.here.top, hx, (hb hby d3_53), X18.method', Bd.returns, Value.isRef, FieldType.isReference]
                first | (intro acts; rw [hr _ acts rfl rfl rfl]) | rw [hr _ _ rfl rfl rfl]
                exact Steps.refl _
              · show Q3 Z a1 a2 w_OK w_YIELD w_FAIL w_CRASH h0 n0 _ T18.heap _
                rw [e18]
                exact ⟨by rw [own_and, if_neg ha4_2, if_neg ha11_5, if_neg ha22_8, if_neg ha29_11, if_neg ha40_14, if_pos ha47_17], N0, rfl⟩
            · refine own_go (B := T16.setTop (mkF m 54 #[.val (.ref a1), .val (.ref a2)] [])) (fun t k => ?_) ?_
              · show Steps p.tables e below (T16.setTop (mkF m 47 #[.val (.ref a1), .val (.ref a2)] [(.ref w_YIELD), (.ref a2)])) _
                refine Jvm.RoadKit.acmp (g := (mkF m 47 #[.val (.ref a1), .val (.ref a2)] [(.ref w_YIELD), (.ref a2)])) X16 hx rfl rfl rfl (pc0 := 47) (pc' := 54) (same := false) rfl (hb hby d3_47) rfl (decide_eq_false fun q => ha47_17 (Value.ref.inj q)) (by decide) (by decide) ?_
                exact k
              obtain ⟨T19, X19, e19, st19⟩ := getS2 X16 hx hZ hown (host := "") (Or.inl (hw _ (List.mem_of_getElem? (i := 25) rfl))) Via.refl e16 S_OK (g := (mkF m 54 #[.val (.ref a1), .val (.ref a2)] [])) rfl (hb hby d3_54)
              refine own_go (B := T19.setTop (mkF m 57 #[.val (.ref a1), .val (.ref a2)] [(.ref w_OK)])) (fun t k => st19 _ k) ?_
              obtain ⟨fs, hr, hrun, hended, hW, hsame⟩ := X19.leave (v := some (.ref w_OK)) (fun h => by rw [Bd.returns] at h; cases h)
              refine ⟨_, _, ?_, hrun, hended, _, _, rfl, ?_, ⟨_, rfl⟩, hW, hsame.mono (by decide) (by decide)⟩
              · show Steps p.tables e below (T19.setTop (mkF m 57 #[.val (.ref a1), .val (.ref a2)] [(.ref w_OK)])) _
                jvm_step X19.here [X19.here.top, hx, (hb hby d3_57), X19.method', Bd.returns, Value.isRef, FieldType.isReference]
                first | (intro acts; rw [hr _ acts rfl rfl rfl]) | rw [hr _ _ rfl rfl rfl]
                exact Steps.refl _
              · show Q3 Z a1 a2 w_OK w_YIELD w_FAIL w_CRASH h0 n0 _ T19.heap _
                rw [e19]
                exact ⟨by rw [own_and, if_neg ha4_2, if_neg ha11_5, if_neg ha22_8, if_neg ha29_11, if_neg ha40_14, if_neg ha47_17], N0, rfl⟩
theorem own_by_exa {Z : State} {h : Heap} {C : String} (i : Int32) (w_OK : Addr) (w_YIELD : Addr) (w_FAIL : Addr) (w_CRASH : Addr) (E1 : Exa Z h w_OK C) (E2 : Exa Z h w_YIELD C) (E3 : Exa Z h w_FAIL C) (E4 : Exa Z h w_CRASH C) : Exa Z h (own_by i w_OK w_YIELD w_FAIL w_CRASH) C := by
  unfold own_by
  split
  · exact E1
  · split
    · exact E2
    · split
      · exact E3
      · exact E4
theorem own_four (x : Int32) : (x &&& (3 : Int32)) = 0 ∨ (x &&& (3 : Int32)) = 1 ∨ (x &&& (3 : Int32)) = 2 ∨ (x &&& (3 : Int32)) = 3 := by
  have h := c_mask x 3 2 (by decide) (by decide)
  generalize x &&& (3 : Int32) = i at *
  have k : i.toInt = 0 ∨ i.toInt = 1 ∨ i.toInt = 2 ∨ i.toInt = 3 := by omega
  rcases k with k | k | k | k
  · exact Or.inl (Int32.toInt_inj.mp k)
  · exact Or.inr (Or.inl (Int32.toInt_inj.mp k))
  · exact Or.inr (Or.inr (Or.inl (Int32.toInt_inj.mp k)))
  · exact Or.inr (Or.inr (Or.inr (Int32.toInt_inj.mp k)))
theorem own_law (x y : Int32) (w_OK : Addr) (w_YIELD : Addr) (w_FAIL : Addr) (w_CRASH : Addr) (n1 : w_OK ≠ w_YIELD) (n2 : w_OK ≠ w_FAIL) (n3 : w_OK ≠ w_CRASH) (n4 : w_YIELD ≠ w_FAIL) (n5 : w_YIELD ≠ w_CRASH) (n6 : w_FAIL ≠ w_CRASH) :
    own_and (own_by (x &&& (3 : Int32)) w_OK w_YIELD w_FAIL w_CRASH) (own_by (y &&& (3 : Int32)) w_OK w_YIELD w_FAIL w_CRASH) w_OK w_YIELD w_FAIL w_CRASH = own_by (own_max (x &&& (3 : Int32)) (y &&& (3 : Int32))) w_OK w_YIELD w_FAIL w_CRASH := by
  rcases own_four x with h | h | h | h <;> rcases own_four y with g | g | g | g <;> rw [h, g] <;> simp [own_and, own_by, own_max, n1, n2, n3, n4, n5, n6]
theorem own_ord {args : Array Value} {s : State} {t : Term} {w : Addr} {k : Int32} (ev : t.eval args s none [] s = some (.ref w)) (h : (Jvm.Cond.eq (Jvm.Term.field t "java/lang/Enum" "ordinal" "I") (Jvm.Term.int k)).value args s none s [] = some true) : s.fieldOf? w "java/lang/Enum" "ordinal" "I" = some (.int k) := by
  have h1 : (Jvm.Term.field t "java/lang/Enum" "ordinal" "I").eval args s none [] s = s.fieldOf? w "java/lang/Enum" "ordinal" "I" := fld_at ev
  have h2 : (Jvm.Term.int k).eval args s none [] s = some (.int k) := Term.int_eval k
  cases h3 : s.fieldOf? w "java/lang/Enum" "ordinal" "I" with
  | none => rw [h3] at h1; simp [Cond.value, h1] at h
  | some v =>
    rw [h3] at h1
    cases v <;> simp [Cond.value, h1, h2] at h ⊢
    exact h
theorem pn_0 : plainName "com/example/palinode/palinode/EndAndPinLaw" = true := by first | (simp [plainName, overriddenIn]; done) | decide +kernel
theorem ef_0 (m : MethodId) (x0 : Int32) (x1 : Int32) : entryFrame m #[(.int x0), (.int x1)] maxLocals = mkF m 0 #[.val (.int x0), .val (.int x1), .unset, .unset, .unset, .unset, .unset] [] := by first | (simp [entryFrame, mkF, argsToLocals, Value.category, maxLocals]; done) | rfl
def Q0 (Z : State) (p1 : Int32) (p2 : Int32) (w_OK : Addr) (w_YIELD : Addr) (w_FAIL : Addr) (w_CRASH : Addr) (h0 : Heap) (n0 : Nat) (v : Option Value) (h : Heap) (L : List Loc) : Prop := v = some (.int 1) ∧ Fr n0 L
set_option maxRecDepth 65536 in
set_option maxHeartbeats 40000000 in
theorem rm0 (l : Launch) (Z : State) (a0 : Array Value) (hw : ∀ d ∈ tables_1, d.before a0 Z = true) (ws : List Jvm.Cond) (p1 : Int32) (p2 : Int32) (w_OK : Addr) (w_YIELD : Addr) (w_FAIL : Addr) (w_CRASH : Addr) (h0 : Heap) (n0 : Nat) (Z0 : n0 ≤ h0.size) (S_OK : Sta Z h0 "com/example/palinode/palinode/Run$End" "OK" "Lcom/example/palinode/palinode/Run$End;" (.ref w_OK)) (S_YIELD : Sta Z h0 "com/example/palinode/palinode/Run$End" "YIELD" "Lcom/example/palinode/palinode/Run$End;" (.ref w_YIELD)) (S_FAIL : Sta Z h0 "com/example/palinode/palinode/Run$End" "FAIL" "Lcom/example/palinode/palinode/Run$End;" (.ref w_FAIL)) (S_CRASH : Sta Z h0 "com/example/palinode/palinode/Run$End" "CRASH" "Lcom/example/palinode/palinode/Run$End;" (.ref w_CRASH)) (E_OK : Exa Z h0 w_OK "com/example/palinode/palinode/Run$End") (E_YIELD : Exa Z h0 w_YIELD "com/example/palinode/palinode/Run$End") (E_FAIL : Exa Z h0 w_FAIL "com/example/palinode/palinode/Run$End") (E_CRASH : Exa Z h0 w_CRASH "com/example/palinode/palinode/Run$End") (ne_OK_YIELD : w_OK ≠ w_YIELD) (ne_OK_FAIL : w_OK ≠ w_FAIL) (ne_OK_CRASH : w_OK ≠ w_CRASH) (ne_YIELD_FAIL : w_YIELD ≠ w_FAIL) (ne_YIELD_CRASH : w_YIELD ≠ w_CRASH) (ne_FAIL_CRASH : w_FAIL ≠ w_CRASH) :
    MetFree l x (head1 (Jvm.Cond.code x code maxLocals ret :: ws) room_1) (fun a U => a = #[(.int p1), (.int p2)] ∧ Z.Warmed39 U.vm ∧ U.heap = h0) (fun _ _ _ _ _ => True) (fun _ U o U' => ∃ v L, o = .returned v ∧ Q0 Z p1 p2 w_OK w_YIELD w_FAIL w_CRASH h0 n0 v U'.heap L ∧ FrameEnd U o U' L room_1.cells room_1.slots) := by
  refine MetFree.of_bodySF (plainFor_of_name pn_0) hisR ?_
  intro p e s m args below meth c s₁ Bd hml0 hP hK
  obtain ⟨rfl, hZ, hh⟩ := hP
  have hx := Bd.exec
  have hby := Bd.bytes
  have hml : c.maxLocals = 7 := hml0
  have hown : s.vm.findClass "com/example/palinode/palinode/EndAndPinLaw" = some m.cls := findClass_of_methodNamed Bd.named
  have hnm := (name_of_methodNamed Bd.named Bd.method).1
  have X0 : Stand p l e room_1 s m #[(.int p1), (.int p2)] below meth c s₁ [] 0 0 := Stand.of_body Bd
  have e0 : s₁.heap = h0 := by rw [← hh, Bd.state]; rfl
  have N0 := Fr.nil n0
  refine own_go (B := s₁.setTop (mkF m 0 #[.val (.int p1), .val (.int p2), .unset, .unset, .unset, .unset, .unset] [])) (fun t k => castTop (ef_0 m p1 p2) k) ?_
  refine own_go (B := s₁.setTop (mkF m 9 #[.val (.int p1), .val (.int p2), .val (.int (p1 &&& (3 : Int32))), .val (.int (p2 &&& (3 : Int32))), .unset, .unset, .unset] [(.int (p1 &&& (3 : Int32)))])) (fun t k => ?_) ?_
  · show Steps p.tables e below (s₁.setTop (mkF m 0 #[.val (.int p1), .val (.int p2), .unset, .unset, .unset, .unset, .unset] [])) _
    refine XS.iloadN X0.here hx rfl (hb hby at_0) rfl ?_
    show Steps p.tables e below (s₁.setTop (mkF m 1 #[.val (.int p1), .val (.int p2), .unset, .unset, .unset, .unset, .unset] [(.int p1)])) _
    refine XS.iconst X0.here hx rfl (hb hby at_1) ?_
    show Steps p.tables e below (s₁.setTop (mkF m 2 #[.val (.int p1), .val (.int p2), .unset, .unset, .unset, .unset, .unset] [(.int (3 : Int32)), (.int p1)])) _
    refine XS.iand X0.here hx rfl (hb hby at_2) rfl ?_
    show Steps p.tables e below (s₁.setTop (mkF m 3 #[.val (.int p1), .val (.int p2), .unset, .unset, .unset, .unset, .unset] [(.int (p1 &&& (3 : Int32)))])) _
    refine XS.istoreN X0.here hx rfl (hb hby at_3) rfl (l' := #[.val (.int p1), .val (.int p2), .val (.int (p1 &&& (3 : Int32))), .unset, .unset, .unset, .unset]) rfl ?_
    show Steps p.tables e below (s₁.setTop (mkF m 4 #[.val (.int p1), .val (.int p2), .val (.int (p1 &&& (3 : Int32))), .unset, .unset, .unset, .unset] [])) _
    refine XS.iloadN X0.here hx rfl (hb hby at_4) rfl ?_
    show Steps p.tables e below (s₁.setTop (mkF m 5 #[.val (.int p1), .val (.int p2), .val (.int (p1 &&& (3 : Int32))), .unset, .unset, .unset, .unset] [(.int p2)])) _
    refine XS.iconst X0.here hx rfl (hb hby at_5) ?_
    show Steps p.tables e below (s₁.setTop (mkF m 6 #[.val (.int p1), .val (.int p2), .val (.int (p1 &&& (3 : Int32))), .unset, .unset, .unset, .unset] [(.int (3 : Int32)), (.int p2)])) _
    refine XS.iand X0.here hx rfl (hb hby at_6) rfl ?_
    show Steps p.tables e below (s₁.setTop (mkF m 7 #[.val (.int p1), .val (.int p2), .val (.int (p1 &&& (3 : Int32))), .unset, .unset, .unset, .unset] [(.int (p2 &&& (3 : Int32)))])) _
    refine XS.istoreN X0.here hx rfl (hb hby at_7) rfl (l' := #[.val (.int p1), .val (.int p2), .val (.int (p1 &&& (3 : Int32))), .val (.int (p2 &&& (3 : Int32))), .unset, .unset, .unset]) rfl ?_
    show Steps p.tables e below (s₁.setTop (mkF m 8 #[.val (.int p1), .val (.int p2), .val (.int (p1 &&& (3 : Int32))), .val (.int (p2 &&& (3 : Int32))), .unset, .unset, .unset] [])) _
    refine XS.iloadN X0.here hx rfl (hb hby at_8) rfl ?_
    exact k
  obtain ⟨_, _, ⟨T1, L1, k1, n1⟩, -, X1, ⟨Lc1, hQ1, l1, y1, z1⟩, st1⟩ := Jvm.LawKit.callS X0 hx (y := (⟨"com/example/palinode/palinode/EndAndPinLaw", "bySeverity", "(I)Lcom/example/palinode/palinode/Run$End;"⟩ : MethodName)) hown (mvT hZ (hw _ (List.mem_of_getElem? (i := 0) rfl))) (mvT hZ (hw _ (List.mem_of_getElem? (i := 1) rfl))) (mvT hZ (hw _ (List.mem_of_getElem? (i := 2) rfl))) (mvT hZ (hw _ (List.mem_of_getElem? (i := 3) rfl))) (by decide) (backOf (W := 0) (rm1 l Z a0 hw [] (p1 &&& (3 : Int32)) w_OK w_YIELD w_FAIL w_CRASH h0 n0 Z0 S_OK S_YIELD S_FAIL S_CRASH) hZ (hw _ (List.mem_of_getElem? (i := 3) rfl)) (hw _ (List.mem_of_getElem? (i := 2) rfl)) (by decide) (by decide)) (g := (mkF m 9 #[.val (.int p1), .val (.int p2), .val (.int (p1 &&& (3 : Int32))), .val (.int (p2 &&& (3 : Int32))), .unset, .unset, .unset] [(.int (p1 &&& (3 : Int32)))])) rfl (by rw [hml]; rfl) (argsL := [(.int (p1 &&& (3 : Int32)))]) (rest := []) (lenOf own_pd0 rfl) rfl (by show 2 * 0 + _ ≤ _; exact Nat.le_of_eq rfl) (hb hby at_9) (fun _ _ => ⟨rfl, e0, (by decide : 0 + 0 ≤ _), (by decide : 0 + 0 ≤ _)⟩)
  dsimp only [Pt.U, Pt.locs, Pt.cells, Pt.slots] at X1 l1 y1 z1 st1 hQ1
  subst l1 y1 z1
  obtain ⟨rfl, N1q, eq1⟩ := hQ1
  have N1 := Fr.app N0 N1q
  refine own_go (B := T1.setTop (mkF m 12 #[.val (.int p1), .val (.int p2), .val (.int (p1 &&& (3 : Int32))), .val (.int (p2 &&& (3 : Int32))), .unset, .unset, .unset] [(.ref (own_by (p1 &&& (3 : Int32)) w_OK w_YIELD w_FAIL w_CRASH))])) (fun t k => st1 _ k) ?_
  obtain ⟨r1, hr1⟩ : ∃ z : Addr, z = (own_by (p1 &&& (3 : Int32)) w_OK w_YIELD w_FAIL w_CRASH) := ⟨_, rfl⟩
  refine own_go (B := T1.setTop (mkF m 12 #[.val (.int p1), .val (.int p2), .val (.int (p1 &&& (3 : Int32))), .val (.int (p2 &&& (3 : Int32))), .unset, .unset, .unset] [(.ref r1)])) (fun t k => by rw [hr1] at k; exact k) ?_
  have E_r1 : Exa Z h0 r1 "com/example/palinode/palinode/Run$End" := by rw [hr1]; exact own_by_exa _ w_OK w_YIELD w_FAIL w_CRASH E_OK E_YIELD E_FAIL E_CRASH
  refine own_go (B := T1.setTop (mkF m 15 #[.val (.int p1), .val (.int p2), .val (.int (p1 &&& (3 : Int32))), .val (.int (p2 &&& (3 : Int32))), .val (.ref r1), .unset, .unset] [(.int (p2 &&& (3 : Int32)))])) (fun t k => ?_) ?_
  · show Steps p.tables e below (T1.setTop (mkF m 12 #[.val (.int p1), .val (.int p2), .val (.int (p1 &&& (3 : Int32))), .val (.int (p2 &&& (3 : Int32))), .unset, .unset, .unset] [(.ref r1)])) _
    refine XS.astore X1.here hx rfl (hb hby at_12) rfl rfl (l' := #[.val (.int p1), .val (.int p2), .val (.int (p1 &&& (3 : Int32))), .val (.int (p2 &&& (3 : Int32))), .val (.ref r1), .unset, .unset]) rfl ?_
    show Steps p.tables e below (T1.setTop (mkF m 14 #[.val (.int p1), .val (.int p2), .val (.int (p1 &&& (3 : Int32))), .val (.int (p2 &&& (3 : Int32))), .val (.ref r1), .unset, .unset] [])) _
    refine XS.iloadN X1.here hx rfl (hb hby at_14) rfl ?_
    exact k
  obtain ⟨_, _, ⟨T2, L2, k2, n2⟩, -, X2, ⟨Lc2, hQ2, l2, y2, z2⟩, st2⟩ := Jvm.LawKit.callS X1 hx (y := (⟨"com/example/palinode/palinode/EndAndPinLaw", "bySeverity", "(I)Lcom/example/palinode/palinode/Run$End;"⟩ : MethodName)) hown (mvT hZ (hw _ (List.mem_of_getElem? (i := 0) rfl))) (mvT hZ (hw _ (List.mem_of_getElem? (i := 1) rfl))) (mvT hZ (hw _ (List.mem_of_getElem? (i := 2) rfl))) (mvT hZ (hw _ (List.mem_of_getElem? (i := 3) rfl))) (by decide) (backOf (W := 0) (rm1 l Z a0 hw [] (p2 &&& (3 : Int32)) w_OK w_YIELD w_FAIL w_CRASH h0 n0 Z0 S_OK S_YIELD S_FAIL S_CRASH) hZ (hw _ (List.mem_of_getElem? (i := 3) rfl)) (hw _ (List.mem_of_getElem? (i := 2) rfl)) (by decide) (by decide)) (g := (mkF m 15 #[.val (.int p1), .val (.int p2), .val (.int (p1 &&& (3 : Int32))), .val (.int (p2 &&& (3 : Int32))), .val (.ref r1), .unset, .unset] [(.int (p2 &&& (3 : Int32)))])) rfl (by rw [hml]; rfl) (argsL := [(.int (p2 &&& (3 : Int32)))]) (rest := []) (lenOf own_pd0 rfl) rfl (by show 2 * 0 + _ ≤ _; exact Nat.le_of_eq rfl) (hb hby at_15) (fun _ _ => ⟨rfl, eq1, (by decide : 0 + 0 ≤ _), (by decide : 0 + 0 ≤ _)⟩)
  dsimp only [Pt.U, Pt.locs, Pt.cells, Pt.slots] at X2 l2 y2 z2 st2 hQ2
  subst l2 y2 z2
  obtain ⟨rfl, N2q, eq2⟩ := hQ2
  have N2 := Fr.app N1 N2q
  refine own_go (B := T2.setTop (mkF m 18 #[.val (.int p1), .val (.int p2), .val (.int (p1 &&& (3 : Int32))), .val (.int (p2 &&& (3 : Int32))), .val (.ref r1), .unset, .unset] [(.ref (own_by (p2 &&& (3 : Int32)) w_OK w_YIELD w_FAIL w_CRASH))])) (fun t k => st2 _ k) ?_
  obtain ⟨r2, hr2⟩ : ∃ z : Addr, z = (own_by (p2 &&& (3 : Int32)) w_OK w_YIELD w_FAIL w_CRASH) := ⟨_, rfl⟩
  refine own_go (B := T2.setTop (mkF m 18 #[.val (.int p1), .val (.int p2), .val (.int (p1 &&& (3 : Int32))), .val (.int (p2 &&& (3 : Int32))), .val (.ref r1), .unset, .unset] [(.ref r2)])) (fun t k => by rw [hr2] at k; exact k) ?_
  have E_r2 : Exa Z h0 r2 "com/example/palinode/palinode/Run$End" := by rw [hr2]; exact own_by_exa _ w_OK w_YIELD w_FAIL w_CRASH E_OK E_YIELD E_FAIL E_CRASH
  refine own_go (B := T2.setTop (mkF m 22 #[.val (.int p1), .val (.int p2), .val (.int (p1 &&& (3 : Int32))), .val (.int (p2 &&& (3 : Int32))), .val (.ref r1), .val (.ref r2), .unset] [(.int (p2 &&& (3 : Int32))), (.int (p1 &&& (3 : Int32)))])) (fun t k => ?_) ?_
  · show Steps p.tables e below (T2.setTop (mkF m 18 #[.val (.int p1), .val (.int p2), .val (.int (p1 &&& (3 : Int32))), .val (.int (p2 &&& (3 : Int32))), .val (.ref r1), .unset, .unset] [(.ref r2)])) _
    refine XS.astore X2.here hx rfl (hb hby at_18) rfl rfl (l' := #[.val (.int p1), .val (.int p2), .val (.int (p1 &&& (3 : Int32))), .val (.int (p2 &&& (3 : Int32))), .val (.ref r1), .val (.ref r2), .unset]) rfl ?_
    show Steps p.tables e below (T2.setTop (mkF m 20 #[.val (.int p1), .val (.int p2), .val (.int (p1 &&& (3 : Int32))), .val (.int (p2 &&& (3 : Int32))), .val (.ref r1), .val (.ref r2), .unset] [])) _
    refine XS.iloadN X2.here hx rfl (hb hby at_20) rfl ?_
    show Steps p.tables e below (T2.setTop (mkF m 21 #[.val (.int p1), .val (.int p2), .val (.int (p1 &&& (3 : Int32))), .val (.int (p2 &&& (3 : Int32))), .val (.ref r1), .val (.ref r2), .unset] [(.int (p1 &&& (3 : Int32)))])) _
    refine XS.iloadN X2.here hx rfl (hb hby at_21) rfl ?_
    exact k
  obtain ⟨_, _, ⟨T3, L3, k3, n3⟩, -, X3, ⟨Lc3, hQ3, l3, y3, z3⟩, st3⟩ := Jvm.LawKit.callS X2 hx (y := (⟨"java/lang/Math", "max", "(II)I"⟩ : MethodName)) hown (mvT hZ (hw _ (List.mem_of_getElem? (i := 9) rfl))) (mvT hZ (hw _ (List.mem_of_getElem? (i := 10) rfl))) (mvT hZ (hw _ (List.mem_of_getElem? (i := 11) rfl))) (mvT hZ (hw _ (List.mem_of_getElem? (i := 12) rfl))) (by decide) (backOf (W := 0) (rm2 l Z a0 hw [] (p1 &&& (3 : Int32)) (p2 &&& (3 : Int32)) h0 n0 Z0) hZ (hw _ (List.mem_of_getElem? (i := 12) rfl)) (hw _ (List.mem_of_getElem? (i := 11) rfl)) (by decide) (by decide)) (g := (mkF m 22 #[.val (.int p1), .val (.int p2), .val (.int (p1 &&& (3 : Int32))), .val (.int (p2 &&& (3 : Int32))), .val (.ref r1), .val (.ref r2), .unset] [(.int (p2 &&& (3 : Int32))), (.int (p1 &&& (3 : Int32)))])) rfl (by rw [hml]; rfl) (argsL := [(.int (p1 &&& (3 : Int32))), (.int (p2 &&& (3 : Int32)))]) (rest := []) (lenOf own_pd1 rfl) rfl (by show 2 * 0 + _ ≤ _; exact Nat.le_of_eq rfl) (hb hby at_22) (fun _ _ => ⟨rfl, eq2, (by decide : 0 + 0 ≤ _), (by decide : 0 + 0 ≤ _)⟩)
  dsimp only [Pt.U, Pt.locs, Pt.cells, Pt.slots] at X3 l3 y3 z3 st3 hQ3
  subst l3 y3 z3
  obtain ⟨rfl, N3q, eq3⟩ := hQ3
  have N3 := Fr.app N2 N3q
  refine own_go (B := T3.setTop (mkF m 25 #[.val (.int p1), .val (.int p2), .val (.int (p1 &&& (3 : Int32))), .val (.int (p2 &&& (3 : Int32))), .val (.ref r1), .val (.ref r2), .unset] [(.int (own_max (p1 &&& (3 : Int32)) (p2 &&& (3 : Int32))))])) (fun t k => st3 _ k) ?_
  obtain ⟨_, _, ⟨T4, L4, k4, n4⟩, -, X4, ⟨Lc4, hQ4, l4, y4, z4⟩, st4⟩ := Jvm.LawKit.callS X3 hx (y := (⟨"com/example/palinode/palinode/EndAndPinLaw", "bySeverity", "(I)Lcom/example/palinode/palinode/Run$End;"⟩ : MethodName)) hown (mvT hZ (hw _ (List.mem_of_getElem? (i := 0) rfl))) (mvT hZ (hw _ (List.mem_of_getElem? (i := 1) rfl))) (mvT hZ (hw _ (List.mem_of_getElem? (i := 2) rfl))) (mvT hZ (hw _ (List.mem_of_getElem? (i := 3) rfl))) (by decide) (backOf (W := 0) (rm1 l Z a0 hw [] (own_max (p1 &&& (3 : Int32)) (p2 &&& (3 : Int32))) w_OK w_YIELD w_FAIL w_CRASH h0 n0 Z0 S_OK S_YIELD S_FAIL S_CRASH) hZ (hw _ (List.mem_of_getElem? (i := 3) rfl)) (hw _ (List.mem_of_getElem? (i := 2) rfl)) (by decide) (by decide)) (g := (mkF m 25 #[.val (.int p1), .val (.int p2), .val (.int (p1 &&& (3 : Int32))), .val (.int (p2 &&& (3 : Int32))), .val (.ref r1), .val (.ref r2), .unset] [(.int (own_max (p1 &&& (3 : Int32)) (p2 &&& (3 : Int32))))])) rfl (by rw [hml]; rfl) (argsL := [(.int (own_max (p1 &&& (3 : Int32)) (p2 &&& (3 : Int32))))]) (rest := []) (lenOf own_pd0 rfl) rfl (by show 2 * 0 + _ ≤ _; exact Nat.le_of_eq rfl) (hb hby at_25) (fun _ _ => ⟨rfl, eq3, (by decide : 0 + 0 ≤ _), (by decide : 0 + 0 ≤ _)⟩)
  dsimp only [Pt.U, Pt.locs, Pt.cells, Pt.slots] at X4 l4 y4 z4 st4 hQ4
  subst l4 y4 z4
  obtain ⟨rfl, N4q, eq4⟩ := hQ4
  have N4 := Fr.app N3 N4q
  refine own_go (B := T4.setTop (mkF m 28 #[.val (.int p1), .val (.int p2), .val (.int (p1 &&& (3 : Int32))), .val (.int (p2 &&& (3 : Int32))), .val (.ref r1), .val (.ref r2), .unset] [(.ref (own_by (own_max (p1 &&& (3 : Int32)) (p2 &&& (3 : Int32))) w_OK w_YIELD w_FAIL w_CRASH))])) (fun t k => st4 _ k) ?_
  refine own_go (B := T4.setTop (mkF m 34 #[.val (.int p1), .val (.int p2), .val (.int (p1 &&& (3 : Int32))), .val (.int (p2 &&& (3 : Int32))), .val (.ref r1), .val (.ref r2), .val (.ref (own_by (own_max (p1 &&& (3 : Int32)) (p2 &&& (3 : Int32))) w_OK w_YIELD w_FAIL w_CRASH))] [(.ref r2), (.ref r1)])) (fun t k => ?_) ?_
  · show Steps p.tables e below (T4.setTop (mkF m 28 #[.val (.int p1), .val (.int p2), .val (.int (p1 &&& (3 : Int32))), .val (.int (p2 &&& (3 : Int32))), .val (.ref r1), .val (.ref r2), .unset] [(.ref (own_by (own_max (p1 &&& (3 : Int32)) (p2 &&& (3 : Int32))) w_OK w_YIELD w_FAIL w_CRASH))])) _
    refine XS.astore X4.here hx rfl (hb hby at_28) rfl rfl (l' := #[.val (.int p1), .val (.int p2), .val (.int (p1 &&& (3 : Int32))), .val (.int (p2 &&& (3 : Int32))), .val (.ref r1), .val (.ref r2), .val (.ref (own_by (own_max (p1 &&& (3 : Int32)) (p2 &&& (3 : Int32))) w_OK w_YIELD w_FAIL w_CRASH))]) rfl ?_
    show Steps p.tables e below (T4.setTop (mkF m 30 #[.val (.int p1), .val (.int p2), .val (.int (p1 &&& (3 : Int32))), .val (.int (p2 &&& (3 : Int32))), .val (.ref r1), .val (.ref r2), .val (.ref (own_by (own_max (p1 &&& (3 : Int32)) (p2 &&& (3 : Int32))) w_OK w_YIELD w_FAIL w_CRASH))] [])) _
    refine XS.aload X4.here hx rfl (hb hby at_30) rfl rfl ?_
    show Steps p.tables e below (T4.setTop (mkF m 32 #[.val (.int p1), .val (.int p2), .val (.int (p1 &&& (3 : Int32))), .val (.int (p2 &&& (3 : Int32))), .val (.ref r1), .val (.ref r2), .val (.ref (own_by (own_max (p1 &&& (3 : Int32)) (p2 &&& (3 : Int32))) w_OK w_YIELD w_FAIL w_CRASH))] [(.ref r1)])) _
    refine XS.aload X4.here hx rfl (hb hby at_32) rfl rfl ?_
    exact k
  obtain ⟨cq5, kq5, q5a, q5b, q5c⟩ := isOf hZ eq4 E_r1
  obtain ⟨_, _, ⟨T5, L5, k5, n5⟩, -, X5, ⟨Lc5, hQ5, l5, y5, z5⟩, st5⟩ := X4.virtualBack hx (y := (⟨"com/example/palinode/palinode/Run$End", "and", "(Lcom/example/palinode/palinode/Run$End;)Lcom/example/palinode/palinode/Run$End;"⟩ : MethodName)) (z := (⟨"com/example/palinode/palinode/Run$End", "and", "(Lcom/example/palinode/palinode/Run$End;)Lcom/example/palinode/palinode/Run$End;"⟩ : MethodName)) hown (mvT hZ (hw _ (List.mem_of_getElem? (i := 13) rfl))) (mvT hZ (hw _ (List.mem_of_getElem? (i := 14) rfl))) (notFace_of_selects (args := #[]) (mvT hZ (hw _ (List.mem_of_getElem? (i := 16) rfl)))) (mvT hZ (hw _ (List.mem_of_getElem? (i := 16) rfl))) (mvT hZ (hw _ (List.mem_of_getElem? (i := 15) rfl))) (by decide) (backOf (W := 0) (rm3 l Z a0 hw [] r1 r2 w_OK w_YIELD w_FAIL w_CRASH h0 n0 Z0 S_OK S_YIELD S_FAIL S_CRASH) hZ (hw _ (List.mem_of_getElem? (i := 17) rfl)) (hw _ (List.mem_of_getElem? (i := 5) rfl)) (by decide) (by decide)) q5a q5c (g := (mkF m 34 #[.val (.int p1), .val (.int p2), .val (.int (p1 &&& (3 : Int32))), .val (.int (p2 &&& (3 : Int32))), .val (.ref r1), .val (.ref r2), .val (.ref (own_by (own_max (p1 &&& (3 : Int32)) (p2 &&& (3 : Int32))) w_OK w_YIELD w_FAIL w_CRASH))] [(.ref r2), (.ref r1)])) rfl (by rw [hml]; rfl) (Steps.refl _) (argsL := [(.ref r2)]) (rest := []) (lenOf own_pd2 rfl) rfl (by show 2 * 0 + _ ≤ _; exact Nat.le_of_eq rfl) (hb hby at_34) (fun _ _ => ⟨rfl, eq4, (by decide : 0 + 0 ≤ _), (by decide : 0 + 0 ≤ _)⟩)
  dsimp only [Pt.U, Pt.locs, Pt.cells, Pt.slots] at X5 l5 y5 z5 st5 hQ5
  subst l5 y5 z5
  obtain ⟨rfl, N5q, eq5⟩ := hQ5
  have N5 := Fr.app N4 N5q
  refine own_go (B := T5.setTop (mkF m 37 #[.val (.int p1), .val (.int p2), .val (.int (p1 &&& (3 : Int32))), .val (.int (p2 &&& (3 : Int32))), .val (.ref r1), .val (.ref r2), .val (.ref (own_by (own_max (p1 &&& (3 : Int32)) (p2 &&& (3 : Int32))) w_OK w_YIELD w_FAIL w_CRASH))] [(.ref (own_and r1 r2 w_OK w_YIELD w_FAIL w_CRASH))])) (fun t k => st5.trans k) ?_
  obtain ⟨fs, hr, hrun, hended, hW, hsame⟩ := X5.leave (v := some (.int (1 : Int32))) (fun h => by rw [Bd.returns] at h; cases h)
  refine ⟨_, _, ?_, hrun, hended, _, _, rfl, ?_, ⟨_, rfl⟩, hW, hsame.mono (by decide) (by decide)⟩
  · show Steps p.tables e below (T5.setTop (mkF m 37 #[.val (.int p1), .val (.int p2), .val (.int (p1 &&& (3 : Int32))), .val (.int (p2 &&& (3 : Int32))), .val (.ref r1), .val (.ref r2), .val (.ref (own_by (own_max (p1 &&& (3 : Int32)) (p2 &&& (3 : Int32))) w_OK w_YIELD w_FAIL w_CRASH))] [(.ref (own_and r1 r2 w_OK w_YIELD w_FAIL w_CRASH))])) _
    refine XS.aload X5.here hx rfl (hb hby at_37) rfl rfl ?_
    show Steps p.tables e below (T5.setTop (mkF m 39 #[.val (.int p1), .val (.int p2), .val (.int (p1 &&& (3 : Int32))), .val (.int (p2 &&& (3 : Int32))), .val (.ref r1), .val (.ref r2), .val (.ref (own_by (own_max (p1 &&& (3 : Int32)) (p2 &&& (3 : Int32))) w_OK w_YIELD w_FAIL w_CRASH))] [(.ref (own_by (own_max (p1 &&& (3 : Int32)) (p2 &&& (3 : Int32))) w_OK w_YIELD w_FAIL w_CRASH)), (.ref (own_and r1 r2 w_OK w_YIELD w_FAIL w_CRASH))])) _
    refine Jvm.RoadKit.acmp (g := (mkF m 39 #[.val (.int p1), .val (.int p2), .val (.int (p1 &&& (3 : Int32))), .val (.int (p2 &&& (3 : Int32))), .val (.ref r1), .val (.ref r2), .val (.ref (own_by (own_max (p1 &&& (3 : Int32)) (p2 &&& (3 : Int32))) w_OK w_YIELD w_FAIL w_CRASH))] [(.ref (own_by (own_max (p1 &&& (3 : Int32)) (p2 &&& (3 : Int32))) w_OK w_YIELD w_FAIL w_CRASH)), (.ref (own_and r1 r2 w_OK w_YIELD w_FAIL w_CRASH))])) X5 hx rfl rfl rfl (pc0 := 39) (pc' := 42) (same := true) rfl (hb hby at_39) rfl (decide_eq_true (congrArg Value.ref (by rw [hr1, hr2]; exact own_law p1 p2 w_OK w_YIELD w_FAIL w_CRASH ne_OK_YIELD ne_OK_FAIL ne_OK_CRASH ne_YIELD_FAIL ne_YIELD_CRASH ne_FAIL_CRASH))) (by decide) (by decide) ?_
    show Steps p.tables e below (T5.setTop (mkF m 42 #[.val (.int p1), .val (.int p2), .val (.int (p1 &&& (3 : Int32))), .val (.int (p2 &&& (3 : Int32))), .val (.ref r1), .val (.ref r2), .val (.ref (own_by (own_max (p1 &&& (3 : Int32)) (p2 &&& (3 : Int32))) w_OK w_YIELD w_FAIL w_CRASH))] [])) _
    refine XS.iconst X5.here hx rfl (hb hby at_42) ?_
    show Steps p.tables e below (T5.setTop (mkF m 43 #[.val (.int p1), .val (.int p2), .val (.int (p1 &&& (3 : Int32))), .val (.int (p2 &&& (3 : Int32))), .val (.ref r1), .val (.ref r2), .val (.ref (own_by (own_max (p1 &&& (3 : Int32)) (p2 &&& (3 : Int32))) w_OK w_YIELD w_FAIL w_CRASH))] [(.int (1 : Int32))])) _
    refine XS.goto X5.here hx rfl (pc0 := 43) (pc' := 47) rfl (hb hby at_43) (by decide) (by decide) ?_
    show Steps p.tables e below (T5.setTop (mkF m 47 #[.val (.int p1), .val (.int p2), .val (.int (p1 &&& (3 : Int32))), .val (.int (p2 &&& (3 : Int32))), .val (.ref r1), .val (.ref r2), .val (.ref (own_by (own_max (p1 &&& (3 : Int32)) (p2 &&& (3 : Int32))) w_OK w_YIELD w_FAIL w_CRASH))] [(.int (1 : Int32))])) _
    exact retN X5 hx (t := .boolean) Bd.returns (by simp) (hb hby at_47) hr
  · show Q0 Z p1 p2 w_OK w_YIELD w_FAIL w_CRASH h0 n0 _ T5.heap _
    rw [eq5]
    exact ⟨rfl, N5⟩
set_option maxRecDepth 65536 in
set_option maxHeartbeats 40000000 in
theorem comes_1 {Post : Tables → Env → Array Value → State → Outcome → State → Prop} (hpost : ∀ tb e args s v u, (limb_1_1.after args s (.returned v) u = true ∧ limb_1_2.after args s (.returned v) u = true ∧ True) → FrameEnd s (.returned v) u (Jvm.fieldLocs frame_1_writes args s ++ Jvm.arrayLocs frame_1_arrays args s ++ Jvm.staticLocs frame_1_statics s) 0 0 → Post tb e args s (.returned v) u) :
    ArmFor flags0 classFile x code maxLocals ret World_1 tables_1 room_1 Calls_1 rest_1 Pre_1 Post := by
  intro l hfl _ _ p e ha hc hk s m args below hf hA hF happ hP
  obtain ⟨hcalls, hrest, hpre⟩ := hP
  obtain ⟨-, -, -, hnamed, -, -, -, hat⟩ := (Spec.applies_iff hf).mp happ
  obtain ⟨hg, hn⟩ := and_e (Cond.before_iff.mp (show (Jvm.Cond.and given_1 narrow_1).before args s = true from hpre))
  obtain ⟨gc, ga0⟩ := and_e hg
  obtain ⟨ha0, ga1⟩ := and_e ga0
  obtain ⟨w0, w1, rfl⟩ : ∃ w0 w1 : Value, args = #[w0, w1] := by
    have hs : args.size = 2 := by simpa [Cond.value, given_1] using gc
    obtain ⟨L⟩ := args
    match L, hs with
    | [w0, w1], _ => exact ⟨w0, w1, rfl⟩
  have hw := fun d (hd : d ∈ tables_1) => atoms_spec (ws := Jvm.Cond.code x code maxLocals ret :: tables_1) hat d (List.mem_cons_of_mem _ hd)
  have hfit : Fit s := fun {y c} hc i hi => by
    obtain ⟨ha, rfl⟩ := Array.getElem?_eq_some_iff.mp hc
    have q := List.all_eq_true.mp ((Array.all_eq_true_iff_forall_mem.mp hF) _ (Array.getElem_mem ha)) i (List.mem_range.mpr hi)
    simpa [Array.getElem?_eq_getElem hi] using q
  obtain ⟨i0, ei0⟩ := is_v ha0
  obtain rfl : w0 = (.int i0) := Option.some.inj ei0
  obtain ⟨i1, ei1⟩ := is_v ga1
  obtain rfl : w1 = (.int i1) := Option.some.inj ei1
  obtain ⟨hx0, hy0⟩ := and_e hn
  obtain ⟨hx1, hy1⟩ := and_e hy0
  obtain ⟨hx2, hy2⟩ := and_e hy1
  obtain ⟨hx3, hy3⟩ := and_e hy2
  obtain ⟨hx4, hy4⟩ := and_e hy3
  obtain ⟨hx5, hy5⟩ := and_e hy4
  obtain ⟨hx6, hy6⟩ := and_e hy5
  obtain ⟨w_OK, ev_OK⟩ := exa_v hx0
  have S_OK : Sta s s.heap "com/example/palinode/palinode/Run$End" "OK" "Lcom/example/palinode/palinode/Run$End;" (.ref w_OK) := Sta.start ev_OK (Or.inr ⟨(hw _ (List.mem_of_getElem? (i := 5) rfl)), (hw _ (List.mem_of_getElem? (i := 6) rfl))⟩)
  have E_OK : Exa s s.heap w_OK "com/example/palinode/palinode/Run$End" := Exa.start ev_OK hx0
  have o_OK : s.fieldOf? w_OK "java/lang/Enum" "ordinal" "I" = some (.int (0 : Int32)) := own_ord ev_OK hx2
  obtain ⟨w_YIELD, ev_YIELD⟩ := exa_v hx5
  have S_YIELD : Sta s s.heap "com/example/palinode/palinode/Run$End" "YIELD" "Lcom/example/palinode/palinode/Run$End;" (.ref w_YIELD) := Sta.start ev_YIELD (Or.inr ⟨(hw _ (List.mem_of_getElem? (i := 5) rfl)), (hw _ (List.mem_of_getElem? (i := 22) rfl))⟩)
  have E_YIELD : Exa s s.heap w_YIELD "com/example/palinode/palinode/Run$End" := Exa.start ev_YIELD hx5
  have o_YIELD : s.fieldOf? w_YIELD "java/lang/Enum" "ordinal" "I" = some (.int (2 : Int32)) := own_ord ev_YIELD hy6
  obtain ⟨w_FAIL, ev_FAIL⟩ := exa_v hx4
  have S_FAIL : Sta s s.heap "com/example/palinode/palinode/Run$End" "FAIL" "Lcom/example/palinode/palinode/Run$End;" (.ref w_FAIL) := Sta.start ev_FAIL (Or.inr ⟨(hw _ (List.mem_of_getElem? (i := 5) rfl)), (hw _ (List.mem_of_getElem? (i := 20) rfl))⟩)
  have E_FAIL : Exa s s.heap w_FAIL "com/example/palinode/palinode/Run$End" := Exa.start ev_FAIL hx4
  have o_FAIL : s.fieldOf? w_FAIL "java/lang/Enum" "ordinal" "I" = some (.int (1 : Int32)) := own_ord ev_FAIL hx6
  obtain ⟨w_CRASH, ev_CRASH⟩ := exa_v hx1
  have S_CRASH : Sta s s.heap "com/example/palinode/palinode/Run$End" "CRASH" "Lcom/example/palinode/palinode/Run$End;" (.ref w_CRASH) := Sta.start ev_CRASH (Or.inr ⟨(hw _ (List.mem_of_getElem? (i := 5) rfl)), (hw _ (List.mem_of_getElem? (i := 8) rfl))⟩)
  have E_CRASH : Exa s s.heap w_CRASH "com/example/palinode/palinode/Run$End" := Exa.start ev_CRASH hx1
  have o_CRASH : s.fieldOf? w_CRASH "java/lang/Enum" "ordinal" "I" = some (.int (3 : Int32)) := own_ord ev_CRASH hx3
  have ne_OK_YIELD : w_OK ≠ w_YIELD := fun q => by rw [q, o_YIELD] at o_OK; simp at o_OK
  have ne_OK_FAIL : w_OK ≠ w_FAIL := fun q => by rw [q, o_FAIL] at o_OK; simp at o_OK
  have ne_OK_CRASH : w_OK ≠ w_CRASH := fun q => by rw [q, o_CRASH] at o_OK; simp at o_OK
  have ne_YIELD_FAIL : w_YIELD ≠ w_FAIL := fun q => by rw [q, o_FAIL] at o_YIELD; simp at o_YIELD
  have ne_YIELD_CRASH : w_YIELD ≠ w_CRASH := fun q => by rw [q, o_CRASH] at o_YIELD; simp at o_YIELD
  have ne_FAIL_CRASH : w_FAIL ≠ w_CRASH := fun q => by rw [q, o_CRASH] at o_FAIL; simp at o_FAIL
  obtain ⟨n, o, h1, h2, h3, _, L, rfl, ⟨rfl, N⟩, hq⟩ := rm0 l s _ hw tables_1 i0 i1 w_OK w_YIELD w_FAIL w_CRASH s.heap s.heap.size (Nat.le_refl _) S_OK S_YIELD S_FAIL S_CRASH E_OK E_YIELD E_FAIL E_CRASH ne_OK_YIELD ne_OK_FAIL ne_OK_CRASH ne_YIELD_FAIL ne_YIELD_CRASH ne_FAIL_CRASH p e ha hc hk s m _ below hf ((Spec.applies_iff_loose hf).mp happ).1 ⟨rfl, State.Warmed39.refl s, rfl⟩ trivial
  refine ⟨n, _, h1, h2, h3, hpost _ _ _ _ _ _ ⟨Cond.after_iff.mpr rfl, Cond.after_iff.mpr (eq_i res_at (Term.int_eval (1)) rfl), trivial⟩ ⟨hq.1, hq.2.1, (hq.2.2.sift fun y hy => Or.inr (N y hy)).mono (by decide) (by decide)⟩⟩
theorem main_1_1 : Claimed_1_1 := comes_1 fun _ _ _ _ _ _ h hF => ⟨h.1, hF⟩
theorem main_1_2 : Claimed_1_2 := comes_1 fun _ _ _ _ _ _ h hF => ⟨h.2.1, hF⟩
end Jvm.Pilot.@@N@@
namespace Jvm.Pilot.@@N@@
open Jvm Jvm.ClassFile Sem Op Lib Jvm.Free Jvm.Stand Jvm.Pilot.@@N@@.Jvm.D
/-! MADE BY PROGRAM (witnessworld.py) out of the Statement's table words and the real class files: 13 classes; the members and pool entries that the words name. The judged class is class 1, her method 2. -/
namespace start1
open Jvm.ClassFile
def u (s : String) : CpInfo := .utf8 (stringToUtf16 s)
/-- a pool by its gaps: so many unusable entries, then the entry; so many at the end -/
def gap : Nat → List CpInfo → List CpInfo
  | 0, r => r
  | n + 1, r => .unusable :: gap n r
def poolList (es : List (Nat × CpInfo)) (last : Nat) : List CpInfo := es.foldr (fun e r => gap e.1 (e.2 :: r)) (gap last [])
def pool (es : List (Nat × CpInfo)) (last : Nat) : Array CpInfo := ⟨poolList es last⟩
def fileOf (pool : Array CpInfo) (this : Nat) (attrs : Array Attribute := #[]) (ms : Array MethodInfo := #[]) (fl : Nat := 33) (sup : Nat := 0) (ifs : Array Nat := #[]) (fds : Array FieldInfo := #[]) : ClassFile where
  minorVersion := 0
  majorVersion := 65
  constantPool := pool
  accessFlags := fl
  thisClass := this
  superClass := sup
  interfaces := ifs
  fields := fds
  methods := ms
  attributes := attrs
def plain (name : String) (sup : Option ClassId) : Class where
  name := name
  kind := .ordinary
  loader := none
  accessFlags := 33
  super := sup
  interfaces := #[]
  cf := none
  fields := #[]
  methods := #[]
  instanceTypes := #[]
  staticTypes := #[]
  resolved := #[]
  callSites := []
  init := .initialized
  statics := none
  mirror := none

def pool0 : Array CpInfo := pool [(5, u "<init>"), (0, u "()V"), (1, .class_ 10), (1, u "java/lang/Object")] 113

def k0m0 : Method := { name := "<init>", desc := "()V", sig := { parameters := [], returnType := none }, accessFlags := 1, code := none }
/-- java/lang/Object -/
def k0 : Class := { plain "java/lang/Object" none with
  accessFlags := 33
  interfaces := #[]
  cf := some (fileOf pool0 8 #[] #[{ accessFlags := 1, nameIndex := 5, descriptorIndex := 6, attributes := #[] }] 33 0 #[] #[])
  fields := #[]
  methods := #[k0m0]
  instanceTypes := #[]
  staticTypes := #[]
  resolved := Array.replicate 124 none
  statics := none }

def pool1 : Array CpInfo := pool [(2, .class_ 4), (1, u "java/lang/Object"), (0, u "<init>"), (0, u "()V"), (0, .fieldref 8 9), (0, .class_ 10), (0, .nameAndType 11 12), (0, u "com/example/palinode/palinode/Run$End"), (0, u "OK"), (0, u "Lcom/example/palinode/palinode/Run$End;"), (0, .fieldref 8 14), (0, .nameAndType 15 12), (0, u "YIELD"), (0, .fieldref 8 17), (0, .nameAndType 18 12), (0, u "FAIL"), (0, .fieldref 8 20), (0, .nameAndType 21 12), (0, u "CRASH"), (0, .methodref 23 24), (0, .class_ 25), (0, .nameAndType 26 27), (0, u "com/example/palinode/palinode/EndAndPinLaw"), (0, u "bySeverity"), (0, u "(I)Lcom/example/palinode/palinode/Run$End;"), (0, .methodref 29 30), (0, .class_ 31), (0, .nameAndType 32 33), (0, u "java/lang/Math"), (0, u "max"), (0, u "(II)I"), (0, .methodref 8 35), (0, .nameAndType 36 37), (0, u "and"), (0, u "(Lcom/example/palinode/palinode/Run$End;)Lcom/example/palinode/palinode/Run$End;"), (3, u "law"), (0, u "(II)Z")] 6

def k1m0 : Method := { name := "<init>", desc := "()V", sig := { parameters := [], returnType := none }, accessFlags := 1, code := none }
def k1c1 : Code := { maxStack := 2, maxLocals := 1, code := method_2_code, exceptionTable := #[], attributes := #[] }
def k1m1 : Method := { name := "bySeverity", desc := "(I)Lcom/example/palinode/palinode/Run$End;", sig := { parameters := [.int], returnType := some (.object "com/example/palinode/palinode/Run$End") }, accessFlags := 10, code := some k1c1 }
def k1c2 : Code := { maxStack := 2, maxLocals := 7, code := code, exceptionTable := #[], attributes := #[] }
def k1m2 : Method := { name := "law", desc := "(II)Z", sig := { parameters := [.int, .int], returnType := some .boolean }, accessFlags := 9, code := some k1c2 }
/-- com/example/palinode/palinode/EndAndPinLaw -/
def k1 : Class := { plain "com/example/palinode/palinode/EndAndPinLaw" (some 0) with
  accessFlags := 49
  interfaces := #[]
  cf := some (fileOf pool1 23 #[] #[{ accessFlags := 1, nameIndex := 5, descriptorIndex := 6, attributes := #[] }, { accessFlags := 10, nameIndex := 26, descriptorIndex := 27, attributes := #[] }, { accessFlags := 9, nameIndex := 41, descriptorIndex := 42, attributes := #[] }] 49 2 #[] #[])
  fields := #[]
  methods := #[k1m0, k1m1, k1m2]
  instanceTypes := #[]
  staticTypes := #[]
  resolved := Array.replicate 49 none
  statics := none }

def pool2 : Array CpInfo := pool [(1, .class_ 2), (0, u "java/lang/constant/Constable"), (0, .class_ 4), (0, u "java/lang/Object")] 6

/-- java/lang/constant/Constable -/
def k2 : Class := { plain "java/lang/constant/Constable" (some 0) with
  accessFlags := 1537
  interfaces := #[]
  cf := some (fileOf pool2 1 #[] #[] 1537 3 #[] #[])
  fields := #[]
  methods := #[]
  instanceTypes := #[]
  staticTypes := #[]
  resolved := Array.replicate 11 none
  statics := none }

def pool3 : Array CpInfo := pool [(1, .class_ 2), (0, u "java/lang/Comparable"), (0, .class_ 4), (0, u "java/lang/Object")] 7

/-- java/lang/Comparable -/
def k3 : Class := { plain "java/lang/Comparable" (some 0) with
  accessFlags := 1537
  interfaces := #[]
  cf := some (fileOf pool3 1 #[] #[] 1537 3 #[] #[])
  fields := #[]
  methods := #[]
  instanceTypes := #[]
  staticTypes := #[]
  resolved := Array.replicate 12 none
  statics := none }

def pool4 : Array CpInfo := pool [(1, .class_ 2), (0, u "java/io/Serializable"), (0, .class_ 4), (0, u "java/lang/Object")] 2

/-- java/io/Serializable -/
def k4 : Class := { plain "java/io/Serializable" (some 0) with
  accessFlags := 1537
  interfaces := #[]
  cf := some (fileOf pool4 1 #[] #[] 1537 3 #[] #[])
  fields := #[]
  methods := #[]
  instanceTypes := #[]
  staticTypes := #[]
  resolved := Array.replicate 7 none
  statics := none }

def pool5 : Array CpInfo := pool [(2, .class_ 4), (1, u "java/lang/Enum"), (0, u "name"), (0, u "Ljava/lang/String;"), (2, u "ordinal"), (0, u "I"), (1, .class_ 14), (1, u "java/lang/Object"), (4, u "hash"), (86, .class_ 108), (1, u "java/lang/Enum$EnumDesc"), (2, .class_ 112), (0, u "java/lang/constant/Constable"), (0, .class_ 114), (0, u "java/lang/Comparable"), (0, .class_ 116), (0, u "java/io/Serializable")] 87

/-- java/lang/Enum -/
def k5 : Class := { plain "java/lang/Enum" (some 0) with
  accessFlags := 1057
  interfaces := #[2, 3, 4]
  cf := some (fileOf pool5 2 #[.nestMembers #[106]] #[] 1057 12 #[111, 113, 115] #[{ accessFlags := 18, nameIndex := 5, descriptorIndex := 6, attributes := #[] }, { accessFlags := 18, nameIndex := 9, descriptorIndex := 10, attributes := #[] }, { accessFlags := 2, nameIndex := 19, descriptorIndex := 10, attributes := #[] }])
  fields := #[{ name := "name", type := (.object "java/lang/String"), accessFlags := 18, slot := 0, constantValue := 0 }, { name := "ordinal", type := .int, accessFlags := 18, slot := 1, constantValue := 0 }, { name := "hash", type := .int, accessFlags := 2, slot := 2, constantValue := 0 }]
  methods := #[]
  instanceTypes := #[(.object "java/lang/String"), .int, .int]
  staticTypes := #[]
  resolved := Array.replicate 204 none
  statics := none }

def pool6 : Array CpInfo := pool [(1, .class_ 2), (0, u "com/example/palinode/palinode/Run$End"), (0, .fieldref 1 4), (0, .nameAndType 5 6), (0, u "OK"), (0, u "Lcom/example/palinode/palinode/Run$End;"), (0, .fieldref 1 8), (0, .nameAndType 9 6), (0, u "FAIL"), (0, .fieldref 1 11), (0, .nameAndType 12 6), (0, u "YIELD"), (0, .fieldref 1 14), (0, .nameAndType 15 6), (0, u "CRASH"), (2, u "$VALUES"), (0, u "[Lcom/example/palinode/palinode/Run$End;"), (6, .class_ 28), (1, u "java/lang/Enum"), (8, u "printed"), (0, u "Ljava/lang/String;"), (27, u "and"), (0, u "(Lcom/example/palinode/palinode/Run$End;)Lcom/example/palinode/palinode/Run$End;"), (7, .class_ 76), (0, u "com/example/palinode/palinode/Run")] 2

def k6c0 : Code := { maxStack := 2, maxLocals := 2, code := prog_30_method_5_code, exceptionTable := #[], attributes := #[] }
def k6m0 : Method := { name := "and", desc := "(Lcom/example/palinode/palinode/Run$End;)Lcom/example/palinode/palinode/Run$End;", sig := { parameters := [(.object "com/example/palinode/palinode/Run$End")], returnType := some (.object "com/example/palinode/palinode/Run$End") }, accessFlags := 1, code := some k6c0 }
/-- com/example/palinode/palinode/Run$End -/
def k6 : Class := { plain "com/example/palinode/palinode/Run$End" (some 5) with
  accessFlags := 16433
  interfaces := #[]
  cf := some (fileOf pool6 1 #[.nestHost 75] #[{ accessFlags := 1, nameIndex := 66, descriptorIndex := 67, attributes := #[] }] 16433 26 #[] #[{ accessFlags := 16409, nameIndex := 5, descriptorIndex := 6, attributes := #[] }, { accessFlags := 16409, nameIndex := 9, descriptorIndex := 6, attributes := #[] }, { accessFlags := 16409, nameIndex := 12, descriptorIndex := 6, attributes := #[] }, { accessFlags := 16409, nameIndex := 15, descriptorIndex := 6, attributes := #[] }, { accessFlags := 18, nameIndex := 37, descriptorIndex := 38, attributes := #[] }, { accessFlags := 4122, nameIndex := 18, descriptorIndex := 19, attributes := #[] }])
  fields := #[{ name := "OK", type := (.object "com/example/palinode/palinode/Run$End"), accessFlags := 16409, slot := 0, constantValue := 0 }, { name := "FAIL", type := (.object "com/example/palinode/palinode/Run$End"), accessFlags := 16409, slot := 1, constantValue := 0 }, { name := "YIELD", type := (.object "com/example/palinode/palinode/Run$End"), accessFlags := 16409, slot := 2, constantValue := 0 }, { name := "CRASH", type := (.object "com/example/palinode/palinode/Run$End"), accessFlags := 16409, slot := 3, constantValue := 0 }, { name := "printed", type := (.object "java/lang/String"), accessFlags := 18, slot := 3, constantValue := 0 }, { name := "$VALUES", type := (.array (.object "com/example/palinode/palinode/Run$End")), accessFlags := 4122, slot := 4, constantValue := 0 }]
  methods := #[k6m0]
  instanceTypes := #[(.object "java/lang/String"), .int, .int, (.object "java/lang/String")]
  staticTypes := #[(.object "com/example/palinode/palinode/Run$End"), (.object "com/example/palinode/palinode/Run$End"), (.object "com/example/palinode/palinode/Run$End"), (.object "com/example/palinode/palinode/Run$End"), (.array (.object "com/example/palinode/palinode/Run$End"))]
  resolved := Array.replicate 79 none
  statics := some 0 }

def pool7 : Array CpInfo := pool [(1, .class_ 2), (0, u "java/lang/Math"), (1, .class_ 6), (1, u "java/lang/Object"), (0, u "<init>"), (0, u "()V"), (89, .class_ 100), (1, u "java/lang/Math$RandomNumberGeneratorHolder"), (71, u "negativeZeroFloatBits"), (0, u "J"), (2, u "negativeZeroDoubleBits"), (21, u "max"), (46, u "$assertionsDisabled"), (0, u "Z"), (88, u "(II)I"), (2, u "twoToTheDoubleScaleDown"), (0, u "D"), (4, u "twoToTheDoubleScaleUp"), (9, u "E"), (3, u "PI"), (2, u "TAU"), (2, u "DEGREES_TO_RADIANS"), (0, u "RADIANS_TO_DEGREES")] 94

def k7m0 : Method := { name := "<init>", desc := "()V", sig := { parameters := [], returnType := none }, accessFlags := 2, code := none }
def k7c1 : Code := { maxStack := 2, maxLocals := 2, code := jdk_29_method_65_code, exceptionTable := #[], attributes := #[] }
def k7m1 : Method := { name := "max", desc := "(II)I", sig := { parameters := [.int, .int], returnType := some .int }, accessFlags := 9, code := some k7c1 }
/-- java/lang/Math -/
def k7 : Class := { plain "java/lang/Math" (some 0) with
  accessFlags := 49
  interfaces := #[]
  cf := some (fileOf pool7 1 #[.nestMembers #[98]] #[{ accessFlags := 2, nameIndex := 7, descriptorIndex := 8, attributes := #[] }, { accessFlags := 9, nameIndex := 198, descriptorIndex := 335, attributes := #[] }] 49 4 #[] #[{ accessFlags := 25, nameIndex := 354, descriptorIndex := 339, attributes := #[] }, { accessFlags := 25, nameIndex := 358, descriptorIndex := 339, attributes := #[] }, { accessFlags := 25, nameIndex := 361, descriptorIndex := 339, attributes := #[] }, { accessFlags := 26, nameIndex := 364, descriptorIndex := 339, attributes := #[] }, { accessFlags := 26, nameIndex := 365, descriptorIndex := 339, attributes := #[] }, { accessFlags := 26, nameIndex := 172, descriptorIndex := 173, attributes := #[] }, { accessFlags := 26, nameIndex := 176, descriptorIndex := 173, attributes := #[] }, { accessFlags := 8, nameIndex := 344, descriptorIndex := 339, attributes := #[] }, { accessFlags := 8, nameIndex := 338, descriptorIndex := 339, attributes := #[] }, { accessFlags := 4120, nameIndex := 245, descriptorIndex := 246, attributes := #[] }])
  fields := #[{ name := "E", type := .double, accessFlags := 25, slot := 0, constantValue := 0 }, { name := "PI", type := .double, accessFlags := 25, slot := 1, constantValue := 0 }, { name := "TAU", type := .double, accessFlags := 25, slot := 2, constantValue := 0 }, { name := "DEGREES_TO_RADIANS", type := .double, accessFlags := 26, slot := 3, constantValue := 0 }, { name := "RADIANS_TO_DEGREES", type := .double, accessFlags := 26, slot := 4, constantValue := 0 }, { name := "negativeZeroFloatBits", type := .long, accessFlags := 26, slot := 5, constantValue := 0 }, { name := "negativeZeroDoubleBits", type := .long, accessFlags := 26, slot := 6, constantValue := 0 }, { name := "twoToTheDoubleScaleUp", type := .double, accessFlags := 8, slot := 7, constantValue := 0 }, { name := "twoToTheDoubleScaleDown", type := .double, accessFlags := 8, slot := 8, constantValue := 0 }, { name := "$assertionsDisabled", type := .boolean, accessFlags := 4120, slot := 9, constantValue := 0 }]
  methods := #[k7m0, k7m1]
  instanceTypes := #[]
  staticTypes := #[.double, .double, .double, .double, .double, .long, .long, .double, .double, .boolean]
  resolved := Array.replicate 460 none
  statics := none }

def pool8 : Array CpInfo := pool [(1, u "java/lang/Cloneable"), (0, .class_ 1), (0, u "java/lang/Object"), (0, .class_ 3)] 3

/-- java/lang/Cloneable -/
def k8 : Class := { plain "java/lang/Cloneable" (some 0) with
  accessFlags := 1537
  interfaces := #[]
  cf := some (fileOf pool8 2 #[] #[] 1537 4 #[] #[])
  fields := #[]
  methods := #[]
  instanceTypes := #[]
  staticTypes := #[]
  resolved := Array.replicate 8 none
  statics := none }

/-- the primitive byte -/
def k9 : Class := { plain "byte" none with kind := .primitive 'B', accessFlags := 0x411 }
/-- [B -/
def k10 : Class := { plain "[B" (some 0) with kind := .array 9 .byte, interfaces := #[8, 4], accessFlags := 1041 }

/-- the primitive int -/
def k11 : Class := { plain "int" none with kind := .primitive 'I', accessFlags := 0x411 }
/-- [I -/
def k12 : Class := { plain "[I" (some 0) with kind := .array 11 .int, interfaces := #[8, 4], accessFlags := 1041 }

def heap : Heap := #[{ cls := 6, slots := #[.ref 1, .ref 2, .ref 3, .ref 4, .null], vm := .statics 6 },
  { cls := 6, slots := #[.null, .int 0, .int 0, .null], vm := .none },
  { cls := 6, slots := #[.null, .int 1, .int 0, .null], vm := .none },
  { cls := 6, slots := #[.null, .int 2, .int 0, .null], vm := .none },
  { cls := 6, slots := #[.null, .int 3, .int 0, .null], vm := .none }]
def classes : Array Class := #[k0, k1, k2, k3, k4, k5, k6, k7, k8, k9, k10, k11, k12]
def interned : List (Array UInt16 × Addr) := []
def slotsUsed : Nat := 21
def theMethod : MethodId := ⟨1, 2⟩
def args0 : Array Value := #[.int 1, .int 2]
def aboutOver (below : List Frame) : State where
  vm := { classes := classes, interned := interned.toArray }
  heap := heap
  slotsUsed := slotsUsed
  threads := #[{ frames := .invoking theMethod args0 :: below }]
def below0 : List Frame := [.native { method := ⟨0, 0⟩, args := #[] }]
def about1 : State := aboutOver below0
def p0 : Program := .bare "" "" ""
def e0 : Env := launch0.env 0 0 0
theorem w_frames : about1.frames = Frame.invoking theMethod args0 :: below0 := rfl
set_option maxRecDepth 65536 in
theorem w_args : argsFit about1.vm theMethod args0 = true := by decide +kernel
set_option maxRecDepth 65536 in
theorem w_heap : heapFits about1 = true := by decide +kernel
set_option maxRecDepth 65536 in
theorem w_runnable : about1.curStatus? = some .runnable := by decide +kernel
set_option maxRecDepth 65536 in
theorem w_alone : about1.alone = true := by decide +kernel
set_option maxRecDepth 65536 in
theorem w_named : about1.methodNamed? x = some theMethod := by decide +kernel
set_option maxRecDepth 65536 in
theorem w_hears : about1.hears theMethod below0 = true := by decide +kernel
set_option maxRecDepth 65536 in
theorem w_ripe : about1.ripe theMethod args0 below0 = true := by decide +kernel
theorem w_running : about1.status = .running := rfl
set_option maxRecDepth 65536 in
theorem w_room : about1.hasRoom e0.platform room_1 = true :=
  launch0.hasRoom_least _ room_1 (by decide +kernel) (by decide +kernel) (by decide +kernel) (by decide +kernel) (by decide +kernel) (by decide +kernel)
theorem allAtoms_all (ts : List Jvm.Cond) (a : Array Jvm.Value) (st : Jvm.State) : (allAtoms ts).before a st = ts.all (fun c => c.before a st) := by
  induction ts with
  | nil => rfl
  | cons c t ih =>
    show (Jvm.Cond.and c (allAtoms t)).before a st = _
    rw [Jvm.Cond.before_and, ih, List.all_cons]
def words1 : List Jvm.Cond := Jvm.Cond.code x code maxLocals ret :: tables_1
/-- a 'code' word, met by the world's own term for the bytes: nothing is compared byte by byte -/
theorem code_word {y : MethodName} {bytes : ByteArray} {mx : Nat} {rt : Option FieldType} {a : Array Value} {s : State} {m : MethodId} {meth : Method} {c : Code} (h1 : s.methodNamed? y = some m) (h2 : s.vm.method? m = some meth) (h3 : meth.code = some c) (h4 : c.code = bytes)
    (h5 : (c.maxLocals == mx && c.exceptionTable.isEmpty && decide (c.maxStack ≤ mostOperands) && decide (meth.sig.returnType = rt) && !meth.locks && decide (parseMethodDescriptor y.desc = some meth.sig)) = true) : (Jvm.Cond.code y bytes mx rt).before a s = true := by
  simp only [Bool.and_eq_true, beq_iff_eq, Bool.not_eq_true', decide_eq_true_eq] at h5
  obtain ⟨⟨⟨⟨⟨g1, g2⟩, g3⟩, g4⟩, g5⟩, g6⟩ := h5
  simp [Cond.before, Cond.holds, Cond.value, h1, h2, h3, h4, g1, g2, g3, g4, g5, g6]
def isCode : Jvm.Cond → Bool
  | .code _ _ _ _ => true
  | _ => false
theorem all_split {L : List Jvm.Cond} {P : Jvm.Cond → Bool} (h1 : L.all (fun c => isCode c || P c) = true) (h2 : ∀ c ∈ L.filter isCode, P c = true) : L.all P = true := by
  refine List.all_eq_true.mpr fun c hc => ?_
  have h := List.all_eq_true.mp h1 c hc
  rcases Bool.eq_false_or_eq_true (isCode c) with hi | hi
  · exact h2 c (List.mem_filter.mpr ⟨hc, hi⟩)
  · simpa [hi] using h
set_option maxRecDepth 65536 in
theorem w_c0 : (Jvm.Cond.code x code maxLocals ret).before args0 about1 = true := code_word (m := ⟨1, 2⟩) (meth := k1m2) (c := k1c2) (by decide +kernel) rfl rfl rfl (by decide +kernel)
set_option maxRecDepth 65536 in
theorem w_c1 : (Jvm.Cond.code ({ cls := "com/example/palinode/palinode/EndAndPinLaw", name := "bySeverity", desc := "(I)Lcom/example/palinode/palinode/Run$End;" } : Jvm.MethodName) method_2_code (1 : Nat) (Option.some (Jvm.ClassFile.FieldType.object "com/example/palinode/palinode/Run$End"))).before args0 about1 = true := code_word (m := ⟨1, 1⟩) (meth := k1m1) (c := k1c1) (by decide +kernel) rfl rfl rfl (by decide +kernel)
set_option maxRecDepth 65536 in
theorem w_c2 : (Jvm.Cond.code ({ cls := "java/lang/Math", name := "max", desc := "(II)I" } : Jvm.MethodName) jdk_29_method_65_code (2 : Nat) (Option.some Jvm.ClassFile.FieldType.int)).before args0 about1 = true := code_word (m := ⟨7, 1⟩) (meth := k7m1) (c := k7c1) (by decide +kernel) rfl rfl rfl (by decide +kernel)
set_option maxRecDepth 65536 in
theorem w_c3 : (Jvm.Cond.code ({ cls := "com/example/palinode/palinode/Run$End", name := "and", desc := "(Lcom/example/palinode/palinode/Run$End;)Lcom/example/palinode/palinode/Run$End;" } : Jvm.MethodName) prog_30_method_5_code (2 : Nat) (Option.some (Jvm.ClassFile.FieldType.object "com/example/palinode/palinode/Run$End"))).before args0 about1 = true := code_word (m := ⟨6, 0⟩) (meth := k6m0) (c := k6c0) (by decide +kernel) rfl rfl rfl (by decide +kernel)
def codes1 : List Jvm.Cond := [Jvm.Cond.code x code maxLocals ret, Jvm.Cond.code ({ cls := "com/example/palinode/palinode/EndAndPinLaw", name := "bySeverity", desc := "(I)Lcom/example/palinode/palinode/Run$End;" } : Jvm.MethodName) method_2_code (1 : Nat) (Option.some (Jvm.ClassFile.FieldType.object "com/example/palinode/palinode/Run$End")), Jvm.Cond.code ({ cls := "java/lang/Math", name := "max", desc := "(II)I" } : Jvm.MethodName) jdk_29_method_65_code (2 : Nat) (Option.some Jvm.ClassFile.FieldType.int), Jvm.Cond.code ({ cls := "com/example/palinode/palinode/Run$End", name := "and", desc := "(Lcom/example/palinode/palinode/Run$End;)Lcom/example/palinode/palinode/Run$End;" } : Jvm.MethodName) prog_30_method_5_code (2 : Nat) (Option.some (Jvm.ClassFile.FieldType.object "com/example/palinode/palinode/Run$End"))]
set_option maxRecDepth 65536 in
theorem codes_eq : words1.filter isCode = codes1 := rfl
theorem w_codes : ∀ c ∈ words1.filter isCode, c.before args0 about1 = true := by
  rw [codes_eq]
  intro c hc
  simp only [codes1, List.mem_cons, List.not_mem_nil, or_false] at hc
  rcases hc with rfl | rfl | rfl | rfl
  · exact w_c0
  · exact w_c1
  · exact w_c2
  · exact w_c3
set_option maxRecDepth 65536 in
theorem w_t1 : (words1.take 24).all (fun c => isCode c || c.before args0 about1) = true := by decide +kernel
set_option maxRecDepth 65536 in
theorem w_t2 : (words1.drop 24).all (fun c => isCode c || c.before args0 about1) = true := by decide +kernel
theorem w_tables : (allAtoms (Jvm.Cond.code x code maxLocals ret :: tables_1)).before args0 about1 = true := by
  rw [allAtoms_all]
  show words1.all (fun c => c.before args0 about1) = true
  refine all_split ?_ w_codes
  rw [← List.take_append_drop 24 words1, List.all_append, w_t1, w_t2]
  rfl
set_option maxRecDepth 65536 in
theorem w_case : (Jvm.Cond.and given_1 narrow_1).before args0 about1 = true := by decide +kernel
theorem w_applies : (headSpec (Jvm.Cond.code x code maxLocals ret :: tables_1) room_1).applies x e0.platform about1 = true :=
  (Spec.applies_iff w_frames).mpr ⟨w_running, w_runnable, w_alone, w_named, w_hears, w_ripe, w_room, w_tables⟩
theorem atStart : AtStart classFile x code maxLocals ret World_1 tables_1 room_1 Calls_1 rest_1 Pre_1 launch0 p0 e0 about1 theMethod args0 below0 :=
  ⟨lists_1, trivial, launch0.admits_env _ _ _, launch0.least_env, fairChoices_fair.cas, fairChoices_fair.clock, w_frames, w_args, w_heap, w_applies, trivial, trivial, w_case⟩
end start1
theorem witness_1 : WitnessClaimed_1 := ⟨start1.p0, start1.e0, start1.about1, start1.theMethod, start1.args0, start1.below0, start1.atStart⟩
end Jvm.Pilot.@@N@@
