import JvmDerived
import JvmDerived.Pilot.@@N@@Statement
import JvmDerived.Pilot.@@N@@Code
set_option linter.unusedVariables false
set_option linter.unusedSimpArgs false
namespace Jvm.RoadKit
open Sem ClassFile Op Lib Jvm.Stand Jvm.Free Jvm.LawKit
section New
variable {p : Program} {l : Launch} {e : Env} {R : Room} {s : State} {m : MethodId} {args : Array Value} {below : List Frame} {meth : Method} {c : Code} {T : State} {locs : List Loc} {cells slots : Nat}
theorem retI (X : Stand p l e R s m args below meth c T locs cells slots) (hx : p.tables.exec = Jvm.exec) {pc : Nat} {Ls : Array Slot} {z : Int32} {rest : List Value} (hret : meth.sig.returnType = some .int) (hd : decode c.code pc = .ok (.ireturn, 1)) {fs : List Frame}
    (hl : ∀ (f : JFrame) (acts : List Action), f.method = m → f.locked = none → f.entered = [] → (doReturn e (T.setTop f) acts (some (.int z))).1 = T.setFrames fs) : Steps p.tables e below (T.setTop (mkF m pc Ls (.int z :: rest))) (T.setFrames fs) := by
  have hm' : T.vm.method? m = some meth := X.method'
  have hn : narrow .int (.int z) = .int z := rfl
  show Steps p.tables e below (T.setTop { method := m, pc := pc, locals := Ls, stack := _ :: rest, locked := none }) _
  jvm_step X.here [X.here.top, hx, hd, hm', hret, hn]
  first | (intro acts; rw [hl _ acts rfl rfl rfl]) | rw [hl _ _ rfl rfl rfl]
  exact Steps.refl _
end New
end Jvm.RoadKit
namespace Jvm.Pilot.@@N@@
open Jvm Jvm.ClassFile Sem Op Lib Jvm.Free Jvm.Stand Jvm.LawKit Jvm.RoadKit Bundle Jvm.Pilot.@@N@@.Jvm.D
theorem own_go {tb : Tables} {e : Env} {below : List Frame} {A B : State} {R : State → Outcome → Prop} (h : ∀ t, Steps tb e below B t → Steps tb e below A t) (k : ∃ s₂ o, Steps tb e below B s₂ ∧ R s₂ o) : ∃ s₂ o, Steps tb e below A s₂ ∧ R s₂ o := by
  obtain ⟨s₂, o, h1, h2⟩ := k
  exact ⟨s₂, o, h _ h1, h2⟩
theorem own_pd0 : parseMethodDescriptor "(C)Z" = some ⟨[.char], some .boolean⟩ := by decide +kernel
theorem own_pd1 : parseMethodDescriptor "(I)Z" = some ⟨[.int], some .boolean⟩ := by decide +kernel
def own_starts (u1 : Int32) : Int32 := (if u1 < (65 : Int32) then (if u1 < (97 : Int32) then (if u1 < (48 : Int32) then (if u1 = (95 : Int32) then (1 : Int32) else (0 : Int32)) else (if (57 : Int32) < u1 then (if u1 = (95 : Int32) then (1 : Int32) else (0 : Int32)) else (1 : Int32))) else (if (122 : Int32) < u1 then (if u1 < (48 : Int32) then (if u1 = (95 : Int32) then (1 : Int32) else (0 : Int32)) else (if (57 : Int32) < u1 then (if u1 = (95 : Int32) then (1 : Int32) else (0 : Int32)) else (1 : Int32))) else (1 : Int32))) else (if (90 : Int32) < u1 then (if u1 < (97 : Int32) then (if u1 < (48 : Int32) then (if u1 = (95 : Int32) then (1 : Int32) else (0 : Int32)) else (if (57 : Int32) < u1 then (if u1 = (95 : Int32) then (1 : Int32) else (0 : Int32)) else (1 : Int32))) else (if (122 : Int32) < u1 then (if u1 < (48 : Int32) then (if u1 = (95 : Int32) then (1 : Int32) else (0 : Int32)) else (if (57 : Int32) < u1 then (if u1 = (95 : Int32) then (1 : Int32) else (0 : Int32)) else (1 : Int32))) else (1 : Int32))) else (1 : Int32)))
theorem pn_1 : plainName "com/example/palinode/palinode/SagaLexer" = true := by first | (simp [plainName, overriddenIn]; done) | decide +kernel
theorem d1_0 : decode prog_55_method_12_code 0 = .ok (.iload_n 0, 1) := by decide +kernel
theorem d1_1 : decode prog_55_method_12_code 1 = .ok (.bipush 65, 2) := by decide +kernel
theorem d1_3 : decode prog_55_method_12_code 3 = .ok (.if_icmp .lt 9, 3) := by decide +kernel
theorem d1_6 : decode prog_55_method_12_code 6 = .ok (.iload_n 0, 1) := by decide +kernel
theorem d1_7 : decode prog_55_method_12_code 7 = .ok (.bipush 90, 2) := by decide +kernel
theorem d1_9 : decode prog_55_method_12_code 9 = .ok (.if_icmp .le 33, 3) := by decide +kernel
theorem d1_12 : decode prog_55_method_12_code 12 = .ok (.iload_n 0, 1) := by decide +kernel
theorem d1_13 : decode prog_55_method_12_code 13 = .ok (.bipush 97, 2) := by decide +kernel
theorem d1_15 : decode prog_55_method_12_code 15 = .ok (.if_icmp .lt 9, 3) := by decide +kernel
theorem d1_18 : decode prog_55_method_12_code 18 = .ok (.iload_n 0, 1) := by decide +kernel
theorem d1_19 : decode prog_55_method_12_code 19 = .ok (.bipush 122, 2) := by decide +kernel
theorem d1_21 : decode prog_55_method_12_code 21 = .ok (.if_icmp .le 21, 3) := by decide +kernel
theorem d1_24 : decode prog_55_method_12_code 24 = .ok (.iload_n 0, 1) := by decide +kernel
theorem d1_25 : decode prog_55_method_12_code 25 = .ok (.bipush 48, 2) := by decide +kernel
theorem d1_27 : decode prog_55_method_12_code 27 = .ok (.if_icmp .lt 9, 3) := by decide +kernel
theorem d1_30 : decode prog_55_method_12_code 30 = .ok (.iload_n 0, 1) := by decide +kernel
theorem d1_31 : decode prog_55_method_12_code 31 = .ok (.bipush 57, 2) := by decide +kernel
theorem d1_33 : decode prog_55_method_12_code 33 = .ok (.if_icmp .le 9, 3) := by decide +kernel
theorem d1_36 : decode prog_55_method_12_code 36 = .ok (.iload_n 0, 1) := by decide +kernel
theorem d1_37 : decode prog_55_method_12_code 37 = .ok (.bipush 95, 2) := by decide +kernel
theorem d1_39 : decode prog_55_method_12_code 39 = .ok (.if_icmp .ne 7, 3) := by decide +kernel
theorem d1_42 : decode prog_55_method_12_code 42 = .ok (.iconst 1, 1) := by decide +kernel
theorem d1_43 : decode prog_55_method_12_code 43 = .ok (.goto 4, 3) := by decide +kernel
theorem d1_46 : decode prog_55_method_12_code 46 = .ok (.iconst 0, 1) := by decide +kernel
theorem d1_47 : decode prog_55_method_12_code 47 = .ok (.ireturn, 1) := by decide +kernel
theorem ef_1 (m : MethodId) (x0 : Int32) : entryFrame m #[(.int x0)] 1 = mkF m 0 #[.val (.int x0)] [] := by first | (simp [entryFrame, mkF, argsToLocals, Value.category]; done) | rfl
def Q1 (Z : State) (u1 : Int32) (h0 : Heap) (n0 : Nat) (v : Option Value) (h : Heap) (L : List Loc) : Prop := v = some (.int (own_starts u1)) ∧ Fr n0 L ∧ h = h0
set_option maxRecDepth 65536 in
set_option maxHeartbeats 40000000 in
theorem rm1 (l : Launch) (Z : State) (a0 : Array Value) (hw : ∀ d ∈ tables_1, d.before a0 Z = true) (ws : List Jvm.Cond) (u1 : Int32) (h0 : Heap) (n0 : Nat) (Z0 : n0 ≤ h0.size) :
    MetFree l (⟨"com/example/palinode/palinode/SagaLexer", "startsName", "(C)Z"⟩ : MethodName) (head1 (Jvm.Cond.code (⟨"com/example/palinode/palinode/SagaLexer", "startsName", "(C)Z"⟩ : MethodName) prog_55_method_12_code 1 (some .boolean) :: ws) ({ frames := 0, cells := 0, slots := 0, locals := 0 } : Room)) (fun a U => a = #[(.int u1)] ∧ Z.Warmed39 U.vm ∧ U.heap = h0) (fun _ _ _ _ _ => True) (fun _ U o U' => ∃ v L, o = .returned v ∧ Q1 Z u1 h0 n0 v U'.heap L ∧ FrameEnd U o U' L ({ frames := 0, cells := 0, slots := 0, locals := 0 } : Room).cells ({ frames := 0, cells := 0, slots := 0, locals := 0 } : Room).slots) := by
  refine MetFree.of_bodySF (plainFor_of_name pn_1) hisR ?_
  intro p e s m args below meth c s₁ Bd hml0 hP hK
  obtain ⟨rfl, hZ, hh⟩ := hP
  have hx := Bd.exec
  have hby := Bd.bytes
  have hml : c.maxLocals = 1 := hml0
  have hown : s.vm.findClass "com/example/palinode/palinode/SagaLexer" = some m.cls := findClass_of_methodNamed Bd.named
  have hnm := (name_of_methodNamed Bd.named Bd.method).1
  have X0 : Stand p l e ({ frames := 0, cells := 0, slots := 0, locals := 0 } : Room) s m #[(.int u1)] below meth c s₁ [] 0 0 := Stand.of_body Bd
  have e0 : s₁.heap = h0 := by rw [← hh, Bd.state]; rfl
  have N0 := Fr.nil n0
  refine own_go (B := s₁.setTop (mkF m 0 #[.val (.int u1)] [])) (fun t k => castTop (ef_1 m u1) k) ?_
  refine own_go (B := s₁.setTop (mkF m 3 #[.val (.int u1)] [(.int (65 : Int32)), (.int u1)])) (fun t k => ?_) ?_
  · show Steps p.tables e below (s₁.setTop (mkF m 0 #[.val (.int u1)] [])) _
    refine XS.iloadN X0.here hx rfl (hb hby d1_0) rfl ?_
    show Steps p.tables e below (s₁.setTop (mkF m 1 #[.val (.int u1)] [(.int u1)])) _
    refine XS.bipush X0.here hx rfl (hb hby d1_1) ?_
    exact k
  by_cases hc3_1 : u1 < (65 : Int32)
  · refine own_go (B := s₁.setTop (mkF m 15 #[.val (.int u1)] [(.int (97 : Int32)), (.int u1)])) (fun t k => ?_) ?_
    · show Steps p.tables e below (s₁.setTop (mkF m 3 #[.val (.int u1)] [(.int (65 : Int32)), (.int u1)])) _
      refine XS.icmpYes X0.here hx rfl (pc0 := 3) (pc' := 12) rfl (hb hby d1_3) rfl (tlt hc3_1).1 (by decide) (by decide) ?_
      show Steps p.tables e below (s₁.setTop (mkF m 12 #[.val (.int u1)] [])) _
      refine XS.iloadN X0.here hx rfl (hb hby d1_12) rfl ?_
      show Steps p.tables e below (s₁.setTop (mkF m 13 #[.val (.int u1)] [(.int u1)])) _
      refine XS.bipush X0.here hx rfl (hb hby d1_13) ?_
      exact k
    by_cases hc15_2 : u1 < (97 : Int32)
    · refine own_go (B := s₁.setTop (mkF m 27 #[.val (.int u1)] [(.int (48 : Int32)), (.int u1)])) (fun t k => ?_) ?_
      · show Steps p.tables e below (s₁.setTop (mkF m 15 #[.val (.int u1)] [(.int (97 : Int32)), (.int u1)])) _
        refine XS.icmpYes X0.here hx rfl (pc0 := 15) (pc' := 24) rfl (hb hby d1_15) rfl (tlt hc15_2).1 (by decide) (by decide) ?_
        show Steps p.tables e below (s₁.setTop (mkF m 24 #[.val (.int u1)] [])) _
        refine XS.iloadN X0.here hx rfl (hb hby d1_24) rfl ?_
        show Steps p.tables e below (s₁.setTop (mkF m 25 #[.val (.int u1)] [(.int u1)])) _
        refine XS.bipush X0.here hx rfl (hb hby d1_25) ?_
        exact k
      by_cases hc27_3 : u1 < (48 : Int32)
      · refine own_go (B := s₁.setTop (mkF m 39 #[.val (.int u1)] [(.int (95 : Int32)), (.int u1)])) (fun t k => ?_) ?_
        · show Steps p.tables e below (s₁.setTop (mkF m 27 #[.val (.int u1)] [(.int (48 : Int32)), (.int u1)])) _
          refine XS.icmpYes X0.here hx rfl (pc0 := 27) (pc' := 36) rfl (hb hby d1_27) rfl (tlt hc27_3).1 (by decide) (by decide) ?_
          show Steps p.tables e below (s₁.setTop (mkF m 36 #[.val (.int u1)] [])) _
          refine XS.iloadN X0.here hx rfl (hb hby d1_36) rfl ?_
          show Steps p.tables e below (s₁.setTop (mkF m 37 #[.val (.int u1)] [(.int u1)])) _
          refine XS.bipush X0.here hx rfl (hb hby d1_37) ?_
          exact k
        by_cases hc39_4 : u1 = (95 : Int32)
        · obtain ⟨fs, hr, hrun, hended, hW, hsame⟩ := X0.leave (v := some (.int (1 : Int32))) (fun h => by rw [Bd.returns] at h; cases h)
          refine ⟨_, _, ?_, hrun, hended, _, _, rfl, ?_, ⟨_, rfl⟩, hW, hsame.mono (by decide) (by decide)⟩
          · show Steps p.tables e below (s₁.setTop (mkF m 39 #[.val (.int u1)] [(.int (95 : Int32)), (.int u1)])) _
            refine XS.icmpNo X0.here hx rfl (hb hby d1_39) rfl (teq hc39_4).2 ?_
            show Steps p.tables e below (s₁.setTop (mkF m 42 #[.val (.int u1)] [])) _
            refine XS.iconst X0.here hx rfl (hb hby d1_42) ?_
            show Steps p.tables e below (s₁.setTop (mkF m 43 #[.val (.int u1)] [(.int (1 : Int32))])) _
            refine XS.goto X0.here hx rfl (pc0 := 43) (pc' := 47) rfl (hb hby d1_43) (by decide) (by decide) ?_
            show Steps p.tables e below (s₁.setTop (mkF m 47 #[.val (.int u1)] [(.int (1 : Int32))])) _
            exact retN X0 hx (t := .boolean) Bd.returns (by simp) (hb hby d1_47) hr
          · show Q1 Z u1 h0 n0 _ s₁.heap _
            rw [e0]
            exact ⟨by rw [own_starts, if_pos hc3_1, if_pos hc15_2, if_pos hc27_3, if_pos hc39_4], N0, rfl⟩
        · obtain ⟨fs, hr, hrun, hended, hW, hsame⟩ := X0.leave (v := some (.int (0 : Int32))) (fun h => by rw [Bd.returns] at h; cases h)
          refine ⟨_, _, ?_, hrun, hended, _, _, rfl, ?_, ⟨_, rfl⟩, hW, hsame.mono (by decide) (by decide)⟩
          · show Steps p.tables e below (s₁.setTop (mkF m 39 #[.val (.int u1)] [(.int (95 : Int32)), (.int u1)])) _
            refine XS.icmpYes X0.here hx rfl (pc0 := 39) (pc' := 46) rfl (hb hby d1_39) rfl (feq hc39_4).2 (by decide) (by decide) ?_
            show Steps p.tables e below (s₁.setTop (mkF m 46 #[.val (.int u1)] [])) _
            refine XS.iconst X0.here hx rfl (hb hby d1_46) ?_
            show Steps p.tables e below (s₁.setTop (mkF m 47 #[.val (.int u1)] [(.int (0 : Int32))])) _
            exact retN X0 hx (t := .boolean) Bd.returns (by simp) (hb hby d1_47) hr
          · show Q1 Z u1 h0 n0 _ s₁.heap _
            rw [e0]
            exact ⟨by rw [own_starts, if_pos hc3_1, if_pos hc15_2, if_pos hc27_3, if_neg hc39_4], N0, rfl⟩
      · refine own_go (B := s₁.setTop (mkF m 33 #[.val (.int u1)] [(.int (57 : Int32)), (.int u1)])) (fun t k => ?_) ?_
        · show Steps p.tables e below (s₁.setTop (mkF m 27 #[.val (.int u1)] [(.int (48 : Int32)), (.int u1)])) _
          refine XS.icmpNo X0.here hx rfl (hb hby d1_27) rfl (flt hc27_3).1 ?_
          show Steps p.tables e below (s₁.setTop (mkF m 30 #[.val (.int u1)] [])) _
          refine XS.iloadN X0.here hx rfl (hb hby d1_30) rfl ?_
          show Steps p.tables e below (s₁.setTop (mkF m 31 #[.val (.int u1)] [(.int u1)])) _
          refine XS.bipush X0.here hx rfl (hb hby d1_31) ?_
          exact k
        by_cases hc33_5 : (57 : Int32) < u1
        · refine own_go (B := s₁.setTop (mkF m 39 #[.val (.int u1)] [(.int (95 : Int32)), (.int u1)])) (fun t k => ?_) ?_
          · show Steps p.tables e below (s₁.setTop (mkF m 33 #[.val (.int u1)] [(.int (57 : Int32)), (.int u1)])) _
            refine XS.icmpNo X0.here hx rfl (hb hby d1_33) rfl (tlt hc33_5).2.2.2 ?_
            show Steps p.tables e below (s₁.setTop (mkF m 36 #[.val (.int u1)] [])) _
            refine XS.iloadN X0.here hx rfl (hb hby d1_36) rfl ?_
            show Steps p.tables e below (s₁.setTop (mkF m 37 #[.val (.int u1)] [(.int u1)])) _
            refine XS.bipush X0.here hx rfl (hb hby d1_37) ?_
            exact k
          by_cases hc39_6 : u1 = (95 : Int32)
          · obtain ⟨fs, hr, hrun, hended, hW, hsame⟩ := X0.leave (v := some (.int (1 : Int32))) (fun h => by rw [Bd.returns] at h; cases h)
            refine ⟨_, _, ?_, hrun, hended, _, _, rfl, ?_, ⟨_, rfl⟩, hW, hsame.mono (by decide) (by decide)⟩
            · show Steps p.tables e below (s₁.setTop (mkF m 39 #[.val (.int u1)] [(.int (95 : Int32)), (.int u1)])) _
              refine XS.icmpNo X0.here hx rfl (hb hby d1_39) rfl (teq hc39_6).2 ?_
              show Steps p.tables e below (s₁.setTop (mkF m 42 #[.val (.int u1)] [])) _
              refine XS.iconst X0.here hx rfl (hb hby d1_42) ?_
              show Steps p.tables e below (s₁.setTop (mkF m 43 #[.val (.int u1)] [(.int (1 : Int32))])) _
              refine XS.goto X0.here hx rfl (pc0 := 43) (pc' := 47) rfl (hb hby d1_43) (by decide) (by decide) ?_
              show Steps p.tables e below (s₁.setTop (mkF m 47 #[.val (.int u1)] [(.int (1 : Int32))])) _
              exact retN X0 hx (t := .boolean) Bd.returns (by simp) (hb hby d1_47) hr
            · show Q1 Z u1 h0 n0 _ s₁.heap _
              rw [e0]
              exact ⟨by rw [own_starts, if_pos hc3_1, if_pos hc15_2, if_neg hc27_3, if_pos hc33_5, if_pos hc39_6], N0, rfl⟩
          · obtain ⟨fs, hr, hrun, hended, hW, hsame⟩ := X0.leave (v := some (.int (0 : Int32))) (fun h => by rw [Bd.returns] at h; cases h)
            refine ⟨_, _, ?_, hrun, hended, _, _, rfl, ?_, ⟨_, rfl⟩, hW, hsame.mono (by decide) (by decide)⟩
            · show Steps p.tables e below (s₁.setTop (mkF m 39 #[.val (.int u1)] [(.int (95 : Int32)), (.int u1)])) _
              refine XS.icmpYes X0.here hx rfl (pc0 := 39) (pc' := 46) rfl (hb hby d1_39) rfl (feq hc39_6).2 (by decide) (by decide) ?_
              show Steps p.tables e below (s₁.setTop (mkF m 46 #[.val (.int u1)] [])) _
              refine XS.iconst X0.here hx rfl (hb hby d1_46) ?_
              show Steps p.tables e below (s₁.setTop (mkF m 47 #[.val (.int u1)] [(.int (0 : Int32))])) _
              exact retN X0 hx (t := .boolean) Bd.returns (by simp) (hb hby d1_47) hr
            · show Q1 Z u1 h0 n0 _ s₁.heap _
              rw [e0]
              exact ⟨by rw [own_starts, if_pos hc3_1, if_pos hc15_2, if_neg hc27_3, if_pos hc33_5, if_neg hc39_6], N0, rfl⟩
        · obtain ⟨fs, hr, hrun, hended, hW, hsame⟩ := X0.leave (v := some (.int (1 : Int32))) (fun h => by rw [Bd.returns] at h; cases h)
          refine ⟨_, _, ?_, hrun, hended, _, _, rfl, ?_, ⟨_, rfl⟩, hW, hsame.mono (by decide) (by decide)⟩
          · show Steps p.tables e below (s₁.setTop (mkF m 33 #[.val (.int u1)] [(.int (57 : Int32)), (.int u1)])) _
            refine XS.icmpYes X0.here hx rfl (pc0 := 33) (pc' := 42) rfl (hb hby d1_33) rfl (flt hc33_5).2.2.2 (by decide) (by decide) ?_
            show Steps p.tables e below (s₁.setTop (mkF m 42 #[.val (.int u1)] [])) _
            refine XS.iconst X0.here hx rfl (hb hby d1_42) ?_
            show Steps p.tables e below (s₁.setTop (mkF m 43 #[.val (.int u1)] [(.int (1 : Int32))])) _
            refine XS.goto X0.here hx rfl (pc0 := 43) (pc' := 47) rfl (hb hby d1_43) (by decide) (by decide) ?_
            show Steps p.tables e below (s₁.setTop (mkF m 47 #[.val (.int u1)] [(.int (1 : Int32))])) _
            exact retN X0 hx (t := .boolean) Bd.returns (by simp) (hb hby d1_47) hr
          · show Q1 Z u1 h0 n0 _ s₁.heap _
            rw [e0]
            exact ⟨by rw [own_starts, if_pos hc3_1, if_pos hc15_2, if_neg hc27_3, if_neg hc33_5], N0, rfl⟩
    · refine own_go (B := s₁.setTop (mkF m 21 #[.val (.int u1)] [(.int (122 : Int32)), (.int u1)])) (fun t k => ?_) ?_
      · show Steps p.tables e below (s₁.setTop (mkF m 15 #[.val (.int u1)] [(.int (97 : Int32)), (.int u1)])) _
        refine XS.icmpNo X0.here hx rfl (hb hby d1_15) rfl (flt hc15_2).1 ?_
        show Steps p.tables e below (s₁.setTop (mkF m 18 #[.val (.int u1)] [])) _
        refine XS.iloadN X0.here hx rfl (hb hby d1_18) rfl ?_
        show Steps p.tables e below (s₁.setTop (mkF m 19 #[.val (.int u1)] [(.int u1)])) _
        refine XS.bipush X0.here hx rfl (hb hby d1_19) ?_
        exact k
      by_cases hc21_7 : (122 : Int32) < u1
      · refine own_go (B := s₁.setTop (mkF m 27 #[.val (.int u1)] [(.int (48 : Int32)), (.int u1)])) (fun t k => ?_) ?_
        · show Steps p.tables e below (s₁.setTop (mkF m 21 #[.val (.int u1)] [(.int (122 : Int32)), (.int u1)])) _
          refine XS.icmpNo X0.here hx rfl (hb hby d1_21) rfl (tlt hc21_7).2.2.2 ?_
          show Steps p.tables e below (s₁.setTop (mkF m 24 #[.val (.int u1)] [])) _
          refine XS.iloadN X0.here hx rfl (hb hby d1_24) rfl ?_
          show Steps p.tables e below (s₁.setTop (mkF m 25 #[.val (.int u1)] [(.int u1)])) _
          refine XS.bipush X0.here hx rfl (hb hby d1_25) ?_
          exact k
        by_cases hc27_8 : u1 < (48 : Int32)
        · refine own_go (B := s₁.setTop (mkF m 39 #[.val (.int u1)] [(.int (95 : Int32)), (.int u1)])) (fun t k => ?_) ?_
          · show Steps p.tables e below (s₁.setTop (mkF m 27 #[.val (.int u1)] [(.int (48 : Int32)), (.int u1)])) _
            refine XS.icmpYes X0.here hx rfl (pc0 := 27) (pc' := 36) rfl (hb hby d1_27) rfl (tlt hc27_8).1 (by decide) (by decide) ?_
            show Steps p.tables e below (s₁.setTop (mkF m 36 #[.val (.int u1)] [])) _
            refine XS.iloadN X0.here hx rfl (hb hby d1_36) rfl ?_
            show Steps p.tables e below (s₁.setTop (mkF m 37 #[.val (.int u1)] [(.int u1)])) _
            refine XS.bipush X0.here hx rfl (hb hby d1_37) ?_
            exact k
          by_cases hc39_9 : u1 = (95 : Int32)
          · obtain ⟨fs, hr, hrun, hended, hW, hsame⟩ := X0.leave (v := some (.int (1 : Int32))) (fun h => by rw [Bd.returns] at h; cases h)
            refine ⟨_, _, ?_, hrun, hended, _, _, rfl, ?_, ⟨_, rfl⟩, hW, hsame.mono (by decide) (by decide)⟩
            · show Steps p.tables e below (s₁.setTop (mkF m 39 #[.val (.int u1)] [(.int (95 : Int32)), (.int u1)])) _
              refine XS.icmpNo X0.here hx rfl (hb hby d1_39) rfl (teq hc39_9).2 ?_
              show Steps p.tables e below (s₁.setTop (mkF m 42 #[.val (.int u1)] [])) _
              refine XS.iconst X0.here hx rfl (hb hby d1_42) ?_
              show Steps p.tables e below (s₁.setTop (mkF m 43 #[.val (.int u1)] [(.int (1 : Int32))])) _
              refine XS.goto X0.here hx rfl (pc0 := 43) (pc' := 47) rfl (hb hby d1_43) (by decide) (by decide) ?_
              show Steps p.tables e below (s₁.setTop (mkF m 47 #[.val (.int u1)] [(.int (1 : Int32))])) _
              exact retN X0 hx (t := .boolean) Bd.returns (by simp) (hb hby d1_47) hr
            · show Q1 Z u1 h0 n0 _ s₁.heap _
              rw [e0]
              exact ⟨by rw [own_starts, if_pos hc3_1, if_neg hc15_2, if_pos hc21_7, if_pos hc27_8, if_pos hc39_9], N0, rfl⟩
          · obtain ⟨fs, hr, hrun, hended, hW, hsame⟩ := X0.leave (v := some (.int (0 : Int32))) (fun h => by rw [Bd.returns] at h; cases h)
            refine ⟨_, _, ?_, hrun, hended, _, _, rfl, ?_, ⟨_, rfl⟩, hW, hsame.mono (by decide) (by decide)⟩
            · show Steps p.tables e below (s₁.setTop (mkF m 39 #[.val (.int u1)] [(.int (95 : Int32)), (.int u1)])) _
              refine XS.icmpYes X0.here hx rfl (pc0 := 39) (pc' := 46) rfl (hb hby d1_39) rfl (feq hc39_9).2 (by decide) (by decide) ?_
              show Steps p.tables e below (s₁.setTop (mkF m 46 #[.val (.int u1)] [])) _
              refine XS.iconst X0.here hx rfl (hb hby d1_46) ?_
              show Steps p.tables e below (s₁.setTop (mkF m 47 #[.val (.int u1)] [(.int (0 : Int32))])) _
              exact retN X0 hx (t := .boolean) Bd.returns (by simp) (hb hby d1_47) hr
            · show Q1 Z u1 h0 n0 _ s₁.heap _
              rw [e0]
              exact ⟨by rw [own_starts, if_pos hc3_1, if_neg hc15_2, if_pos hc21_7, if_pos hc27_8, if_neg hc39_9], N0, rfl⟩
        · refine own_go (B := s₁.setTop (mkF m 33 #[.val (.int u1)] [(.int (57 : Int32)), (.int u1)])) (fun t k => ?_) ?_
          · show Steps p.tables e below (s₁.setTop (mkF m 27 #[.val (.int u1)] [(.int (48 : Int32)), (.int u1)])) _
            refine XS.icmpNo X0.here hx rfl (hb hby d1_27) rfl (flt hc27_8).1 ?_
            show Steps p.tables e below (s₁.setTop (mkF m 30 #[.val (.int u1)] [])) _
            refine XS.iloadN X0.here hx rfl (hb hby d1_30) rfl ?_
            show Steps p.tables e below (s₁.setTop (mkF m 31 #[.val (.int u1)] [(.int u1)])) _
            refine XS.bipush X0.here hx rfl (hb hby d1_31) ?_
            exact k
          by_cases hc33_10 : (57 : Int32) < u1
          · refine own_go (B := s₁.setTop (mkF m 39 #[.val (.int u1)] [(.int (95 : Int32)), (.int u1)])) (fun t k => ?_) ?_
            · show Steps p.tables e below (s₁.setTop (mkF m 33 #[.val (.int u1)] [(.int (57 : Int32)), (.int u1)])) _
              refine XS.icmpNo X0.here hx rfl (hb hby d1_33) rfl (tlt hc33_10).2.2.2 ?_
              show Steps p.tables e below (s₁.setTop (mkF m 36 #[.val (.int u1)] [])) _
              refine XS.iloadN X0.here hx rfl (hb hby d1_36) rfl ?_
              show Steps p.tables e below (s₁.setTop (mkF m 37 #[.val (.int u1)] [(.int u1)])) _
              refine XS.bipush X0.here hx rfl (hb hby d1_37) ?_
              exact k
            by_cases hc39_11 : u1 = (95 : Int32)
            · obtain ⟨fs, hr, hrun, hended, hW, hsame⟩ := X0.leave (v := some (.int (1 : Int32))) (fun h => by rw [Bd.returns] at h; cases h)
              refine ⟨_, _, ?_, hrun, hended, _, _, rfl, ?_, ⟨_, rfl⟩, hW, hsame.mono (by decide) (by decide)⟩
              · show Steps p.tables e below (s₁.setTop (mkF m 39 #[.val (.int u1)] [(.int (95 : Int32)), (.int u1)])) _
                refine XS.icmpNo X0.here hx rfl (hb hby d1_39) rfl (teq hc39_11).2 ?_
                show Steps p.tables e below (s₁.setTop (mkF m 42 #[.val (.int u1)] [])) _
                refine XS.iconst X0.here hx rfl (hb hby d1_42) ?_
                show Steps p.tables e below (s₁.setTop (mkF m 43 #[.val (.int u1)] [(.int (1 : Int32))])) _
                refine XS.goto X0.here hx rfl (pc0 := 43) (pc' := 47) rfl (hb hby d1_43) (by decide) (by decide) ?_
                show Steps p.tables e below (s₁.setTop (mkF m 47 #[.val (.int u1)] [(.int (1 : Int32))])) _
                exact retN X0 hx (t := .boolean) Bd.returns (by simp) (hb hby d1_47) hr
              · show Q1 Z u1 h0 n0 _ s₁.heap _
                rw [e0]
                exact ⟨by rw [own_starts, if_pos hc3_1, if_neg hc15_2, if_pos hc21_7, if_neg hc27_8, if_pos hc33_10, if_pos hc39_11], N0, rfl⟩
            · obtain ⟨fs, hr, hrun, hended, hW, hsame⟩ := X0.leave (v := some (.int (0 : Int32))) (fun h => by rw [Bd.returns] at h; cases h)
              refine ⟨_, _, ?_, hrun, hended, _, _, rfl, ?_, ⟨_, rfl⟩, hW, hsame.mono (by decide) (by decide)⟩
              · show Steps p.tables e below (s₁.setTop (mkF m 39 #[.val (.int u1)] [(.int (95 : Int32)), (.int u1)])) _
                refine XS.icmpYes X0.here hx rfl (pc0 := 39) (pc' := 46) rfl (hb hby d1_39) rfl (feq hc39_11).2 (by decide) (by decide) ?_
                show Steps p.tables e below (s₁.setTop (mkF m 46 #[.val (.int u1)] [])) _
                refine XS.iconst X0.here hx rfl (hb hby d1_46) ?_
                show Steps p.tables e below (s₁.setTop (mkF m 47 #[.val (.int u1)] [(.int (0 : Int32))])) _
                exact retN X0 hx (t := .boolean) Bd.returns (by simp) (hb hby d1_47) hr
              · show Q1 Z u1 h0 n0 _ s₁.heap _
                rw [e0]
                exact ⟨by rw [own_starts, if_pos hc3_1, if_neg hc15_2, if_pos hc21_7, if_neg hc27_8, if_pos hc33_10, if_neg hc39_11], N0, rfl⟩
          · obtain ⟨fs, hr, hrun, hended, hW, hsame⟩ := X0.leave (v := some (.int (1 : Int32))) (fun h => by rw [Bd.returns] at h; cases h)
            refine ⟨_, _, ?_, hrun, hended, _, _, rfl, ?_, ⟨_, rfl⟩, hW, hsame.mono (by decide) (by decide)⟩
            · show Steps p.tables e below (s₁.setTop (mkF m 33 #[.val (.int u1)] [(.int (57 : Int32)), (.int u1)])) _
              refine XS.icmpYes X0.here hx rfl (pc0 := 33) (pc' := 42) rfl (hb hby d1_33) rfl (flt hc33_10).2.2.2 (by decide) (by decide) ?_
              show Steps p.tables e below (s₁.setTop (mkF m 42 #[.val (.int u1)] [])) _
              refine XS.iconst X0.here hx rfl (hb hby d1_42) ?_
              show Steps p.tables e below (s₁.setTop (mkF m 43 #[.val (.int u1)] [(.int (1 : Int32))])) _
              refine XS.goto X0.here hx rfl (pc0 := 43) (pc' := 47) rfl (hb hby d1_43) (by decide) (by decide) ?_
              show Steps p.tables e below (s₁.setTop (mkF m 47 #[.val (.int u1)] [(.int (1 : Int32))])) _
              exact retN X0 hx (t := .boolean) Bd.returns (by simp) (hb hby d1_47) hr
            · show Q1 Z u1 h0 n0 _ s₁.heap _
              rw [e0]
              exact ⟨by rw [own_starts, if_pos hc3_1, if_neg hc15_2, if_pos hc21_7, if_neg hc27_8, if_neg hc33_10], N0, rfl⟩
      · obtain ⟨fs, hr, hrun, hended, hW, hsame⟩ := X0.leave (v := some (.int (1 : Int32))) (fun h => by rw [Bd.returns] at h; cases h)
        refine ⟨_, _, ?_, hrun, hended, _, _, rfl, ?_, ⟨_, rfl⟩, hW, hsame.mono (by decide) (by decide)⟩
        · show Steps p.tables e below (s₁.setTop (mkF m 21 #[.val (.int u1)] [(.int (122 : Int32)), (.int u1)])) _
          refine XS.icmpYes X0.here hx rfl (pc0 := 21) (pc' := 42) rfl (hb hby d1_21) rfl (flt hc21_7).2.2.2 (by decide) (by decide) ?_
          show Steps p.tables e below (s₁.setTop (mkF m 42 #[.val (.int u1)] [])) _
          refine XS.iconst X0.here hx rfl (hb hby d1_42) ?_
          show Steps p.tables e below (s₁.setTop (mkF m 43 #[.val (.int u1)] [(.int (1 : Int32))])) _
          refine XS.goto X0.here hx rfl (pc0 := 43) (pc' := 47) rfl (hb hby d1_43) (by decide) (by decide) ?_
          show Steps p.tables e below (s₁.setTop (mkF m 47 #[.val (.int u1)] [(.int (1 : Int32))])) _
          exact retN X0 hx (t := .boolean) Bd.returns (by simp) (hb hby d1_47) hr
        · show Q1 Z u1 h0 n0 _ s₁.heap _
          rw [e0]
          exact ⟨by rw [own_starts, if_pos hc3_1, if_neg hc15_2, if_neg hc21_7], N0, rfl⟩
  · refine own_go (B := s₁.setTop (mkF m 9 #[.val (.int u1)] [(.int (90 : Int32)), (.int u1)])) (fun t k => ?_) ?_
    · show Steps p.tables e below (s₁.setTop (mkF m 3 #[.val (.int u1)] [(.int (65 : Int32)), (.int u1)])) _
      refine XS.icmpNo X0.here hx rfl (hb hby d1_3) rfl (flt hc3_1).1 ?_
      show Steps p.tables e below (s₁.setTop (mkF m 6 #[.val (.int u1)] [])) _
      refine XS.iloadN X0.here hx rfl (hb hby d1_6) rfl ?_
      show Steps p.tables e below (s₁.setTop (mkF m 7 #[.val (.int u1)] [(.int u1)])) _
      refine XS.bipush X0.here hx rfl (hb hby d1_7) ?_
      exact k
    by_cases hc9_12 : (90 : Int32) < u1
    · refine own_go (B := s₁.setTop (mkF m 15 #[.val (.int u1)] [(.int (97 : Int32)), (.int u1)])) (fun t k => ?_) ?_
      · show Steps p.tables e below (s₁.setTop (mkF m 9 #[.val (.int u1)] [(.int (90 : Int32)), (.int u1)])) _
        refine XS.icmpNo X0.here hx rfl (hb hby d1_9) rfl (tlt hc9_12).2.2.2 ?_
        show Steps p.tables e below (s₁.setTop (mkF m 12 #[.val (.int u1)] [])) _
        refine XS.iloadN X0.here hx rfl (hb hby d1_12) rfl ?_
        show Steps p.tables e below (s₁.setTop (mkF m 13 #[.val (.int u1)] [(.int u1)])) _
        refine XS.bipush X0.here hx rfl (hb hby d1_13) ?_
        exact k
      by_cases hc15_13 : u1 < (97 : Int32)
      · refine own_go (B := s₁.setTop (mkF m 27 #[.val (.int u1)] [(.int (48 : Int32)), (.int u1)])) (fun t k => ?_) ?_
        · show Steps p.tables e below (s₁.setTop (mkF m 15 #[.val (.int u1)] [(.int (97 : Int32)), (.int u1)])) _
          refine XS.icmpYes X0.here hx rfl (pc0 := 15) (pc' := 24) rfl (hb hby d1_15) rfl (tlt hc15_13).1 (by decide) (by decide) ?_
          show Steps p.tables e below (s₁.setTop (mkF m 24 #[.val (.int u1)] [])) _
          refine XS.iloadN X0.here hx rfl (hb hby d1_24) rfl ?_
          show Steps p.tables e below (s₁.setTop (mkF m 25 #[.val (.int u1)] [(.int u1)])) _
          refine XS.bipush X0.here hx rfl (hb hby d1_25) ?_
          exact k
        by_cases hc27_14 : u1 < (48 : Int32)
        · refine own_go (B := s₁.setTop (mkF m 39 #[.val (.int u1)] [(.int (95 : Int32)), (.int u1)])) (fun t k => ?_) ?_
          · show Steps p.tables e below (s₁.setTop (mkF m 27 #[.val (.int u1)] [(.int (48 : Int32)), (.int u1)])) _
            refine XS.icmpYes X0.here hx rfl (pc0 := 27) (pc' := 36) rfl (hb hby d1_27) rfl (tlt hc27_14).1 (by decide) (by decide) ?_
            show Steps p.tables e below (s₁.setTop (mkF m 36 #[.val (.int u1)] [])) _
            refine XS.iloadN X0.here hx rfl (hb hby d1_36) rfl ?_
            show Steps p.tables e below (s₁.setTop (mkF m 37 #[.val (.int u1)] [(.int u1)])) _
            refine XS.bipush X0.here hx rfl (hb hby d1_37) ?_
            exact k
          by_cases hc39_15 : u1 = (95 : Int32)
          · obtain ⟨fs, hr, hrun, hended, hW, hsame⟩ := X0.leave (v := some (.int (1 : Int32))) (fun h => by rw [Bd.returns] at h; cases h)
            refine ⟨_, _, ?_, hrun, hended, _, _, rfl, ?_, ⟨_, rfl⟩, hW, hsame.mono (by decide) (by decide)⟩
            · show Steps p.tables e below (s₁.setTop (mkF m 39 #[.val (.int u1)] [(.int (95 : Int32)), (.int u1)])) _
              refine XS.icmpNo X0.here hx rfl (hb hby d1_39) rfl (teq hc39_15).2 ?_
              show Steps p.tables e below (s₁.setTop (mkF m 42 #[.val (.int u1)] [])) _
              refine XS.iconst X0.here hx rfl (hb hby d1_42) ?_
              show Steps p.tables e below (s₁.setTop (mkF m 43 #[.val (.int u1)] [(.int (1 : Int32))])) _
              refine XS.goto X0.here hx rfl (pc0 := 43) (pc' := 47) rfl (hb hby d1_43) (by decide) (by decide) ?_
              show Steps p.tables e below (s₁.setTop (mkF m 47 #[.val (.int u1)] [(.int (1 : Int32))])) _
              exact retN X0 hx (t := .boolean) Bd.returns (by simp) (hb hby d1_47) hr
            · show Q1 Z u1 h0 n0 _ s₁.heap _
              rw [e0]
              exact ⟨by rw [own_starts, if_neg hc3_1, if_pos hc9_12, if_pos hc15_13, if_pos hc27_14, if_pos hc39_15], N0, rfl⟩
          · obtain ⟨fs, hr, hrun, hended, hW, hsame⟩ := X0.leave (v := some (.int (0 : Int32))) (fun h => by rw [Bd.returns] at h; cases h)
            refine ⟨_, _, ?_, hrun, hended, _, _, rfl, ?_, ⟨_, rfl⟩, hW, hsame.mono (by decide) (by decide)⟩
            · show Steps p.tables e below (s₁.setTop (mkF m 39 #[.val (.int u1)] [(.int (95 : Int32)), (.int u1)])) _
              refine XS.icmpYes X0.here hx rfl (pc0 := 39) (pc' := 46) rfl (hb hby d1_39) rfl (feq hc39_15).2 (by decide) (by decide) ?_
              show Steps p.tables e below (s₁.setTop (mkF m 46 #[.val (.int u1)] [])) _
              refine XS.iconst X0.here hx rfl (hb hby d1_46) ?_
              show Steps p.tables e below (s₁.setTop (mkF m 47 #[.val (.int u1)] [(.int (0 : Int32))])) _
              exact retN X0 hx (t := .boolean) Bd.returns (by simp) (hb hby d1_47) hr
            · show Q1 Z u1 h0 n0 _ s₁.heap _
              rw [e0]
              exact ⟨by rw [own_starts, if_neg hc3_1, if_pos hc9_12, if_pos hc15_13, if_pos hc27_14, if_neg hc39_15], N0, rfl⟩
        · refine own_go (B := s₁.setTop (mkF m 33 #[.val (.int u1)] [(.int (57 : Int32)), (.int u1)])) (fun t k => ?_) ?_
          · show Steps p.tables e below (s₁.setTop (mkF m 27 #[.val (.int u1)] [(.int (48 : Int32)), (.int u1)])) _
            refine XS.icmpNo X0.here hx rfl (hb hby d1_27) rfl (flt hc27_14).1 ?_
            show Steps p.tables e below (s₁.setTop (mkF m 30 #[.val (.int u1)] [])) _
            refine XS.iloadN X0.here hx rfl (hb hby d1_30) rfl ?_
            show Steps p.tables e below (s₁.setTop (mkF m 31 #[.val (.int u1)] [(.int u1)])) _
            refine XS.bipush X0.here hx rfl (hb hby d1_31) ?_
            exact k
          by_cases hc33_16 : (57 : Int32) < u1
          · refine own_go (B := s₁.setTop (mkF m 39 #[.val (.int u1)] [(.int (95 : Int32)), (.int u1)])) (fun t k => ?_) ?_
            · show Steps p.tables e below (s₁.setTop (mkF m 33 #[.val (.int u1)] [(.int (57 : Int32)), (.int u1)])) _
              refine XS.icmpNo X0.here hx rfl (hb hby d1_33) rfl (tlt hc33_16).2.2.2 ?_
              show Steps p.tables e below (s₁.setTop (mkF m 36 #[.val (.int u1)] [])) _
              refine XS.iloadN X0.here hx rfl (hb hby d1_36) rfl ?_
              show Steps p.tables e below (s₁.setTop (mkF m 37 #[.val (.int u1)] [(.int u1)])) _
              refine XS.bipush X0.here hx rfl (hb hby d1_37) ?_
              exact k
            by_cases hc39_17 : u1 = (95 : Int32)
            · obtain ⟨fs, hr, hrun, hended, hW, hsame⟩ := X0.leave (v := some (.int (1 : Int32))) (fun h => by rw [Bd.returns] at h; cases h)
              refine ⟨_, _, ?_, hrun, hended, _, _, rfl, ?_, ⟨_, rfl⟩, hW, hsame.mono (by decide) (by decide)⟩
              · show Steps p.tables e below (s₁.setTop (mkF m 39 #[.val (.int u1)] [(.int (95 : Int32)), (.int u1)])) _
                refine XS.icmpNo X0.here hx rfl (hb hby d1_39) rfl (teq hc39_17).2 ?_
                show Steps p.tables e below (s₁.setTop (mkF m 42 #[.val (.int u1)] [])) _
                refine XS.iconst X0.here hx rfl (hb hby d1_42) ?_
                show Steps p.tables e below (s₁.setTop (mkF m 43 #[.val (.int u1)] [(.int (1 : Int32))])) _
                refine XS.goto X0.here hx rfl (pc0 := 43) (pc' := 47) rfl (hb hby d1_43) (by decide) (by decide) ?_
                show Steps p.tables e below (s₁.setTop (mkF m 47 #[.val (.int u1)] [(.int (1 : Int32))])) _
                exact retN X0 hx (t := .boolean) Bd.returns (by simp) (hb hby d1_47) hr
              · show Q1 Z u1 h0 n0 _ s₁.heap _
                rw [e0]
                exact ⟨by rw [own_starts, if_neg hc3_1, if_pos hc9_12, if_pos hc15_13, if_neg hc27_14, if_pos hc33_16, if_pos hc39_17], N0, rfl⟩
            · obtain ⟨fs, hr, hrun, hended, hW, hsame⟩ := X0.leave (v := some (.int (0 : Int32))) (fun h => by rw [Bd.returns] at h; cases h)
              refine ⟨_, _, ?_, hrun, hended, _, _, rfl, ?_, ⟨_, rfl⟩, hW, hsame.mono (by decide) (by decide)⟩
              · show Steps p.tables e below (s₁.setTop (mkF m 39 #[.val (.int u1)] [(.int (95 : Int32)), (.int u1)])) _
                refine XS.icmpYes X0.here hx rfl (pc0 := 39) (pc' := 46) rfl (hb hby d1_39) rfl (feq hc39_17).2 (by decide) (by decide) ?_
                show Steps p.tables e below (s₁.setTop (mkF m 46 #[.val (.int u1)] [])) _
                refine XS.iconst X0.here hx rfl (hb hby d1_46) ?_
                show Steps p.tables e below (s₁.setTop (mkF m 47 #[.val (.int u1)] [(.int (0 : Int32))])) _
                exact retN X0 hx (t := .boolean) Bd.returns (by simp) (hb hby d1_47) hr
              · show Q1 Z u1 h0 n0 _ s₁.heap _
                rw [e0]
                exact ⟨by rw [own_starts, if_neg hc3_1, if_pos hc9_12, if_pos hc15_13, if_neg hc27_14, if_pos hc33_16, if_neg hc39_17], N0, rfl⟩
          · obtain ⟨fs, hr, hrun, hended, hW, hsame⟩ := X0.leave (v := some (.int (1 : Int32))) (fun h => by rw [Bd.returns] at h; cases h)
            refine ⟨_, _, ?_, hrun, hended, _, _, rfl, ?_, ⟨_, rfl⟩, hW, hsame.mono (by decide) (by decide)⟩
            · show Steps p.tables e below (s₁.setTop (mkF m 33 #[.val (.int u1)] [(.int (57 : Int32)), (.int u1)])) _
              refine XS.icmpYes X0.here hx rfl (pc0 := 33) (pc' := 42) rfl (hb hby d1_33) rfl (flt hc33_16).2.2.2 (by decide) (by decide) ?_
              show Steps p.tables e below (s₁.setTop (mkF m 42 #[.val (.int u1)] [])) _
              refine XS.iconst X0.here hx rfl (hb hby d1_42) ?_
              show Steps p.tables e below (s₁.setTop (mkF m 43 #[.val (.int u1)] [(.int (1 : Int32))])) _
              refine XS.goto X0.here hx rfl (pc0 := 43) (pc' := 47) rfl (hb hby d1_43) (by decide) (by decide) ?_
              show Steps p.tables e below (s₁.setTop (mkF m 47 #[.val (.int u1)] [(.int (1 : Int32))])) _
              exact retN X0 hx (t := .boolean) Bd.returns (by simp) (hb hby d1_47) hr
            · show Q1 Z u1 h0 n0 _ s₁.heap _
              rw [e0]
              exact ⟨by rw [own_starts, if_neg hc3_1, if_pos hc9_12, if_pos hc15_13, if_neg hc27_14, if_neg hc33_16], N0, rfl⟩
      · refine own_go (B := s₁.setTop (mkF m 21 #[.val (.int u1)] [(.int (122 : Int32)), (.int u1)])) (fun t k => ?_) ?_
        · show Steps p.tables e below (s₁.setTop (mkF m 15 #[.val (.int u1)] [(.int (97 : Int32)), (.int u1)])) _
          refine XS.icmpNo X0.here hx rfl (hb hby d1_15) rfl (flt hc15_13).1 ?_
          show Steps p.tables e below (s₁.setTop (mkF m 18 #[.val (.int u1)] [])) _
          refine XS.iloadN X0.here hx rfl (hb hby d1_18) rfl ?_
          show Steps p.tables e below (s₁.setTop (mkF m 19 #[.val (.int u1)] [(.int u1)])) _
          refine XS.bipush X0.here hx rfl (hb hby d1_19) ?_
          exact k
        by_cases hc21_18 : (122 : Int32) < u1
        · refine own_go (B := s₁.setTop (mkF m 27 #[.val (.int u1)] [(.int (48 : Int32)), (.int u1)])) (fun t k => ?_) ?_
          · show Steps p.tables e below (s₁.setTop (mkF m 21 #[.val (.int u1)] [(.int (122 : Int32)), (.int u1)])) _
            refine XS.icmpNo X0.here hx rfl (hb hby d1_21) rfl (tlt hc21_18).2.2.2 ?_
            show Steps p.tables e below (s₁.setTop (mkF m 24 #[.val (.int u1)] [])) _
            refine XS.iloadN X0.here hx rfl (hb hby d1_24) rfl ?_
            show Steps p.tables e below (s₁.setTop (mkF m 25 #[.val (.int u1)] [(.int u1)])) _
            refine XS.bipush X0.here hx rfl (hb hby d1_25) ?_
            exact k
          by_cases hc27_19 : u1 < (48 : Int32)
          · refine own_go (B := s₁.setTop (mkF m 39 #[.val (.int u1)] [(.int (95 : Int32)), (.int u1)])) (fun t k => ?_) ?_
            · show Steps p.tables e below (s₁.setTop (mkF m 27 #[.val (.int u1)] [(.int (48 : Int32)), (.int u1)])) _
              refine XS.icmpYes X0.here hx rfl (pc0 := 27) (pc' := 36) rfl (hb hby d1_27) rfl (tlt hc27_19).1 (by decide) (by decide) ?_
              show Steps p.tables e below (s₁.setTop (mkF m 36 #[.val (.int u1)] [])) _
              refine XS.iloadN X0.here hx rfl (hb hby d1_36) rfl ?_
              show Steps p.tables e below (s₁.setTop (mkF m 37 #[.val (.int u1)] [(.int u1)])) _
              refine XS.bipush X0.here hx rfl (hb hby d1_37) ?_
              exact k
            by_cases hc39_20 : u1 = (95 : Int32)
            · obtain ⟨fs, hr, hrun, hended, hW, hsame⟩ := X0.leave (v := some (.int (1 : Int32))) (fun h => by rw [Bd.returns] at h; cases h)
              refine ⟨_, _, ?_, hrun, hended, _, _, rfl, ?_, ⟨_, rfl⟩, hW, hsame.mono (by decide) (by decide)⟩
              · show Steps p.tables e below (s₁.setTop (mkF m 39 #[.val (.int u1)] [(.int (95 : Int32)), (.int u1)])) _
                refine XS.icmpNo X0.here hx rfl (hb hby d1_39) rfl (teq hc39_20).2 ?_
                show Steps p.tables e below (s₁.setTop (mkF m 42 #[.val (.int u1)] [])) _
                refine XS.iconst X0.here hx rfl (hb hby d1_42) ?_
                show Steps p.tables e below (s₁.setTop (mkF m 43 #[.val (.int u1)] [(.int (1 : Int32))])) _
                refine XS.goto X0.here hx rfl (pc0 := 43) (pc' := 47) rfl (hb hby d1_43) (by decide) (by decide) ?_
                show Steps p.tables e below (s₁.setTop (mkF m 47 #[.val (.int u1)] [(.int (1 : Int32))])) _
                exact retN X0 hx (t := .boolean) Bd.returns (by simp) (hb hby d1_47) hr
              · show Q1 Z u1 h0 n0 _ s₁.heap _
                rw [e0]
                exact ⟨by rw [own_starts, if_neg hc3_1, if_pos hc9_12, if_neg hc15_13, if_pos hc21_18, if_pos hc27_19, if_pos hc39_20], N0, rfl⟩
            · obtain ⟨fs, hr, hrun, hended, hW, hsame⟩ := X0.leave (v := some (.int (0 : Int32))) (fun h => by rw [Bd.returns] at h; cases h)
              refine ⟨_, _, ?_, hrun, hended, _, _, rfl, ?_, ⟨_, rfl⟩, hW, hsame.mono (by decide) (by decide)⟩
              · show Steps p.tables e below (s₁.setTop (mkF m 39 #[.val (.int u1)] [(.int (95 : Int32)), (.int u1)])) _
                refine XS.icmpYes X0.here hx rfl (pc0 := 39) (pc' := 46) rfl (hb hby d1_39) rfl (feq hc39_20).2 (by decide) (by decide) ?_
                show Steps p.tables e below (s₁.setTop (mkF m 46 #[.val (.int u1)] [])) _
                refine XS.iconst X0.here hx rfl (hb hby d1_46) ?_
                show Steps p.tables e below (s₁.setTop (mkF m 47 #[.val (.int u1)] [(.int (0 : Int32))])) _
                exact retN X0 hx (t := .boolean) Bd.returns (by simp) (hb hby d1_47) hr
              · show Q1 Z u1 h0 n0 _ s₁.heap _
                rw [e0]
                exact ⟨by rw [own_starts, if_neg hc3_1, if_pos hc9_12, if_neg hc15_13, if_pos hc21_18, if_pos hc27_19, if_neg hc39_20], N0, rfl⟩
          · refine own_go (B := s₁.setTop (mkF m 33 #[.val (.int u1)] [(.int (57 : Int32)), (.int u1)])) (fun t k => ?_) ?_
            · show Steps p.tables e below (s₁.setTop (mkF m 27 #[.val (.int u1)] [(.int (48 : Int32)), (.int u1)])) _
              refine XS.icmpNo X0.here hx rfl (hb hby d1_27) rfl (flt hc27_19).1 ?_
              show Steps p.tables e below (s₁.setTop (mkF m 30 #[.val (.int u1)] [])) _
              refine XS.iloadN X0.here hx rfl (hb hby d1_30) rfl ?_
              show Steps p.tables e below (s₁.setTop (mkF m 31 #[.val (.int u1)] [(.int u1)])) _
              refine XS.bipush X0.here hx rfl (hb hby d1_31) ?_
              exact k
            by_cases hc33_21 : (57 : Int32) < u1
            · refine own_go (B := s₁.setTop (mkF m 39 #[.val (.int u1)] [(.int (95 : Int32)), (.int u1)])) (fun t k => ?_) ?_
              · show Steps p.tables e below (s₁.setTop (mkF m 33 #[.val (.int u1)] [(.int (57 : Int32)), (.int u1)])) _
                refine XS.icmpNo X0.here hx rfl (hb hby d1_33) rfl (tlt hc33_21).2.2.2 ?_
                show Steps p.tables e below (s₁.setTop (mkF m 36 #[.val (.int u1)] [])) _
                refine XS.iloadN X0.here hx rfl (hb hby d1_36) rfl ?_
                show Steps p.tables e below (s₁.setTop (mkF m 37 #[.val (.int u1)] [(.int u1)])) _
                refine XS.bipush X0.here hx rfl (hb hby d1_37) ?_
                exact k
              by_cases hc39_22 : u1 = (95 : Int32)
              · obtain ⟨fs, hr, hrun, hended, hW, hsame⟩ := X0.leave (v := some (.int (1 : Int32))) (fun h => by rw [Bd.returns] at h; cases h)
                refine ⟨_, _, ?_, hrun, hended, _, _, rfl, ?_, ⟨_, rfl⟩, hW, hsame.mono (by decide) (by decide)⟩
                · show Steps p.tables e below (s₁.setTop (mkF m 39 #[.val (.int u1)] [(.int (95 : Int32)), (.int u1)])) _
                  refine XS.icmpNo X0.here hx rfl (hb hby d1_39) rfl (teq hc39_22).2 ?_
                  show Steps p.tables e below (s₁.setTop (mkF m 42 #[.val (.int u1)] [])) _
                  refine XS.iconst X0.here hx rfl (hb hby d1_42) ?_
                  show Steps p.tables e below (s₁.setTop (mkF m 43 #[.val (.int u1)] [(.int (1 : Int32))])) _
                  refine XS.goto X0.here hx rfl (pc0 := 43) (pc' := 47) rfl (hb hby d1_43) (by decide) (by decide) ?_
                  show Steps p.tables e below (s₁.setTop (mkF m 47 #[.val (.int u1)] [(.int (1 : Int32))])) _
                  exact retN X0 hx (t := .boolean) Bd.returns (by simp) (hb hby d1_47) hr
                · show Q1 Z u1 h0 n0 _ s₁.heap _
                  rw [e0]
                  exact ⟨by rw [own_starts, if_neg hc3_1, if_pos hc9_12, if_neg hc15_13, if_pos hc21_18, if_neg hc27_19, if_pos hc33_21, if_pos hc39_22], N0, rfl⟩
              · obtain ⟨fs, hr, hrun, hended, hW, hsame⟩ := X0.leave (v := some (.int (0 : Int32))) (fun h => by rw [Bd.returns] at h; cases h)
                refine ⟨_, _, ?_, hrun, hended, _, _, rfl, ?_, ⟨_, rfl⟩, hW, hsame.mono (by decide) (by decide)⟩
                · show Steps p.tables e below (s₁.setTop (mkF m 39 #[.val (.int u1)] [(.int (95 : Int32)), (.int u1)])) _
                  refine XS.icmpYes X0.here hx rfl (pc0 := 39) (pc' := 46) rfl (hb hby d1_39) rfl (feq hc39_22).2 (by decide) (by decide) ?_
                  show Steps p.tables e below (s₁.setTop (mkF m 46 #[.val (.int u1)] [])) _
                  refine XS.iconst X0.here hx rfl (hb hby d1_46) ?_
                  show Steps p.tables e below (s₁.setTop (mkF m 47 #[.val (.int u1)] [(.int (0 : Int32))])) _
                  exact retN X0 hx (t := .boolean) Bd.returns (by simp) (hb hby d1_47) hr
                · show Q1 Z u1 h0 n0 _ s₁.heap _
                  rw [e0]
                  exact ⟨by rw [own_starts, if_neg hc3_1, if_pos hc9_12, if_neg hc15_13, if_pos hc21_18, if_neg hc27_19, if_pos hc33_21, if_neg hc39_22], N0, rfl⟩
            · obtain ⟨fs, hr, hrun, hended, hW, hsame⟩ := X0.leave (v := some (.int (1 : Int32))) (fun h => by rw [Bd.returns] at h; cases h)
              refine ⟨_, _, ?_, hrun, hended, _, _, rfl, ?_, ⟨_, rfl⟩, hW, hsame.mono (by decide) (by decide)⟩
              · show Steps p.tables e below (s₁.setTop (mkF m 33 #[.val (.int u1)] [(.int (57 : Int32)), (.int u1)])) _
                refine XS.icmpYes X0.here hx rfl (pc0 := 33) (pc' := 42) rfl (hb hby d1_33) rfl (flt hc33_21).2.2.2 (by decide) (by decide) ?_
                show Steps p.tables e below (s₁.setTop (mkF m 42 #[.val (.int u1)] [])) _
                refine XS.iconst X0.here hx rfl (hb hby d1_42) ?_
                show Steps p.tables e below (s₁.setTop (mkF m 43 #[.val (.int u1)] [(.int (1 : Int32))])) _
                refine XS.goto X0.here hx rfl (pc0 := 43) (pc' := 47) rfl (hb hby d1_43) (by decide) (by decide) ?_
                show Steps p.tables e below (s₁.setTop (mkF m 47 #[.val (.int u1)] [(.int (1 : Int32))])) _
                exact retN X0 hx (t := .boolean) Bd.returns (by simp) (hb hby d1_47) hr
              · show Q1 Z u1 h0 n0 _ s₁.heap _
                rw [e0]
                exact ⟨by rw [own_starts, if_neg hc3_1, if_pos hc9_12, if_neg hc15_13, if_pos hc21_18, if_neg hc27_19, if_neg hc33_21], N0, rfl⟩
        · obtain ⟨fs, hr, hrun, hended, hW, hsame⟩ := X0.leave (v := some (.int (1 : Int32))) (fun h => by rw [Bd.returns] at h; cases h)
          refine ⟨_, _, ?_, hrun, hended, _, _, rfl, ?_, ⟨_, rfl⟩, hW, hsame.mono (by decide) (by decide)⟩
          · show Steps p.tables e below (s₁.setTop (mkF m 21 #[.val (.int u1)] [(.int (122 : Int32)), (.int u1)])) _
            refine XS.icmpYes X0.here hx rfl (pc0 := 21) (pc' := 42) rfl (hb hby d1_21) rfl (flt hc21_18).2.2.2 (by decide) (by decide) ?_
            show Steps p.tables e below (s₁.setTop (mkF m 42 #[.val (.int u1)] [])) _
            refine XS.iconst X0.here hx rfl (hb hby d1_42) ?_
            show Steps p.tables e below (s₁.setTop (mkF m 43 #[.val (.int u1)] [(.int (1 : Int32))])) _
            refine XS.goto X0.here hx rfl (pc0 := 43) (pc' := 47) rfl (hb hby d1_43) (by decide) (by decide) ?_
            show Steps p.tables e below (s₁.setTop (mkF m 47 #[.val (.int u1)] [(.int (1 : Int32))])) _
            exact retN X0 hx (t := .boolean) Bd.returns (by simp) (hb hby d1_47) hr
          · show Q1 Z u1 h0 n0 _ s₁.heap _
            rw [e0]
            exact ⟨by rw [own_starts, if_neg hc3_1, if_pos hc9_12, if_neg hc15_13, if_neg hc21_18], N0, rfl⟩
    · obtain ⟨fs, hr, hrun, hended, hW, hsame⟩ := X0.leave (v := some (.int (1 : Int32))) (fun h => by rw [Bd.returns] at h; cases h)
      refine ⟨_, _, ?_, hrun, hended, _, _, rfl, ?_, ⟨_, rfl⟩, hW, hsame.mono (by decide) (by decide)⟩
      · show Steps p.tables e below (s₁.setTop (mkF m 9 #[.val (.int u1)] [(.int (90 : Int32)), (.int u1)])) _
        refine XS.icmpYes X0.here hx rfl (pc0 := 9) (pc' := 42) rfl (hb hby d1_9) rfl (flt hc9_12).2.2.2 (by decide) (by decide) ?_
        show Steps p.tables e below (s₁.setTop (mkF m 42 #[.val (.int u1)] [])) _
        refine XS.iconst X0.here hx rfl (hb hby d1_42) ?_
        show Steps p.tables e below (s₁.setTop (mkF m 43 #[.val (.int u1)] [(.int (1 : Int32))])) _
        refine XS.goto X0.here hx rfl (pc0 := 43) (pc' := 47) rfl (hb hby d1_43) (by decide) (by decide) ?_
        show Steps p.tables e below (s₁.setTop (mkF m 47 #[.val (.int u1)] [(.int (1 : Int32))])) _
        exact retN X0 hx (t := .boolean) Bd.returns (by simp) (hb hby d1_47) hr
      · show Q1 Z u1 h0 n0 _ s₁.heap _
        rw [e0]
        exact ⟨by rw [own_starts, if_neg hc3_1, if_neg hc9_12], N0, rfl⟩
def own_exp (u1 : Int32) : Int32 := (if ((u1 ||| (32 : Int32)) - (97 : Int32)) < (0 : Int32) then (if (u1 - (48 : Int32)) < (0 : Int32) then (if u1 = (95 : Int32) then (1 : Int32) else (0 : Int32)) else (if (u1 - (48 : Int32)) < (10 : Int32) then (if u1 = (95 : Int32) then (1 : Int32) else (1 : Int32)) else (if u1 = (95 : Int32) then (1 : Int32) else (0 : Int32)))) else (if ((u1 ||| (32 : Int32)) - (97 : Int32)) < (26 : Int32) then (if (u1 - (48 : Int32)) < (0 : Int32) then (if u1 = (95 : Int32) then (1 : Int32) else (1 : Int32)) else (if (u1 - (48 : Int32)) < (10 : Int32) then (if u1 = (95 : Int32) then (1 : Int32) else (1 : Int32)) else (if u1 = (95 : Int32) then (1 : Int32) else (1 : Int32)))) else (if (u1 - (48 : Int32)) < (0 : Int32) then (if u1 = (95 : Int32) then (1 : Int32) else (0 : Int32)) else (if (u1 - (48 : Int32)) < (10 : Int32) then (if u1 = (95 : Int32) then (1 : Int32) else (1 : Int32)) else (if u1 = (95 : Int32) then (1 : Int32) else (0 : Int32))))))
theorem pn_2 : plainName "com/example/palinode/palinode/SagaLexerStartsNamePinLaw" = true := by first | (simp [plainName, overriddenIn]; done) | decide +kernel
theorem d2_0 : decode method_2_code 0 = .ok (.iload_n 0, 1) := by decide +kernel
theorem d2_1 : decode method_2_code 1 = .ok (.bipush 32, 2) := by decide +kernel
theorem d2_3 : decode method_2_code 3 = .ok (.ior, 1) := by decide +kernel
theorem d2_4 : decode method_2_code 4 = .ok (.bipush 97, 2) := by decide +kernel
theorem d2_6 : decode method_2_code 6 = .ok (.isub, 1) := by decide +kernel
theorem d2_7 : decode method_2_code 7 = .ok (.istore_n 1, 1) := by decide +kernel
theorem d2_8 : decode method_2_code 8 = .ok (.iload_n 1, 1) := by decide +kernel
theorem d2_9 : decode method_2_code 9 = .ok (.ifCond .lt 13, 3) := by decide +kernel
theorem d2_12 : decode method_2_code 12 = .ok (.iload_n 1, 1) := by decide +kernel
theorem d2_13 : decode method_2_code 13 = .ok (.bipush 26, 2) := by decide +kernel
theorem d2_15 : decode method_2_code 15 = .ok (.if_icmp .ge 7, 3) := by decide +kernel
theorem d2_18 : decode method_2_code 18 = .ok (.iconst 1, 1) := by decide +kernel
theorem d2_19 : decode method_2_code 19 = .ok (.goto 4, 3) := by decide +kernel
theorem d2_22 : decode method_2_code 22 = .ok (.iconst 0, 1) := by decide +kernel
theorem d2_23 : decode method_2_code 23 = .ok (.istore_n 2, 1) := by decide +kernel
theorem d2_24 : decode method_2_code 24 = .ok (.iload_n 0, 1) := by decide +kernel
theorem d2_25 : decode method_2_code 25 = .ok (.bipush 48, 2) := by decide +kernel
theorem d2_27 : decode method_2_code 27 = .ok (.isub, 1) := by decide +kernel
theorem d2_28 : decode method_2_code 28 = .ok (.istore_n 3, 1) := by decide +kernel
theorem d2_29 : decode method_2_code 29 = .ok (.iload_n 3, 1) := by decide +kernel
theorem d2_30 : decode method_2_code 30 = .ok (.ifCond .lt 13, 3) := by decide +kernel
theorem d2_33 : decode method_2_code 33 = .ok (.iload_n 3, 1) := by decide +kernel
theorem d2_34 : decode method_2_code 34 = .ok (.bipush 10, 2) := by decide +kernel
theorem d2_36 : decode method_2_code 36 = .ok (.if_icmp .ge 7, 3) := by decide +kernel
theorem d2_39 : decode method_2_code 39 = .ok (.iconst 1, 1) := by decide +kernel
theorem d2_40 : decode method_2_code 40 = .ok (.goto 4, 3) := by decide +kernel
theorem d2_43 : decode method_2_code 43 = .ok (.iconst 0, 1) := by decide +kernel
theorem d2_44 : decode method_2_code 44 = .ok (.istore 4, 2) := by decide +kernel
theorem d2_46 : decode method_2_code 46 = .ok (.iload_n 0, 1) := by decide +kernel
theorem d2_47 : decode method_2_code 47 = .ok (.bipush 95, 2) := by decide +kernel
theorem d2_49 : decode method_2_code 49 = .ok (.if_icmp .ne 7, 3) := by decide +kernel
theorem d2_52 : decode method_2_code 52 = .ok (.iconst 1, 1) := by decide +kernel
theorem d2_53 : decode method_2_code 53 = .ok (.goto 4, 3) := by decide +kernel
theorem d2_56 : decode method_2_code 56 = .ok (.iconst 0, 1) := by decide +kernel
theorem d2_57 : decode method_2_code 57 = .ok (.istore 5, 2) := by decide +kernel
theorem d2_59 : decode method_2_code 59 = .ok (.iload_n 2, 1) := by decide +kernel
theorem d2_60 : decode method_2_code 60 = .ok (.ifCond .ne 13, 3) := by decide +kernel
theorem d2_63 : decode method_2_code 63 = .ok (.iload 4, 2) := by decide +kernel
theorem d2_65 : decode method_2_code 65 = .ok (.ifCond .ne 8, 3) := by decide +kernel
theorem d2_68 : decode method_2_code 68 = .ok (.iload 5, 2) := by decide +kernel
theorem d2_70 : decode method_2_code 70 = .ok (.ifCond .eq 7, 3) := by decide +kernel
theorem d2_73 : decode method_2_code 73 = .ok (.iconst 1, 1) := by decide +kernel
theorem d2_74 : decode method_2_code 74 = .ok (.goto 4, 3) := by decide +kernel
theorem d2_77 : decode method_2_code 77 = .ok (.iconst 0, 1) := by decide +kernel
theorem d2_78 : decode method_2_code 78 = .ok (.ireturn, 1) := by decide +kernel
theorem ef_2 (m : MethodId) (x0 : Int32) : entryFrame m #[(.int x0)] 6 = mkF m 0 #[.val (.int x0), .unset, .unset, .unset, .unset, .unset] [] := by first | (simp [entryFrame, mkF, argsToLocals, Value.category]; done) | rfl
def Q2 (Z : State) (u1 : Int32) (h0 : Heap) (n0 : Nat) (v : Option Value) (h : Heap) (L : List Loc) : Prop := v = some (.int (own_exp u1)) ∧ Fr n0 L ∧ h = h0
set_option maxRecDepth 65536 in
set_option maxHeartbeats 40000000 in
theorem rm2 (l : Launch) (Z : State) (a0 : Array Value) (hw : ∀ d ∈ tables_1, d.before a0 Z = true) (ws : List Jvm.Cond) (u1 : Int32) (h0 : Heap) (n0 : Nat) (Z0 : n0 ≤ h0.size) :
    MetFree l (⟨"com/example/palinode/palinode/SagaLexerStartsNamePinLaw", "expected", "(I)Z"⟩ : MethodName) (head1 (Jvm.Cond.code (⟨"com/example/palinode/palinode/SagaLexerStartsNamePinLaw", "expected", "(I)Z"⟩ : MethodName) method_2_code 6 (some .boolean) :: ws) ({ frames := 0, cells := 0, slots := 0, locals := 0 } : Room)) (fun a U => a = #[(.int u1)] ∧ Z.Warmed39 U.vm ∧ U.heap = h0) (fun _ _ _ _ _ => True) (fun _ U o U' => ∃ v L, o = .returned v ∧ Q2 Z u1 h0 n0 v U'.heap L ∧ FrameEnd U o U' L ({ frames := 0, cells := 0, slots := 0, locals := 0 } : Room).cells ({ frames := 0, cells := 0, slots := 0, locals := 0 } : Room).slots) := by
  refine MetFree.of_bodySF (plainFor_of_name pn_2) hisR ?_
  intro p e s m args below meth c s₁ Bd hml0 hP hK
  obtain ⟨rfl, hZ, hh⟩ := hP
  have hx := Bd.exec
  have hby := Bd.bytes
  have hml : c.maxLocals = 6 := hml0
  have hown : s.vm.findClass "com/example/palinode/palinode/SagaLexerStartsNamePinLaw" = some m.cls := findClass_of_methodNamed Bd.named
  have hnm := (name_of_methodNamed Bd.named Bd.method).1
  have X0 : Stand p l e ({ frames := 0, cells := 0, slots := 0, locals := 0 } : Room) s m #[(.int u1)] below meth c s₁ [] 0 0 := Stand.of_body Bd
  have e0 : s₁.heap = h0 := by rw [← hh, Bd.state]; rfl
  have N0 := Fr.nil n0
  refine own_go (B := s₁.setTop (mkF m 0 #[.val (.int u1), .unset, .unset, .unset, .unset, .unset] [])) (fun t k => castTop (ef_2 m u1) k) ?_
  refine own_go (B := s₁.setTop (mkF m 9 #[.val (.int u1), .val (.int ((u1 ||| (32 : Int32)) - (97 : Int32))), .unset, .unset, .unset, .unset] [(.int ((u1 ||| (32 : Int32)) - (97 : Int32)))])) (fun t k => ?_) ?_
  · show Steps p.tables e below (s₁.setTop (mkF m 0 #[.val (.int u1), .unset, .unset, .unset, .unset, .unset] [])) _
    refine XS.iloadN X0.here hx rfl (hb hby d2_0) rfl ?_
    show Steps p.tables e below (s₁.setTop (mkF m 1 #[.val (.int u1), .unset, .unset, .unset, .unset, .unset] [(.int u1)])) _
    refine XS.bipush X0.here hx rfl (hb hby d2_1) ?_
    show Steps p.tables e below (s₁.setTop (mkF m 3 #[.val (.int u1), .unset, .unset, .unset, .unset, .unset] [(.int (32 : Int32)), (.int u1)])) _
    refine XS.ior X0.here hx rfl (hb hby d2_3) rfl ?_
    show Steps p.tables e below (s₁.setTop (mkF m 4 #[.val (.int u1), .unset, .unset, .unset, .unset, .unset] [(.int (u1 ||| (32 : Int32)))])) _
    refine XS.bipush X0.here hx rfl (hb hby d2_4) ?_
    show Steps p.tables e below (s₁.setTop (mkF m 6 #[.val (.int u1), .unset, .unset, .unset, .unset, .unset] [(.int (97 : Int32)), (.int (u1 ||| (32 : Int32)))])) _
    refine XS.isub X0.here hx rfl (hb hby d2_6) rfl ?_
    show Steps p.tables e below (s₁.setTop (mkF m 7 #[.val (.int u1), .unset, .unset, .unset, .unset, .unset] [(.int ((u1 ||| (32 : Int32)) - (97 : Int32)))])) _
    refine XS.istoreN X0.here hx rfl (hb hby d2_7) rfl (l' := #[.val (.int u1), .val (.int ((u1 ||| (32 : Int32)) - (97 : Int32))), .unset, .unset, .unset, .unset]) rfl ?_
    show Steps p.tables e below (s₁.setTop (mkF m 8 #[.val (.int u1), .val (.int ((u1 ||| (32 : Int32)) - (97 : Int32))), .unset, .unset, .unset, .unset] [])) _
    refine XS.iloadN X0.here hx rfl (hb hby d2_8) rfl ?_
    exact k
  by_cases hc9_1 : ((u1 ||| (32 : Int32)) - (97 : Int32)) < (0 : Int32)
  · refine own_go (B := s₁.setTop (mkF m 30 #[.val (.int u1), .val (.int ((u1 ||| (32 : Int32)) - (97 : Int32))), .val (.int (0 : Int32)), .val (.int (u1 - (48 : Int32))), .unset, .unset] [(.int (u1 - (48 : Int32)))])) (fun t k => ?_) ?_
    · show Steps p.tables e below (s₁.setTop (mkF m 9 #[.val (.int u1), .val (.int ((u1 ||| (32 : Int32)) - (97 : Int32))), .unset, .unset, .unset, .unset] [(.int ((u1 ||| (32 : Int32)) - (97 : Int32)))])) _
      refine XS.ifYes X0.here hx rfl (pc0 := 9) (pc' := 22) rfl (hb hby d2_9) rfl ((if0 _ _).trans (tlt hc9_1).1) (by decide) (by decide) ?_
      show Steps p.tables e below (s₁.setTop (mkF m 22 #[.val (.int u1), .val (.int ((u1 ||| (32 : Int32)) - (97 : Int32))), .unset, .unset, .unset, .unset] [])) _
      refine XS.iconst X0.here hx rfl (hb hby d2_22) ?_
      show Steps p.tables e below (s₁.setTop (mkF m 23 #[.val (.int u1), .val (.int ((u1 ||| (32 : Int32)) - (97 : Int32))), .unset, .unset, .unset, .unset] [(.int (0 : Int32))])) _
      refine XS.istoreN X0.here hx rfl (hb hby d2_23) rfl (l' := #[.val (.int u1), .val (.int ((u1 ||| (32 : Int32)) - (97 : Int32))), .val (.int (0 : Int32)), .unset, .unset, .unset]) rfl ?_
      show Steps p.tables e below (s₁.setTop (mkF m 24 #[.val (.int u1), .val (.int ((u1 ||| (32 : Int32)) - (97 : Int32))), .val (.int (0 : Int32)), .unset, .unset, .unset] [])) _
      refine XS.iloadN X0.here hx rfl (hb hby d2_24) rfl ?_
      show Steps p.tables e below (s₁.setTop (mkF m 25 #[.val (.int u1), .val (.int ((u1 ||| (32 : Int32)) - (97 : Int32))), .val (.int (0 : Int32)), .unset, .unset, .unset] [(.int u1)])) _
      refine XS.bipush X0.here hx rfl (hb hby d2_25) ?_
      show Steps p.tables e below (s₁.setTop (mkF m 27 #[.val (.int u1), .val (.int ((u1 ||| (32 : Int32)) - (97 : Int32))), .val (.int (0 : Int32)), .unset, .unset, .unset] [(.int (48 : Int32)), (.int u1)])) _
      refine XS.isub X0.here hx rfl (hb hby d2_27) rfl ?_
      show Steps p.tables e below (s₁.setTop (mkF m 28 #[.val (.int u1), .val (.int ((u1 ||| (32 : Int32)) - (97 : Int32))), .val (.int (0 : Int32)), .unset, .unset, .unset] [(.int (u1 - (48 : Int32)))])) _
      refine XS.istoreN X0.here hx rfl (hb hby d2_28) rfl (l' := #[.val (.int u1), .val (.int ((u1 ||| (32 : Int32)) - (97 : Int32))), .val (.int (0 : Int32)), .val (.int (u1 - (48 : Int32))), .unset, .unset]) rfl ?_
      show Steps p.tables e below (s₁.setTop (mkF m 29 #[.val (.int u1), .val (.int ((u1 ||| (32 : Int32)) - (97 : Int32))), .val (.int (0 : Int32)), .val (.int (u1 - (48 : Int32))), .unset, .unset] [])) _
      refine XS.iloadN X0.here hx rfl (hb hby d2_29) rfl ?_
      exact k
    by_cases hc30_2 : (u1 - (48 : Int32)) < (0 : Int32)
    · refine own_go (B := s₁.setTop (mkF m 49 #[.val (.int u1), .val (.int ((u1 ||| (32 : Int32)) - (97 : Int32))), .val (.int (0 : Int32)), .val (.int (u1 - (48 : Int32))), .val (.int (0 : Int32)), .unset] [(.int (95 : Int32)), (.int u1)])) (fun t k => ?_) ?_
      · show Steps p.tables e below (s₁.setTop (mkF m 30 #[.val (.int u1), .val (.int ((u1 ||| (32 : Int32)) - (97 : Int32))), .val (.int (0 : Int32)), .val (.int (u1 - (48 : Int32))), .unset, .unset] [(.int (u1 - (48 : Int32)))])) _
        refine XS.ifYes X0.here hx rfl (pc0 := 30) (pc' := 43) rfl (hb hby d2_30) rfl ((if0 _ _).trans (tlt hc30_2).1) (by decide) (by decide) ?_
        show Steps p.tables e below (s₁.setTop (mkF m 43 #[.val (.int u1), .val (.int ((u1 ||| (32 : Int32)) - (97 : Int32))), .val (.int (0 : Int32)), .val (.int (u1 - (48 : Int32))), .unset, .unset] [])) _
        refine XS.iconst X0.here hx rfl (hb hby d2_43) ?_
        show Steps p.tables e below (s₁.setTop (mkF m 44 #[.val (.int u1), .val (.int ((u1 ||| (32 : Int32)) - (97 : Int32))), .val (.int (0 : Int32)), .val (.int (u1 - (48 : Int32))), .unset, .unset] [(.int (0 : Int32))])) _
        refine XS.istore X0.here hx rfl (hb hby d2_44) rfl (l' := #[.val (.int u1), .val (.int ((u1 ||| (32 : Int32)) - (97 : Int32))), .val (.int (0 : Int32)), .val (.int (u1 - (48 : Int32))), .val (.int (0 : Int32)), .unset]) rfl ?_
        show Steps p.tables e below (s₁.setTop (mkF m 46 #[.val (.int u1), .val (.int ((u1 ||| (32 : Int32)) - (97 : Int32))), .val (.int (0 : Int32)), .val (.int (u1 - (48 : Int32))), .val (.int (0 : Int32)), .unset] [])) _
        refine XS.iloadN X0.here hx rfl (hb hby d2_46) rfl ?_
        show Steps p.tables e below (s₁.setTop (mkF m 47 #[.val (.int u1), .val (.int ((u1 ||| (32 : Int32)) - (97 : Int32))), .val (.int (0 : Int32)), .val (.int (u1 - (48 : Int32))), .val (.int (0 : Int32)), .unset] [(.int u1)])) _
        refine XS.bipush X0.here hx rfl (hb hby d2_47) ?_
        exact k
      by_cases hc49_3 : u1 = (95 : Int32)
      · obtain ⟨fs, hr, hrun, hended, hW, hsame⟩ := X0.leave (v := some (.int (1 : Int32))) (fun h => by rw [Bd.returns] at h; cases h)
        refine ⟨_, _, ?_, hrun, hended, _, _, rfl, ?_, ⟨_, rfl⟩, hW, hsame.mono (by decide) (by decide)⟩
        · show Steps p.tables e below (s₁.setTop (mkF m 49 #[.val (.int u1), .val (.int ((u1 ||| (32 : Int32)) - (97 : Int32))), .val (.int (0 : Int32)), .val (.int (u1 - (48 : Int32))), .val (.int (0 : Int32)), .unset] [(.int (95 : Int32)), (.int u1)])) _
          refine XS.icmpNo X0.here hx rfl (hb hby d2_49) rfl (teq hc49_3).2 ?_
          show Steps p.tables e below (s₁.setTop (mkF m 52 #[.val (.int u1), .val (.int ((u1 ||| (32 : Int32)) - (97 : Int32))), .val (.int (0 : Int32)), .val (.int (u1 - (48 : Int32))), .val (.int (0 : Int32)), .unset] [])) _
          refine XS.iconst X0.here hx rfl (hb hby d2_52) ?_
          show Steps p.tables e below (s₁.setTop (mkF m 53 #[.val (.int u1), .val (.int ((u1 ||| (32 : Int32)) - (97 : Int32))), .val (.int (0 : Int32)), .val (.int (u1 - (48 : Int32))), .val (.int (0 : Int32)), .unset] [(.int (1 : Int32))])) _
          refine XS.goto X0.here hx rfl (pc0 := 53) (pc' := 57) rfl (hb hby d2_53) (by decide) (by decide) ?_
          show Steps p.tables e below (s₁.setTop (mkF m 57 #[.val (.int u1), .val (.int ((u1 ||| (32 : Int32)) - (97 : Int32))), .val (.int (0 : Int32)), .val (.int (u1 - (48 : Int32))), .val (.int (0 : Int32)), .unset] [(.int (1 : Int32))])) _
          refine XS.istore X0.here hx rfl (hb hby d2_57) rfl (l' := #[.val (.int u1), .val (.int ((u1 ||| (32 : Int32)) - (97 : Int32))), .val (.int (0 : Int32)), .val (.int (u1 - (48 : Int32))), .val (.int (0 : Int32)), .val (.int (1 : Int32))]) rfl ?_
          show Steps p.tables e below (s₁.setTop (mkF m 59 #[.val (.int u1), .val (.int ((u1 ||| (32 : Int32)) - (97 : Int32))), .val (.int (0 : Int32)), .val (.int (u1 - (48 : Int32))), .val (.int (0 : Int32)), .val (.int (1 : Int32))] [])) _
          refine XS.iloadN X0.here hx rfl (hb hby d2_59) rfl ?_
          show Steps p.tables e below (s₁.setTop (mkF m 60 #[.val (.int u1), .val (.int ((u1 ||| (32 : Int32)) - (97 : Int32))), .val (.int (0 : Int32)), .val (.int (u1 - (48 : Int32))), .val (.int (0 : Int32)), .val (.int (1 : Int32))] [(.int (0 : Int32))])) _
          refine XS.ifNo X0.here hx rfl (hb hby d2_60) rfl ((if0 _ _).trans (teq (by decide)).2) ?_
          show Steps p.tables e below (s₁.setTop (mkF m 63 #[.val (.int u1), .val (.int ((u1 ||| (32 : Int32)) - (97 : Int32))), .val (.int (0 : Int32)), .val (.int (u1 - (48 : Int32))), .val (.int (0 : Int32)), .val (.int (1 : Int32))] [])) _
          refine XS.iload X0.here hx rfl (hb hby d2_63) rfl ?_
          show Steps p.tables e below (s₁.setTop (mkF m 65 #[.val (.int u1), .val (.int ((u1 ||| (32 : Int32)) - (97 : Int32))), .val (.int (0 : Int32)), .val (.int (u1 - (48 : Int32))), .val (.int (0 : Int32)), .val (.int (1 : Int32))] [(.int (0 : Int32))])) _
          refine XS.ifNo X0.here hx rfl (hb hby d2_65) rfl ((if0 _ _).trans (teq (by decide)).2) ?_
          show Steps p.tables e below (s₁.setTop (mkF m 68 #[.val (.int u1), .val (.int ((u1 ||| (32 : Int32)) - (97 : Int32))), .val (.int (0 : Int32)), .val (.int (u1 - (48 : Int32))), .val (.int (0 : Int32)), .val (.int (1 : Int32))] [])) _
          refine XS.iload X0.here hx rfl (hb hby d2_68) rfl ?_
          show Steps p.tables e below (s₁.setTop (mkF m 70 #[.val (.int u1), .val (.int ((u1 ||| (32 : Int32)) - (97 : Int32))), .val (.int (0 : Int32)), .val (.int (u1 - (48 : Int32))), .val (.int (0 : Int32)), .val (.int (1 : Int32))] [(.int (1 : Int32))])) _
          refine XS.ifNo X0.here hx rfl (hb hby d2_70) rfl ((if0 _ _).trans (feq (by decide)).1) ?_
          show Steps p.tables e below (s₁.setTop (mkF m 73 #[.val (.int u1), .val (.int ((u1 ||| (32 : Int32)) - (97 : Int32))), .val (.int (0 : Int32)), .val (.int (u1 - (48 : Int32))), .val (.int (0 : Int32)), .val (.int (1 : Int32))] [])) _
          refine XS.iconst X0.here hx rfl (hb hby d2_73) ?_
          show Steps p.tables e below (s₁.setTop (mkF m 74 #[.val (.int u1), .val (.int ((u1 ||| (32 : Int32)) - (97 : Int32))), .val (.int (0 : Int32)), .val (.int (u1 - (48 : Int32))), .val (.int (0 : Int32)), .val (.int (1 : Int32))] [(.int (1 : Int32))])) _
          refine XS.goto X0.here hx rfl (pc0 := 74) (pc' := 78) rfl (hb hby d2_74) (by decide) (by decide) ?_
          show Steps p.tables e below (s₁.setTop (mkF m 78 #[.val (.int u1), .val (.int ((u1 ||| (32 : Int32)) - (97 : Int32))), .val (.int (0 : Int32)), .val (.int (u1 - (48 : Int32))), .val (.int (0 : Int32)), .val (.int (1 : Int32))] [(.int (1 : Int32))])) _
          exact retN X0 hx (t := .boolean) Bd.returns (by simp) (hb hby d2_78) hr
        · show Q2 Z u1 h0 n0 _ s₁.heap _
          rw [e0]
          exact ⟨by rw [own_exp, if_pos hc9_1, if_pos hc30_2, if_pos hc49_3], N0, rfl⟩
      · obtain ⟨fs, hr, hrun, hended, hW, hsame⟩ := X0.leave (v := some (.int (0 : Int32))) (fun h => by rw [Bd.returns] at h; cases h)
        refine ⟨_, _, ?_, hrun, hended, _, _, rfl, ?_, ⟨_, rfl⟩, hW, hsame.mono (by decide) (by decide)⟩
        · show Steps p.tables e below (s₁.setTop (mkF m 49 #[.val (.int u1), .val (.int ((u1 ||| (32 : Int32)) - (97 : Int32))), .val (.int (0 : Int32)), .val (.int (u1 - (48 : Int32))), .val (.int (0 : Int32)), .unset] [(.int (95 : Int32)), (.int u1)])) _
          refine XS.icmpYes X0.here hx rfl (pc0 := 49) (pc' := 56) rfl (hb hby d2_49) rfl (feq hc49_3).2 (by decide) (by decide) ?_
          show Steps p.tables e below (s₁.setTop (mkF m 56 #[.val (.int u1), .val (.int ((u1 ||| (32 : Int32)) - (97 : Int32))), .val (.int (0 : Int32)), .val (.int (u1 - (48 : Int32))), .val (.int (0 : Int32)), .unset] [])) _
          refine XS.iconst X0.here hx rfl (hb hby d2_56) ?_
          show Steps p.tables e below (s₁.setTop (mkF m 57 #[.val (.int u1), .val (.int ((u1 ||| (32 : Int32)) - (97 : Int32))), .val (.int (0 : Int32)), .val (.int (u1 - (48 : Int32))), .val (.int (0 : Int32)), .unset] [(.int (0 : Int32))])) _
          refine XS.istore X0.here hx rfl (hb hby d2_57) rfl (l' := #[.val (.int u1), .val (.int ((u1 ||| (32 : Int32)) - (97 : Int32))), .val (.int (0 : Int32)), .val (.int (u1 - (48 : Int32))), .val (.int (0 : Int32)), .val (.int (0 : Int32))]) rfl ?_
          show Steps p.tables e below (s₁.setTop (mkF m 59 #[.val (.int u1), .val (.int ((u1 ||| (32 : Int32)) - (97 : Int32))), .val (.int (0 : Int32)), .val (.int (u1 - (48 : Int32))), .val (.int (0 : Int32)), .val (.int (0 : Int32))] [])) _
          refine XS.iloadN X0.here hx rfl (hb hby d2_59) rfl ?_
          show Steps p.tables e below (s₁.setTop (mkF m 60 #[.val (.int u1), .val (.int ((u1 ||| (32 : Int32)) - (97 : Int32))), .val (.int (0 : Int32)), .val (.int (u1 - (48 : Int32))), .val (.int (0 : Int32)), .val (.int (0 : Int32))] [(.int (0 : Int32))])) _
          refine XS.ifNo X0.here hx rfl (hb hby d2_60) rfl ((if0 _ _).trans (teq (by decide)).2) ?_
          show Steps p.tables e below (s₁.setTop (mkF m 63 #[.val (.int u1), .val (.int ((u1 ||| (32 : Int32)) - (97 : Int32))), .val (.int (0 : Int32)), .val (.int (u1 - (48 : Int32))), .val (.int (0 : Int32)), .val (.int (0 : Int32))] [])) _
          refine XS.iload X0.here hx rfl (hb hby d2_63) rfl ?_
          show Steps p.tables e below (s₁.setTop (mkF m 65 #[.val (.int u1), .val (.int ((u1 ||| (32 : Int32)) - (97 : Int32))), .val (.int (0 : Int32)), .val (.int (u1 - (48 : Int32))), .val (.int (0 : Int32)), .val (.int (0 : Int32))] [(.int (0 : Int32))])) _
          refine XS.ifNo X0.here hx rfl (hb hby d2_65) rfl ((if0 _ _).trans (teq (by decide)).2) ?_
          show Steps p.tables e below (s₁.setTop (mkF m 68 #[.val (.int u1), .val (.int ((u1 ||| (32 : Int32)) - (97 : Int32))), .val (.int (0 : Int32)), .val (.int (u1 - (48 : Int32))), .val (.int (0 : Int32)), .val (.int (0 : Int32))] [])) _
          refine XS.iload X0.here hx rfl (hb hby d2_68) rfl ?_
          show Steps p.tables e below (s₁.setTop (mkF m 70 #[.val (.int u1), .val (.int ((u1 ||| (32 : Int32)) - (97 : Int32))), .val (.int (0 : Int32)), .val (.int (u1 - (48 : Int32))), .val (.int (0 : Int32)), .val (.int (0 : Int32))] [(.int (0 : Int32))])) _
          refine XS.ifYes X0.here hx rfl (pc0 := 70) (pc' := 77) rfl (hb hby d2_70) rfl ((if0 _ _).trans (teq (by decide)).1) (by decide) (by decide) ?_
          show Steps p.tables e below (s₁.setTop (mkF m 77 #[.val (.int u1), .val (.int ((u1 ||| (32 : Int32)) - (97 : Int32))), .val (.int (0 : Int32)), .val (.int (u1 - (48 : Int32))), .val (.int (0 : Int32)), .val (.int (0 : Int32))] [])) _
          refine XS.iconst X0.here hx rfl (hb hby d2_77) ?_
          show Steps p.tables e below (s₁.setTop (mkF m 78 #[.val (.int u1), .val (.int ((u1 ||| (32 : Int32)) - (97 : Int32))), .val (.int (0 : Int32)), .val (.int (u1 - (48 : Int32))), .val (.int (0 : Int32)), .val (.int (0 : Int32))] [(.int (0 : Int32))])) _
          exact retN X0 hx (t := .boolean) Bd.returns (by simp) (hb hby d2_78) hr
        · show Q2 Z u1 h0 n0 _ s₁.heap _
          rw [e0]
          exact ⟨by rw [own_exp, if_pos hc9_1, if_pos hc30_2, if_neg hc49_3], N0, rfl⟩
    · refine own_go (B := s₁.setTop (mkF m 36 #[.val (.int u1), .val (.int ((u1 ||| (32 : Int32)) - (97 : Int32))), .val (.int (0 : Int32)), .val (.int (u1 - (48 : Int32))), .unset, .unset] [(.int (10 : Int32)), (.int (u1 - (48 : Int32)))])) (fun t k => ?_) ?_
      · show Steps p.tables e below (s₁.setTop (mkF m 30 #[.val (.int u1), .val (.int ((u1 ||| (32 : Int32)) - (97 : Int32))), .val (.int (0 : Int32)), .val (.int (u1 - (48 : Int32))), .unset, .unset] [(.int (u1 - (48 : Int32)))])) _
        refine XS.ifNo X0.here hx rfl (hb hby d2_30) rfl ((if0 _ _).trans (flt hc30_2).1) ?_
        show Steps p.tables e below (s₁.setTop (mkF m 33 #[.val (.int u1), .val (.int ((u1 ||| (32 : Int32)) - (97 : Int32))), .val (.int (0 : Int32)), .val (.int (u1 - (48 : Int32))), .unset, .unset] [])) _
        refine XS.iloadN X0.here hx rfl (hb hby d2_33) rfl ?_
        show Steps p.tables e below (s₁.setTop (mkF m 34 #[.val (.int u1), .val (.int ((u1 ||| (32 : Int32)) - (97 : Int32))), .val (.int (0 : Int32)), .val (.int (u1 - (48 : Int32))), .unset, .unset] [(.int (u1 - (48 : Int32)))])) _
        refine XS.bipush X0.here hx rfl (hb hby d2_34) ?_
        exact k
      by_cases hc36_4 : (u1 - (48 : Int32)) < (10 : Int32)
      · refine own_go (B := s₁.setTop (mkF m 49 #[.val (.int u1), .val (.int ((u1 ||| (32 : Int32)) - (97 : Int32))), .val (.int (0 : Int32)), .val (.int (u1 - (48 : Int32))), .val (.int (1 : Int32)), .unset] [(.int (95 : Int32)), (.int u1)])) (fun t k => ?_) ?_
        · show Steps p.tables e below (s₁.setTop (mkF m 36 #[.val (.int u1), .val (.int ((u1 ||| (32 : Int32)) - (97 : Int32))), .val (.int (0 : Int32)), .val (.int (u1 - (48 : Int32))), .unset, .unset] [(.int (10 : Int32)), (.int (u1 - (48 : Int32)))])) _
          refine XS.icmpNo X0.here hx rfl (hb hby d2_36) rfl (tlt hc36_4).2.1 ?_
          show Steps p.tables e below (s₁.setTop (mkF m 39 #[.val (.int u1), .val (.int ((u1 ||| (32 : Int32)) - (97 : Int32))), .val (.int (0 : Int32)), .val (.int (u1 - (48 : Int32))), .unset, .unset] [])) _
          refine XS.iconst X0.here hx rfl (hb hby d2_39) ?_
          show Steps p.tables e below (s₁.setTop (mkF m 40 #[.val (.int u1), .val (.int ((u1 ||| (32 : Int32)) - (97 : Int32))), .val (.int (0 : Int32)), .val (.int (u1 - (48 : Int32))), .unset, .unset] [(.int (1 : Int32))])) _
          refine XS.goto X0.here hx rfl (pc0 := 40) (pc' := 44) rfl (hb hby d2_40) (by decide) (by decide) ?_
          show Steps p.tables e below (s₁.setTop (mkF m 44 #[.val (.int u1), .val (.int ((u1 ||| (32 : Int32)) - (97 : Int32))), .val (.int (0 : Int32)), .val (.int (u1 - (48 : Int32))), .unset, .unset] [(.int (1 : Int32))])) _
          refine XS.istore X0.here hx rfl (hb hby d2_44) rfl (l' := #[.val (.int u1), .val (.int ((u1 ||| (32 : Int32)) - (97 : Int32))), .val (.int (0 : Int32)), .val (.int (u1 - (48 : Int32))), .val (.int (1 : Int32)), .unset]) rfl ?_
          show Steps p.tables e below (s₁.setTop (mkF m 46 #[.val (.int u1), .val (.int ((u1 ||| (32 : Int32)) - (97 : Int32))), .val (.int (0 : Int32)), .val (.int (u1 - (48 : Int32))), .val (.int (1 : Int32)), .unset] [])) _
          refine XS.iloadN X0.here hx rfl (hb hby d2_46) rfl ?_
          show Steps p.tables e below (s₁.setTop (mkF m 47 #[.val (.int u1), .val (.int ((u1 ||| (32 : Int32)) - (97 : Int32))), .val (.int (0 : Int32)), .val (.int (u1 - (48 : Int32))), .val (.int (1 : Int32)), .unset] [(.int u1)])) _
          refine XS.bipush X0.here hx rfl (hb hby d2_47) ?_
          exact k
        by_cases hc49_5 : u1 = (95 : Int32)
        · obtain ⟨fs, hr, hrun, hended, hW, hsame⟩ := X0.leave (v := some (.int (1 : Int32))) (fun h => by rw [Bd.returns] at h; cases h)
          refine ⟨_, _, ?_, hrun, hended, _, _, rfl, ?_, ⟨_, rfl⟩, hW, hsame.mono (by decide) (by decide)⟩
          · show Steps p.tables e below (s₁.setTop (mkF m 49 #[.val (.int u1), .val (.int ((u1 ||| (32 : Int32)) - (97 : Int32))), .val (.int (0 : Int32)), .val (.int (u1 - (48 : Int32))), .val (.int (1 : Int32)), .unset] [(.int (95 : Int32)), (.int u1)])) _
            refine XS.icmpNo X0.here hx rfl (hb hby d2_49) rfl (teq hc49_5).2 ?_
            show Steps p.tables e below (s₁.setTop (mkF m 52 #[.val (.int u1), .val (.int ((u1 ||| (32 : Int32)) - (97 : Int32))), .val (.int (0 : Int32)), .val (.int (u1 - (48 : Int32))), .val (.int (1 : Int32)), .unset] [])) _
            refine XS.iconst X0.here hx rfl (hb hby d2_52) ?_
            show Steps p.tables e below (s₁.setTop (mkF m 53 #[.val (.int u1), .val (.int ((u1 ||| (32 : Int32)) - (97 : Int32))), .val (.int (0 : Int32)), .val (.int (u1 - (48 : Int32))), .val (.int (1 : Int32)), .unset] [(.int (1 : Int32))])) _
            refine XS.goto X0.here hx rfl (pc0 := 53) (pc' := 57) rfl (hb hby d2_53) (by decide) (by decide) ?_
            show Steps p.tables e below (s₁.setTop (mkF m 57 #[.val (.int u1), .val (.int ((u1 ||| (32 : Int32)) - (97 : Int32))), .val (.int (0 : Int32)), .val (.int (u1 - (48 : Int32))), .val (.int (1 : Int32)), .unset] [(.int (1 : Int32))])) _
            refine XS.istore X0.here hx rfl (hb hby d2_57) rfl (l' := #[.val (.int u1), .val (.int ((u1 ||| (32 : Int32)) - (97 : Int32))), .val (.int (0 : Int32)), .val (.int (u1 - (48 : Int32))), .val (.int (1 : Int32)), .val (.int (1 : Int32))]) rfl ?_
            show Steps p.tables e below (s₁.setTop (mkF m 59 #[.val (.int u1), .val (.int ((u1 ||| (32 : Int32)) - (97 : Int32))), .val (.int (0 : Int32)), .val (.int (u1 - (48 : Int32))), .val (.int (1 : Int32)), .val (.int (1 : Int32))] [])) _
            refine XS.iloadN X0.here hx rfl (hb hby d2_59) rfl ?_
            show Steps p.tables e below (s₁.setTop (mkF m 60 #[.val (.int u1), .val (.int ((u1 ||| (32 : Int32)) - (97 : Int32))), .val (.int (0 : Int32)), .val (.int (u1 - (48 : Int32))), .val (.int (1 : Int32)), .val (.int (1 : Int32))] [(.int (0 : Int32))])) _
            refine XS.ifNo X0.here hx rfl (hb hby d2_60) rfl ((if0 _ _).trans (teq (by decide)).2) ?_
            show Steps p.tables e below (s₁.setTop (mkF m 63 #[.val (.int u1), .val (.int ((u1 ||| (32 : Int32)) - (97 : Int32))), .val (.int (0 : Int32)), .val (.int (u1 - (48 : Int32))), .val (.int (1 : Int32)), .val (.int (1 : Int32))] [])) _
            refine XS.iload X0.here hx rfl (hb hby d2_63) rfl ?_
            show Steps p.tables e below (s₁.setTop (mkF m 65 #[.val (.int u1), .val (.int ((u1 ||| (32 : Int32)) - (97 : Int32))), .val (.int (0 : Int32)), .val (.int (u1 - (48 : Int32))), .val (.int (1 : Int32)), .val (.int (1 : Int32))] [(.int (1 : Int32))])) _
            refine XS.ifYes X0.here hx rfl (pc0 := 65) (pc' := 73) rfl (hb hby d2_65) rfl ((if0 _ _).trans (feq (by decide)).2) (by decide) (by decide) ?_
            show Steps p.tables e below (s₁.setTop (mkF m 73 #[.val (.int u1), .val (.int ((u1 ||| (32 : Int32)) - (97 : Int32))), .val (.int (0 : Int32)), .val (.int (u1 - (48 : Int32))), .val (.int (1 : Int32)), .val (.int (1 : Int32))] [])) _
            refine XS.iconst X0.here hx rfl (hb hby d2_73) ?_
            show Steps p.tables e below (s₁.setTop (mkF m 74 #[.val (.int u1), .val (.int ((u1 ||| (32 : Int32)) - (97 : Int32))), .val (.int (0 : Int32)), .val (.int (u1 - (48 : Int32))), .val (.int (1 : Int32)), .val (.int (1 : Int32))] [(.int (1 : Int32))])) _
            refine XS.goto X0.here hx rfl (pc0 := 74) (pc' := 78) rfl (hb hby d2_74) (by decide) (by decide) ?_
            show Steps p.tables e below (s₁.setTop (mkF m 78 #[.val (.int u1), .val (.int ((u1 ||| (32 : Int32)) - (97 : Int32))), .val (.int (0 : Int32)), .val (.int (u1 - (48 : Int32))), .val (.int (1 : Int32)), .val (.int (1 : Int32))] [(.int (1 : Int32))])) _
            exact retN X0 hx (t := .boolean) Bd.returns (by simp) (hb hby d2_78) hr
          · show Q2 Z u1 h0 n0 _ s₁.heap _
            rw [e0]
            exact ⟨by rw [own_exp, if_pos hc9_1, if_neg hc30_2, if_pos hc36_4, if_pos hc49_5], N0, rfl⟩
        · obtain ⟨fs, hr, hrun, hended, hW, hsame⟩ := X0.leave (v := some (.int (1 : Int32))) (fun h => by rw [Bd.returns] at h; cases h)
          refine ⟨_, _, ?_, hrun, hended, _, _, rfl, ?_, ⟨_, rfl⟩, hW, hsame.mono (by decide) (by decide)⟩
          · show Steps p.tables e below (s₁.setTop (mkF m 49 #[.val (.int u1), .val (.int ((u1 ||| (32 : Int32)) - (97 : Int32))), .val (.int (0 : Int32)), .val (.int (u1 - (48 : Int32))), .val (.int (1 : Int32)), .unset] [(.int (95 : Int32)), (.int u1)])) _
            refine XS.icmpYes X0.here hx rfl (pc0 := 49) (pc' := 56) rfl (hb hby d2_49) rfl (feq hc49_5).2 (by decide) (by decide) ?_
            show Steps p.tables e below (s₁.setTop (mkF m 56 #[.val (.int u1), .val (.int ((u1 ||| (32 : Int32)) - (97 : Int32))), .val (.int (0 : Int32)), .val (.int (u1 - (48 : Int32))), .val (.int (1 : Int32)), .unset] [])) _
            refine XS.iconst X0.here hx rfl (hb hby d2_56) ?_
            show Steps p.tables e below (s₁.setTop (mkF m 57 #[.val (.int u1), .val (.int ((u1 ||| (32 : Int32)) - (97 : Int32))), .val (.int (0 : Int32)), .val (.int (u1 - (48 : Int32))), .val (.int (1 : Int32)), .unset] [(.int (0 : Int32))])) _
            refine XS.istore X0.here hx rfl (hb hby d2_57) rfl (l' := #[.val (.int u1), .val (.int ((u1 ||| (32 : Int32)) - (97 : Int32))), .val (.int (0 : Int32)), .val (.int (u1 - (48 : Int32))), .val (.int (1 : Int32)), .val (.int (0 : Int32))]) rfl ?_
            show Steps p.tables e below (s₁.setTop (mkF m 59 #[.val (.int u1), .val (.int ((u1 ||| (32 : Int32)) - (97 : Int32))), .val (.int (0 : Int32)), .val (.int (u1 - (48 : Int32))), .val (.int (1 : Int32)), .val (.int (0 : Int32))] [])) _
            refine XS.iloadN X0.here hx rfl (hb hby d2_59) rfl ?_
            show Steps p.tables e below (s₁.setTop (mkF m 60 #[.val (.int u1), .val (.int ((u1 ||| (32 : Int32)) - (97 : Int32))), .val (.int (0 : Int32)), .val (.int (u1 - (48 : Int32))), .val (.int (1 : Int32)), .val (.int (0 : Int32))] [(.int (0 : Int32))])) _
            refine XS.ifNo X0.here hx rfl (hb hby d2_60) rfl ((if0 _ _).trans (teq (by decide)).2) ?_
            show Steps p.tables e below (s₁.setTop (mkF m 63 #[.val (.int u1), .val (.int ((u1 ||| (32 : Int32)) - (97 : Int32))), .val (.int (0 : Int32)), .val (.int (u1 - (48 : Int32))), .val (.int (1 : Int32)), .val (.int (0 : Int32))] [])) _
            refine XS.iload X0.here hx rfl (hb hby d2_63) rfl ?_
            show Steps p.tables e below (s₁.setTop (mkF m 65 #[.val (.int u1), .val (.int ((u1 ||| (32 : Int32)) - (97 : Int32))), .val (.int (0 : Int32)), .val (.int (u1 - (48 : Int32))), .val (.int (1 : Int32)), .val (.int (0 : Int32))] [(.int (1 : Int32))])) _
            refine XS.ifYes X0.here hx rfl (pc0 := 65) (pc' := 73) rfl (hb hby d2_65) rfl ((if0 _ _).trans (feq (by decide)).2) (by decide) (by decide) ?_
            show Steps p.tables e below (s₁.setTop (mkF m 73 #[.val (.int u1), .val (.int ((u1 ||| (32 : Int32)) - (97 : Int32))), .val (.int (0 : Int32)), .val (.int (u1 - (48 : Int32))), .val (.int (1 : Int32)), .val (.int (0 : Int32))] [])) _
            refine XS.iconst X0.here hx rfl (hb hby d2_73) ?_
            show Steps p.tables e below (s₁.setTop (mkF m 74 #[.val (.int u1), .val (.int ((u1 ||| (32 : Int32)) - (97 : Int32))), .val (.int (0 : Int32)), .val (.int (u1 - (48 : Int32))), .val (.int (1 : Int32)), .val (.int (0 : Int32))] [(.int (1 : Int32))])) _
            refine XS.goto X0.here hx rfl (pc0 := 74) (pc' := 78) rfl (hb hby d2_74) (by decide) (by decide) ?_
            show Steps p.tables e below (s₁.setTop (mkF m 78 #[.val (.int u1), .val (.int ((u1 ||| (32 : Int32)) - (97 : Int32))), .val (.int (0 : Int32)), .val (.int (u1 - (48 : Int32))), .val (.int (1 : Int32)), .val (.int (0 : Int32))] [(.int (1 : Int32))])) _
            exact retN X0 hx (t := .boolean) Bd.returns (by simp) (hb hby d2_78) hr
          · show Q2 Z u1 h0 n0 _ s₁.heap _
            rw [e0]
            exact ⟨by rw [own_exp, if_pos hc9_1, if_neg hc30_2, if_pos hc36_4, if_neg hc49_5], N0, rfl⟩
      · refine own_go (B := s₁.setTop (mkF m 49 #[.val (.int u1), .val (.int ((u1 ||| (32 : Int32)) - (97 : Int32))), .val (.int (0 : Int32)), .val (.int (u1 - (48 : Int32))), .val (.int (0 : Int32)), .unset] [(.int (95 : Int32)), (.int u1)])) (fun t k => ?_) ?_
        · show Steps p.tables e below (s₁.setTop (mkF m 36 #[.val (.int u1), .val (.int ((u1 ||| (32 : Int32)) - (97 : Int32))), .val (.int (0 : Int32)), .val (.int (u1 - (48 : Int32))), .unset, .unset] [(.int (10 : Int32)), (.int (u1 - (48 : Int32)))])) _
          refine XS.icmpYes X0.here hx rfl (pc0 := 36) (pc' := 43) rfl (hb hby d2_36) rfl (flt hc36_4).2.1 (by decide) (by decide) ?_
          show Steps p.tables e below (s₁.setTop (mkF m 43 #[.val (.int u1), .val (.int ((u1 ||| (32 : Int32)) - (97 : Int32))), .val (.int (0 : Int32)), .val (.int (u1 - (48 : Int32))), .unset, .unset] [])) _
          refine XS.iconst X0.here hx rfl (hb hby d2_43) ?_
          show Steps p.tables e below (s₁.setTop (mkF m 44 #[.val (.int u1), .val (.int ((u1 ||| (32 : Int32)) - (97 : Int32))), .val (.int (0 : Int32)), .val (.int (u1 - (48 : Int32))), .unset, .unset] [(.int (0 : Int32))])) _
          refine XS.istore X0.here hx rfl (hb hby d2_44) rfl (l' := #[.val (.int u1), .val (.int ((u1 ||| (32 : Int32)) - (97 : Int32))), .val (.int (0 : Int32)), .val (.int (u1 - (48 : Int32))), .val (.int (0 : Int32)), .unset]) rfl ?_
          show Steps p.tables e below (s₁.setTop (mkF m 46 #[.val (.int u1), .val (.int ((u1 ||| (32 : Int32)) - (97 : Int32))), .val (.int (0 : Int32)), .val (.int (u1 - (48 : Int32))), .val (.int (0 : Int32)), .unset] [])) _
          refine XS.iloadN X0.here hx rfl (hb hby d2_46) rfl ?_
          show Steps p.tables e below (s₁.setTop (mkF m 47 #[.val (.int u1), .val (.int ((u1 ||| (32 : Int32)) - (97 : Int32))), .val (.int (0 : Int32)), .val (.int (u1 - (48 : Int32))), .val (.int (0 : Int32)), .unset] [(.int u1)])) _
          refine XS.bipush X0.here hx rfl (hb hby d2_47) ?_
          exact k
        by_cases hc49_6 : u1 = (95 : Int32)
        · obtain ⟨fs, hr, hrun, hended, hW, hsame⟩ := X0.leave (v := some (.int (1 : Int32))) (fun h => by rw [Bd.returns] at h; cases h)
          refine ⟨_, _, ?_, hrun, hended, _, _, rfl, ?_, ⟨_, rfl⟩, hW, hsame.mono (by decide) (by decide)⟩
          · show Steps p.tables e below (s₁.setTop (mkF m 49 #[.val (.int u1), .val (.int ((u1 ||| (32 : Int32)) - (97 : Int32))), .val (.int (0 : Int32)), .val (.int (u1 - (48 : Int32))), .val (.int (0 : Int32)), .unset] [(.int (95 : Int32)), (.int u1)])) _
            refine XS.icmpNo X0.here hx rfl (hb hby d2_49) rfl (teq hc49_6).2 ?_
            show Steps p.tables e below (s₁.setTop (mkF m 52 #[.val (.int u1), .val (.int ((u1 ||| (32 : Int32)) - (97 : Int32))), .val (.int (0 : Int32)), .val (.int (u1 - (48 : Int32))), .val (.int (0 : Int32)), .unset] [])) _
            refine XS.iconst X0.here hx rfl (hb hby d2_52) ?_
            show Steps p.tables e below (s₁.setTop (mkF m 53 #[.val (.int u1), .val (.int ((u1 ||| (32 : Int32)) - (97 : Int32))), .val (.int (0 : Int32)), .val (.int (u1 - (48 : Int32))), .val (.int (0 : Int32)), .unset] [(.int (1 : Int32))])) _
            refine XS.goto X0.here hx rfl (pc0 := 53) (pc' := 57) rfl (hb hby d2_53) (by decide) (by decide) ?_
            show Steps p.tables e below (s₁.setTop (mkF m 57 #[.val (.int u1), .val (.int ((u1 ||| (32 : Int32)) - (97 : Int32))), .val (.int (0 : Int32)), .val (.int (u1 - (48 : Int32))), .val (.int (0 : Int32)), .unset] [(.int (1 : Int32))])) _
            refine XS.istore X0.here hx rfl (hb hby d2_57) rfl (l' := #[.val (.int u1), .val (.int ((u1 ||| (32 : Int32)) - (97 : Int32))), .val (.int (0 : Int32)), .val (.int (u1 - (48 : Int32))), .val (.int (0 : Int32)), .val (.int (1 : Int32))]) rfl ?_
            show Steps p.tables e below (s₁.setTop (mkF m 59 #[.val (.int u1), .val (.int ((u1 ||| (32 : Int32)) - (97 : Int32))), .val (.int (0 : Int32)), .val (.int (u1 - (48 : Int32))), .val (.int (0 : Int32)), .val (.int (1 : Int32))] [])) _
            refine XS.iloadN X0.here hx rfl (hb hby d2_59) rfl ?_
            show Steps p.tables e below (s₁.setTop (mkF m 60 #[.val (.int u1), .val (.int ((u1 ||| (32 : Int32)) - (97 : Int32))), .val (.int (0 : Int32)), .val (.int (u1 - (48 : Int32))), .val (.int (0 : Int32)), .val (.int (1 : Int32))] [(.int (0 : Int32))])) _
            refine XS.ifNo X0.here hx rfl (hb hby d2_60) rfl ((if0 _ _).trans (teq (by decide)).2) ?_
            show Steps p.tables e below (s₁.setTop (mkF m 63 #[.val (.int u1), .val (.int ((u1 ||| (32 : Int32)) - (97 : Int32))), .val (.int (0 : Int32)), .val (.int (u1 - (48 : Int32))), .val (.int (0 : Int32)), .val (.int (1 : Int32))] [])) _
            refine XS.iload X0.here hx rfl (hb hby d2_63) rfl ?_
            show Steps p.tables e below (s₁.setTop (mkF m 65 #[.val (.int u1), .val (.int ((u1 ||| (32 : Int32)) - (97 : Int32))), .val (.int (0 : Int32)), .val (.int (u1 - (48 : Int32))), .val (.int (0 : Int32)), .val (.int (1 : Int32))] [(.int (0 : Int32))])) _
            refine XS.ifNo X0.here hx rfl (hb hby d2_65) rfl ((if0 _ _).trans (teq (by decide)).2) ?_
            show Steps p.tables e below (s₁.setTop (mkF m 68 #[.val (.int u1), .val (.int ((u1 ||| (32 : Int32)) - (97 : Int32))), .val (.int (0 : Int32)), .val (.int (u1 - (48 : Int32))), .val (.int (0 : Int32)), .val (.int (1 : Int32))] [])) _
            refine XS.iload X0.here hx rfl (hb hby d2_68) rfl ?_
            show Steps p.tables e below (s₁.setTop (mkF m 70 #[.val (.int u1), .val (.int ((u1 ||| (32 : Int32)) - (97 : Int32))), .val (.int (0 : Int32)), .val (.int (u1 - (48 : Int32))), .val (.int (0 : Int32)), .val (.int (1 : Int32))] [(.int (1 : Int32))])) _
            refine XS.ifNo X0.here hx rfl (hb hby d2_70) rfl ((if0 _ _).trans (feq (by decide)).1) ?_
            show Steps p.tables e below (s₁.setTop (mkF m 73 #[.val (.int u1), .val (.int ((u1 ||| (32 : Int32)) - (97 : Int32))), .val (.int (0 : Int32)), .val (.int (u1 - (48 : Int32))), .val (.int (0 : Int32)), .val (.int (1 : Int32))] [])) _
            refine XS.iconst X0.here hx rfl (hb hby d2_73) ?_
            show Steps p.tables e below (s₁.setTop (mkF m 74 #[.val (.int u1), .val (.int ((u1 ||| (32 : Int32)) - (97 : Int32))), .val (.int (0 : Int32)), .val (.int (u1 - (48 : Int32))), .val (.int (0 : Int32)), .val (.int (1 : Int32))] [(.int (1 : Int32))])) _
            refine XS.goto X0.here hx rfl (pc0 := 74) (pc' := 78) rfl (hb hby d2_74) (by decide) (by decide) ?_
            show Steps p.tables e below (s₁.setTop (mkF m 78 #[.val (.int u1), .val (.int ((u1 ||| (32 : Int32)) - (97 : Int32))), .val (.int (0 : Int32)), .val (.int (u1 - (48 : Int32))), .val (.int (0 : Int32)), .val (.int (1 : Int32))] [(.int (1 : Int32))])) _
            exact retN X0 hx (t := .boolean) Bd.returns (by simp) (hb hby d2_78) hr
          · show Q2 Z u1 h0 n0 _ s₁.heap _
            rw [e0]
            exact ⟨by rw [own_exp, if_pos hc9_1, if_neg hc30_2, if_neg hc36_4, if_pos hc49_6], N0, rfl⟩
        · obtain ⟨fs, hr, hrun, hended, hW, hsame⟩ := X0.leave (v := some (.int (0 : Int32))) (fun h => by rw [Bd.returns] at h; cases h)
          refine ⟨_, _, ?_, hrun, hended, _, _, rfl, ?_, ⟨_, rfl⟩, hW, hsame.mono (by decide) (by decide)⟩
          · show Steps p.tables e below (s₁.setTop (mkF m 49 #[.val (.int u1), .val (.int ((u1 ||| (32 : Int32)) - (97 : Int32))), .val (.int (0 : Int32)), .val (.int (u1 - (48 : Int32))), .val (.int (0 : Int32)), .unset] [(.int (95 : Int32)), (.int u1)])) _
            refine XS.icmpYes X0.here hx rfl (pc0 := 49) (pc' := 56) rfl (hb hby d2_49) rfl (feq hc49_6).2 (by decide) (by decide) ?_
            show Steps p.tables e below (s₁.setTop (mkF m 56 #[.val (.int u1), .val (.int ((u1 ||| (32 : Int32)) - (97 : Int32))), .val (.int (0 : Int32)), .val (.int (u1 - (48 : Int32))), .val (.int (0 : Int32)), .unset] [])) _
            refine XS.iconst X0.here hx rfl (hb hby d2_56) ?_
            show Steps p.tables e below (s₁.setTop (mkF m 57 #[.val (.int u1), .val (.int ((u1 ||| (32 : Int32)) - (97 : Int32))), .val (.int (0 : Int32)), .val (.int (u1 - (48 : Int32))), .val (.int (0 : Int32)), .unset] [(.int (0 : Int32))])) _
            refine XS.istore X0.here hx rfl (hb hby d2_57) rfl (l' := #[.val (.int u1), .val (.int ((u1 ||| (32 : Int32)) - (97 : Int32))), .val (.int (0 : Int32)), .val (.int (u1 - (48 : Int32))), .val (.int (0 : Int32)), .val (.int (0 : Int32))]) rfl ?_
            show Steps p.tables e below (s₁.setTop (mkF m 59 #[.val (.int u1), .val (.int ((u1 ||| (32 : Int32)) - (97 : Int32))), .val (.int (0 : Int32)), .val (.int (u1 - (48 : Int32))), .val (.int (0 : Int32)), .val (.int (0 : Int32))] [])) _
            refine XS.iloadN X0.here hx rfl (hb hby d2_59) rfl ?_
            show Steps p.tables e below (s₁.setTop (mkF m 60 #[.val (.int u1), .val (.int ((u1 ||| (32 : Int32)) - (97 : Int32))), .val (.int (0 : Int32)), .val (.int (u1 - (48 : Int32))), .val (.int (0 : Int32)), .val (.int (0 : Int32))] [(.int (0 : Int32))])) _
            refine XS.ifNo X0.here hx rfl (hb hby d2_60) rfl ((if0 _ _).trans (teq (by decide)).2) ?_
            show Steps p.tables e below (s₁.setTop (mkF m 63 #[.val (.int u1), .val (.int ((u1 ||| (32 : Int32)) - (97 : Int32))), .val (.int (0 : Int32)), .val (.int (u1 - (48 : Int32))), .val (.int (0 : Int32)), .val (.int (0 : Int32))] [])) _
            refine XS.iload X0.here hx rfl (hb hby d2_63) rfl ?_
            show Steps p.tables e below (s₁.setTop (mkF m 65 #[.val (.int u1), .val (.int ((u1 ||| (32 : Int32)) - (97 : Int32))), .val (.int (0 : Int32)), .val (.int (u1 - (48 : Int32))), .val (.int (0 : Int32)), .val (.int (0 : Int32))] [(.int (0 : Int32))])) _
            refine XS.ifNo X0.here hx rfl (hb hby d2_65) rfl ((if0 _ _).trans (teq (by decide)).2) ?_
            show Steps p.tables e below (s₁.setTop (mkF m 68 #[.val (.int u1), .val (.int ((u1 ||| (32 : Int32)) - (97 : Int32))), .val (.int (0 : Int32)), .val (.int (u1 - (48 : Int32))), .val (.int (0 : Int32)), .val (.int (0 : Int32))] [])) _
            refine XS.iload X0.here hx rfl (hb hby d2_68) rfl ?_
            show Steps p.tables e below (s₁.setTop (mkF m 70 #[.val (.int u1), .val (.int ((u1 ||| (32 : Int32)) - (97 : Int32))), .val (.int (0 : Int32)), .val (.int (u1 - (48 : Int32))), .val (.int (0 : Int32)), .val (.int (0 : Int32))] [(.int (0 : Int32))])) _
            refine XS.ifYes X0.here hx rfl (pc0 := 70) (pc' := 77) rfl (hb hby d2_70) rfl ((if0 _ _).trans (teq (by decide)).1) (by decide) (by decide) ?_
            show Steps p.tables e below (s₁.setTop (mkF m 77 #[.val (.int u1), .val (.int ((u1 ||| (32 : Int32)) - (97 : Int32))), .val (.int (0 : Int32)), .val (.int (u1 - (48 : Int32))), .val (.int (0 : Int32)), .val (.int (0 : Int32))] [])) _
            refine XS.iconst X0.here hx rfl (hb hby d2_77) ?_
            show Steps p.tables e below (s₁.setTop (mkF m 78 #[.val (.int u1), .val (.int ((u1 ||| (32 : Int32)) - (97 : Int32))), .val (.int (0 : Int32)), .val (.int (u1 - (48 : Int32))), .val (.int (0 : Int32)), .val (.int (0 : Int32))] [(.int (0 : Int32))])) _
            exact retN X0 hx (t := .boolean) Bd.returns (by simp) (hb hby d2_78) hr
          · show Q2 Z u1 h0 n0 _ s₁.heap _
            rw [e0]
            exact ⟨by rw [own_exp, if_pos hc9_1, if_neg hc30_2, if_neg hc36_4, if_neg hc49_6], N0, rfl⟩
  · refine own_go (B := s₁.setTop (mkF m 15 #[.val (.int u1), .val (.int ((u1 ||| (32 : Int32)) - (97 : Int32))), .unset, .unset, .unset, .unset] [(.int (26 : Int32)), (.int ((u1 ||| (32 : Int32)) - (97 : Int32)))])) (fun t k => ?_) ?_
    · show Steps p.tables e below (s₁.setTop (mkF m 9 #[.val (.int u1), .val (.int ((u1 ||| (32 : Int32)) - (97 : Int32))), .unset, .unset, .unset, .unset] [(.int ((u1 ||| (32 : Int32)) - (97 : Int32)))])) _
      refine XS.ifNo X0.here hx rfl (hb hby d2_9) rfl ((if0 _ _).trans (flt hc9_1).1) ?_
      show Steps p.tables e below (s₁.setTop (mkF m 12 #[.val (.int u1), .val (.int ((u1 ||| (32 : Int32)) - (97 : Int32))), .unset, .unset, .unset, .unset] [])) _
      refine XS.iloadN X0.here hx rfl (hb hby d2_12) rfl ?_
      show Steps p.tables e below (s₁.setTop (mkF m 13 #[.val (.int u1), .val (.int ((u1 ||| (32 : Int32)) - (97 : Int32))), .unset, .unset, .unset, .unset] [(.int ((u1 ||| (32 : Int32)) - (97 : Int32)))])) _
      refine XS.bipush X0.here hx rfl (hb hby d2_13) ?_
      exact k
    by_cases hc15_7 : ((u1 ||| (32 : Int32)) - (97 : Int32)) < (26 : Int32)
    · refine own_go (B := s₁.setTop (mkF m 30 #[.val (.int u1), .val (.int ((u1 ||| (32 : Int32)) - (97 : Int32))), .val (.int (1 : Int32)), .val (.int (u1 - (48 : Int32))), .unset, .unset] [(.int (u1 - (48 : Int32)))])) (fun t k => ?_) ?_
      · show Steps p.tables e below (s₁.setTop (mkF m 15 #[.val (.int u1), .val (.int ((u1 ||| (32 : Int32)) - (97 : Int32))), .unset, .unset, .unset, .unset] [(.int (26 : Int32)), (.int ((u1 ||| (32 : Int32)) - (97 : Int32)))])) _
        refine XS.icmpNo X0.here hx rfl (hb hby d2_15) rfl (tlt hc15_7).2.1 ?_
        show Steps p.tables e below (s₁.setTop (mkF m 18 #[.val (.int u1), .val (.int ((u1 ||| (32 : Int32)) - (97 : Int32))), .unset, .unset, .unset, .unset] [])) _
        refine XS.iconst X0.here hx rfl (hb hby d2_18) ?_
        show Steps p.tables e below (s₁.setTop (mkF m 19 #[.val (.int u1), .val (.int ((u1 ||| (32 : Int32)) - (97 : Int32))), .unset, .unset, .unset, .unset] [(.int (1 : Int32))])) _
        refine XS.goto X0.here hx rfl (pc0 := 19) (pc' := 23) rfl (hb hby d2_19) (by decide) (by decide) ?_
        show Steps p.tables e below (s₁.setTop (mkF m 23 #[.val (.int u1), .val (.int ((u1 ||| (32 : Int32)) - (97 : Int32))), .unset, .unset, .unset, .unset] [(.int (1 : Int32))])) _
        refine XS.istoreN X0.here hx rfl (hb hby d2_23) rfl (l' := #[.val (.int u1), .val (.int ((u1 ||| (32 : Int32)) - (97 : Int32))), .val (.int (1 : Int32)), .unset, .unset, .unset]) rfl ?_
        show Steps p.tables e below (s₁.setTop (mkF m 24 #[.val (.int u1), .val (.int ((u1 ||| (32 : Int32)) - (97 : Int32))), .val (.int (1 : Int32)), .unset, .unset, .unset] [])) _
        refine XS.iloadN X0.here hx rfl (hb hby d2_24) rfl ?_
        show Steps p.tables e below (s₁.setTop (mkF m 25 #[.val (.int u1), .val (.int ((u1 ||| (32 : Int32)) - (97 : Int32))), .val (.int (1 : Int32)), .unset, .unset, .unset] [(.int u1)])) _
        refine XS.bipush X0.here hx rfl (hb hby d2_25) ?_
        show Steps p.tables e below (s₁.setTop (mkF m 27 #[.val (.int u1), .val (.int ((u1 ||| (32 : Int32)) - (97 : Int32))), .val (.int (1 : Int32)), .unset, .unset, .unset] [(.int (48 : Int32)), (.int u1)])) _
        refine XS.isub X0.here hx rfl (hb hby d2_27) rfl ?_
        show Steps p.tables e below (s₁.setTop (mkF m 28 #[.val (.int u1), .val (.int ((u1 ||| (32 : Int32)) - (97 : Int32))), .val (.int (1 : Int32)), .unset, .unset, .unset] [(.int (u1 - (48 : Int32)))])) _
        refine XS.istoreN X0.here hx rfl (hb hby d2_28) rfl (l' := #[.val (.int u1), .val (.int ((u1 ||| (32 : Int32)) - (97 : Int32))), .val (.int (1 : Int32)), .val (.int (u1 - (48 : Int32))), .unset, .unset]) rfl ?_
        show Steps p.tables e below (s₁.setTop (mkF m 29 #[.val (.int u1), .val (.int ((u1 ||| (32 : Int32)) - (97 : Int32))), .val (.int (1 : Int32)), .val (.int (u1 - (48 : Int32))), .unset, .unset] [])) _
        refine XS.iloadN X0.here hx rfl (hb hby d2_29) rfl ?_
        exact k
      by_cases hc30_8 : (u1 - (48 : Int32)) < (0 : Int32)
      · refine own_go (B := s₁.setTop (mkF m 49 #[.val (.int u1), .val (.int ((u1 ||| (32 : Int32)) - (97 : Int32))), .val (.int (1 : Int32)), .val (.int (u1 - (48 : Int32))), .val (.int (0 : Int32)), .unset] [(.int (95 : Int32)), (.int u1)])) (fun t k => ?_) ?_
        · show Steps p.tables e below (s₁.setTop (mkF m 30 #[.val (.int u1), .val (.int ((u1 ||| (32 : Int32)) - (97 : Int32))), .val (.int (1 : Int32)), .val (.int (u1 - (48 : Int32))), .unset, .unset] [(.int (u1 - (48 : Int32)))])) _
          refine XS.ifYes X0.here hx rfl (pc0 := 30) (pc' := 43) rfl (hb hby d2_30) rfl ((if0 _ _).trans (tlt hc30_8).1) (by decide) (by decide) ?_
          show Steps p.tables e below (s₁.setTop (mkF m 43 #[.val (.int u1), .val (.int ((u1 ||| (32 : Int32)) - (97 : Int32))), .val (.int (1 : Int32)), .val (.int (u1 - (48 : Int32))), .unset, .unset] [])) _
          refine XS.iconst X0.here hx rfl (hb hby d2_43) ?_
          show Steps p.tables e below (s₁.setTop (mkF m 44 #[.val (.int u1), .val (.int ((u1 ||| (32 : Int32)) - (97 : Int32))), .val (.int (1 : Int32)), .val (.int (u1 - (48 : Int32))), .unset, .unset] [(.int (0 : Int32))])) _
          refine XS.istore X0.here hx rfl (hb hby d2_44) rfl (l' := #[.val (.int u1), .val (.int ((u1 ||| (32 : Int32)) - (97 : Int32))), .val (.int (1 : Int32)), .val (.int (u1 - (48 : Int32))), .val (.int (0 : Int32)), .unset]) rfl ?_
          show Steps p.tables e below (s₁.setTop (mkF m 46 #[.val (.int u1), .val (.int ((u1 ||| (32 : Int32)) - (97 : Int32))), .val (.int (1 : Int32)), .val (.int (u1 - (48 : Int32))), .val (.int (0 : Int32)), .unset] [])) _
          refine XS.iloadN X0.here hx rfl (hb hby d2_46) rfl ?_
          show Steps p.tables e below (s₁.setTop (mkF m 47 #[.val (.int u1), .val (.int ((u1 ||| (32 : Int32)) - (97 : Int32))), .val (.int (1 : Int32)), .val (.int (u1 - (48 : Int32))), .val (.int (0 : Int32)), .unset] [(.int u1)])) _
          refine XS.bipush X0.here hx rfl (hb hby d2_47) ?_
          exact k
        by_cases hc49_9 : u1 = (95 : Int32)
        · obtain ⟨fs, hr, hrun, hended, hW, hsame⟩ := X0.leave (v := some (.int (1 : Int32))) (fun h => by rw [Bd.returns] at h; cases h)
          refine ⟨_, _, ?_, hrun, hended, _, _, rfl, ?_, ⟨_, rfl⟩, hW, hsame.mono (by decide) (by decide)⟩
          · show Steps p.tables e below (s₁.setTop (mkF m 49 #[.val (.int u1), .val (.int ((u1 ||| (32 : Int32)) - (97 : Int32))), .val (.int (1 : Int32)), .val (.int (u1 - (48 : Int32))), .val (.int (0 : Int32)), .unset] [(.int (95 : Int32)), (.int u1)])) _
            refine XS.icmpNo X0.here hx rfl (hb hby d2_49) rfl (teq hc49_9).2 ?_
            show Steps p.tables e below (s₁.setTop (mkF m 52 #[.val (.int u1), .val (.int ((u1 ||| (32 : Int32)) - (97 : Int32))), .val (.int (1 : Int32)), .val (.int (u1 - (48 : Int32))), .val (.int (0 : Int32)), .unset] [])) _
            refine XS.iconst X0.here hx rfl (hb hby d2_52) ?_
            show Steps p.tables e below (s₁.setTop (mkF m 53 #[.val (.int u1), .val (.int ((u1 ||| (32 : Int32)) - (97 : Int32))), .val (.int (1 : Int32)), .val (.int (u1 - (48 : Int32))), .val (.int (0 : Int32)), .unset] [(.int (1 : Int32))])) _
            refine XS.goto X0.here hx rfl (pc0 := 53) (pc' := 57) rfl (hb hby d2_53) (by decide) (by decide) ?_
            show Steps p.tables e below (s₁.setTop (mkF m 57 #[.val (.int u1), .val (.int ((u1 ||| (32 : Int32)) - (97 : Int32))), .val (.int (1 : Int32)), .val (.int (u1 - (48 : Int32))), .val (.int (0 : Int32)), .unset] [(.int (1 : Int32))])) _
            refine XS.istore X0.here hx rfl (hb hby d2_57) rfl (l' := #[.val (.int u1), .val (.int ((u1 ||| (32 : Int32)) - (97 : Int32))), .val (.int (1 : Int32)), .val (.int (u1 - (48 : Int32))), .val (.int (0 : Int32)), .val (.int (1 : Int32))]) rfl ?_
            show Steps p.tables e below (s₁.setTop (mkF m 59 #[.val (.int u1), .val (.int ((u1 ||| (32 : Int32)) - (97 : Int32))), .val (.int (1 : Int32)), .val (.int (u1 - (48 : Int32))), .val (.int (0 : Int32)), .val (.int (1 : Int32))] [])) _
            refine XS.iloadN X0.here hx rfl (hb hby d2_59) rfl ?_
            show Steps p.tables e below (s₁.setTop (mkF m 60 #[.val (.int u1), .val (.int ((u1 ||| (32 : Int32)) - (97 : Int32))), .val (.int (1 : Int32)), .val (.int (u1 - (48 : Int32))), .val (.int (0 : Int32)), .val (.int (1 : Int32))] [(.int (1 : Int32))])) _
            refine XS.ifYes X0.here hx rfl (pc0 := 60) (pc' := 73) rfl (hb hby d2_60) rfl ((if0 _ _).trans (feq (by decide)).2) (by decide) (by decide) ?_
            show Steps p.tables e below (s₁.setTop (mkF m 73 #[.val (.int u1), .val (.int ((u1 ||| (32 : Int32)) - (97 : Int32))), .val (.int (1 : Int32)), .val (.int (u1 - (48 : Int32))), .val (.int (0 : Int32)), .val (.int (1 : Int32))] [])) _
            refine XS.iconst X0.here hx rfl (hb hby d2_73) ?_
            show Steps p.tables e below (s₁.setTop (mkF m 74 #[.val (.int u1), .val (.int ((u1 ||| (32 : Int32)) - (97 : Int32))), .val (.int (1 : Int32)), .val (.int (u1 - (48 : Int32))), .val (.int (0 : Int32)), .val (.int (1 : Int32))] [(.int (1 : Int32))])) _
            refine XS.goto X0.here hx rfl (pc0 := 74) (pc' := 78) rfl (hb hby d2_74) (by decide) (by decide) ?_
            show Steps p.tables e below (s₁.setTop (mkF m 78 #[.val (.int u1), .val (.int ((u1 ||| (32 : Int32)) - (97 : Int32))), .val (.int (1 : Int32)), .val (.int (u1 - (48 : Int32))), .val (.int (0 : Int32)), .val (.int (1 : Int32))] [(.int (1 : Int32))])) _
            exact retN X0 hx (t := .boolean) Bd.returns (by simp) (hb hby d2_78) hr
          · show Q2 Z u1 h0 n0 _ s₁.heap _
            rw [e0]
            exact ⟨by rw [own_exp, if_neg hc9_1, if_pos hc15_7, if_pos hc30_8, if_pos hc49_9], N0, rfl⟩
        · obtain ⟨fs, hr, hrun, hended, hW, hsame⟩ := X0.leave (v := some (.int (1 : Int32))) (fun h => by rw [Bd.returns] at h; cases h)
          refine ⟨_, _, ?_, hrun, hended, _, _, rfl, ?_, ⟨_, rfl⟩, hW, hsame.mono (by decide) (by decide)⟩
          · show Steps p.tables e below (s₁.setTop (mkF m 49 #[.val (.int u1), .val (.int ((u1 ||| (32 : Int32)) - (97 : Int32))), .val (.int (1 : Int32)), .val (.int (u1 - (48 : Int32))), .val (.int (0 : Int32)), .unset] [(.int (95 : Int32)), (.int u1)])) _
            refine XS.icmpYes X0.here hx rfl (pc0 := 49) (pc' := 56) rfl (hb hby d2_49) rfl (feq hc49_9).2 (by decide) (by decide) ?_
            show Steps p.tables e below (s₁.setTop (mkF m 56 #[.val (.int u1), .val (.int ((u1 ||| (32 : Int32)) - (97 : Int32))), .val (.int (1 : Int32)), .val (.int (u1 - (48 : Int32))), .val (.int (0 : Int32)), .unset] [])) _
            refine XS.iconst X0.here hx rfl (hb hby d2_56) ?_
            show Steps p.tables e below (s₁.setTop (mkF m 57 #[.val (.int u1), .val (.int ((u1 ||| (32 : Int32)) - (97 : Int32))), .val (.int (1 : Int32)), .val (.int (u1 - (48 : Int32))), .val (.int (0 : Int32)), .unset] [(.int (0 : Int32))])) _
            refine XS.istore X0.here hx rfl (hb hby d2_57) rfl (l' := #[.val (.int u1), .val (.int ((u1 ||| (32 : Int32)) - (97 : Int32))), .val (.int (1 : Int32)), .val (.int (u1 - (48 : Int32))), .val (.int (0 : Int32)), .val (.int (0 : Int32))]) rfl ?_
            show Steps p.tables e below (s₁.setTop (mkF m 59 #[.val (.int u1), .val (.int ((u1 ||| (32 : Int32)) - (97 : Int32))), .val (.int (1 : Int32)), .val (.int (u1 - (48 : Int32))), .val (.int (0 : Int32)), .val (.int (0 : Int32))] [])) _
            refine XS.iloadN X0.here hx rfl (hb hby d2_59) rfl ?_
            show Steps p.tables e below (s₁.setTop (mkF m 60 #[.val (.int u1), .val (.int ((u1 ||| (32 : Int32)) - (97 : Int32))), .val (.int (1 : Int32)), .val (.int (u1 - (48 : Int32))), .val (.int (0 : Int32)), .val (.int (0 : Int32))] [(.int (1 : Int32))])) _
            refine XS.ifYes X0.here hx rfl (pc0 := 60) (pc' := 73) rfl (hb hby d2_60) rfl ((if0 _ _).trans (feq (by decide)).2) (by decide) (by decide) ?_
            show Steps p.tables e below (s₁.setTop (mkF m 73 #[.val (.int u1), .val (.int ((u1 ||| (32 : Int32)) - (97 : Int32))), .val (.int (1 : Int32)), .val (.int (u1 - (48 : Int32))), .val (.int (0 : Int32)), .val (.int (0 : Int32))] [])) _
            refine XS.iconst X0.here hx rfl (hb hby d2_73) ?_
            show Steps p.tables e below (s₁.setTop (mkF m 74 #[.val (.int u1), .val (.int ((u1 ||| (32 : Int32)) - (97 : Int32))), .val (.int (1 : Int32)), .val (.int (u1 - (48 : Int32))), .val (.int (0 : Int32)), .val (.int (0 : Int32))] [(.int (1 : Int32))])) _
            refine XS.goto X0.here hx rfl (pc0 := 74) (pc' := 78) rfl (hb hby d2_74) (by decide) (by decide) ?_
            show Steps p.tables e below (s₁.setTop (mkF m 78 #[.val (.int u1), .val (.int ((u1 ||| (32 : Int32)) - (97 : Int32))), .val (.int (1 : Int32)), .val (.int (u1 - (48 : Int32))), .val (.int (0 : Int32)), .val (.int (0 : Int32))] [(.int (1 : Int32))])) _
            exact retN X0 hx (t := .boolean) Bd.returns (by simp) (hb hby d2_78) hr
          · show Q2 Z u1 h0 n0 _ s₁.heap _
            rw [e0]
            exact ⟨by rw [own_exp, if_neg hc9_1, if_pos hc15_7, if_pos hc30_8, if_neg hc49_9], N0, rfl⟩
      · refine own_go (B := s₁.setTop (mkF m 36 #[.val (.int u1), .val (.int ((u1 ||| (32 : Int32)) - (97 : Int32))), .val (.int (1 : Int32)), .val (.int (u1 - (48 : Int32))), .unset, .unset] [(.int (10 : Int32)), (.int (u1 - (48 : Int32)))])) (fun t k => ?_) ?_
        · show Steps p.tables e below (s₁.setTop (mkF m 30 #[.val (.int u1), .val (.int ((u1 ||| (32 : Int32)) - (97 : Int32))), .val (.int (1 : Int32)), .val (.int (u1 - (48 : Int32))), .unset, .unset] [(.int (u1 - (48 : Int32)))])) _
          refine XS.ifNo X0.here hx rfl (hb hby d2_30) rfl ((if0 _ _).trans (flt hc30_8).1) ?_
          show Steps p.tables e below (s₁.setTop (mkF m 33 #[.val (.int u1), .val (.int ((u1 ||| (32 : Int32)) - (97 : Int32))), .val (.int (1 : Int32)), .val (.int (u1 - (48 : Int32))), .unset, .unset] [])) _
          refine XS.iloadN X0.here hx rfl (hb hby d2_33) rfl ?_
          show Steps p.tables e below (s₁.setTop (mkF m 34 #[.val (.int u1), .val (.int ((u1 ||| (32 : Int32)) - (97 : Int32))), .val (.int (1 : Int32)), .val (.int (u1 - (48 : Int32))), .unset, .unset] [(.int (u1 - (48 : Int32)))])) _
          refine XS.bipush X0.here hx rfl (hb hby d2_34) ?_
          exact k
        by_cases hc36_10 : (u1 - (48 : Int32)) < (10 : Int32)
        · refine own_go (B := s₁.setTop (mkF m 49 #[.val (.int u1), .val (.int ((u1 ||| (32 : Int32)) - (97 : Int32))), .val (.int (1 : Int32)), .val (.int (u1 - (48 : Int32))), .val (.int (1 : Int32)), .unset] [(.int (95 : Int32)), (.int u1)])) (fun t k => ?_) ?_
          · show Steps p.tables e below (s₁.setTop (mkF m 36 #[.val (.int u1), .val (.int ((u1 ||| (32 : Int32)) - (97 : Int32))), .val (.int (1 : Int32)), .val (.int (u1 - (48 : Int32))), .unset, .unset] [(.int (10 : Int32)), (.int (u1 - (48 : Int32)))])) _
            refine XS.icmpNo X0.here hx rfl (hb hby d2_36) rfl (tlt hc36_10).2.1 ?_
            show Steps p.tables e below (s₁.setTop (mkF m 39 #[.val (.int u1), .val (.int ((u1 ||| (32 : Int32)) - (97 : Int32))), .val (.int (1 : Int32)), .val (.int (u1 - (48 : Int32))), .unset, .unset] [])) _
            refine XS.iconst X0.here hx rfl (hb hby d2_39) ?_
            show Steps p.tables e below (s₁.setTop (mkF m 40 #[.val (.int u1), .val (.int ((u1 ||| (32 : Int32)) - (97 : Int32))), .val (.int (1 : Int32)), .val (.int (u1 - (48 : Int32))), .unset, .unset] [(.int (1 : Int32))])) _
            refine XS.goto X0.here hx rfl (pc0 := 40) (pc' := 44) rfl (hb hby d2_40) (by decide) (by decide) ?_
            show Steps p.tables e below (s₁.setTop (mkF m 44 #[.val (.int u1), .val (.int ((u1 ||| (32 : Int32)) - (97 : Int32))), .val (.int (1 : Int32)), .val (.int (u1 - (48 : Int32))), .unset, .unset] [(.int (1 : Int32))])) _
            refine XS.istore X0.here hx rfl (hb hby d2_44) rfl (l' := #[.val (.int u1), .val (.int ((u1 ||| (32 : Int32)) - (97 : Int32))), .val (.int (1 : Int32)), .val (.int (u1 - (48 : Int32))), .val (.int (1 : Int32)), .unset]) rfl ?_
            show Steps p.tables e below (s₁.setTop (mkF m 46 #[.val (.int u1), .val (.int ((u1 ||| (32 : Int32)) - (97 : Int32))), .val (.int (1 : Int32)), .val (.int (u1 - (48 : Int32))), .val (.int (1 : Int32)), .unset] [])) _
            refine XS.iloadN X0.here hx rfl (hb hby d2_46) rfl ?_
            show Steps p.tables e below (s₁.setTop (mkF m 47 #[.val (.int u1), .val (.int ((u1 ||| (32 : Int32)) - (97 : Int32))), .val (.int (1 : Int32)), .val (.int (u1 - (48 : Int32))), .val (.int (1 : Int32)), .unset] [(.int u1)])) _
            refine XS.bipush X0.here hx rfl (hb hby d2_47) ?_
            exact k
          by_cases hc49_11 : u1 = (95 : Int32)
          · obtain ⟨fs, hr, hrun, hended, hW, hsame⟩ := X0.leave (v := some (.int (1 : Int32))) (fun h => by rw [Bd.returns] at h; cases h)
            refine ⟨_, _, ?_, hrun, hended, _, _, rfl, ?_, ⟨_, rfl⟩, hW, hsame.mono (by decide) (by decide)⟩
            · show Steps p.tables e below (s₁.setTop (mkF m 49 #[.val (.int u1), .val (.int ((u1 ||| (32 : Int32)) - (97 : Int32))), .val (.int (1 : Int32)), .val (.int (u1 - (48 : Int32))), .val (.int (1 : Int32)), .unset] [(.int (95 : Int32)), (.int u1)])) _
              refine XS.icmpNo X0.here hx rfl (hb hby d2_49) rfl (teq hc49_11).2 ?_
              show Steps p.tables e below (s₁.setTop (mkF m 52 #[.val (.int u1), .val (.int ((u1 ||| (32 : Int32)) - (97 : Int32))), .val (.int (1 : Int32)), .val (.int (u1 - (48 : Int32))), .val (.int (1 : Int32)), .unset] [])) _
              refine XS.iconst X0.here hx rfl (hb hby d2_52) ?_
              show Steps p.tables e below (s₁.setTop (mkF m 53 #[.val (.int u1), .val (.int ((u1 ||| (32 : Int32)) - (97 : Int32))), .val (.int (1 : Int32)), .val (.int (u1 - (48 : Int32))), .val (.int (1 : Int32)), .unset] [(.int (1 : Int32))])) _
              refine XS.goto X0.here hx rfl (pc0 := 53) (pc' := 57) rfl (hb hby d2_53) (by decide) (by decide) ?_
              show Steps p.tables e below (s₁.setTop (mkF m 57 #[.val (.int u1), .val (.int ((u1 ||| (32 : Int32)) - (97 : Int32))), .val (.int (1 : Int32)), .val (.int (u1 - (48 : Int32))), .val (.int (1 : Int32)), .unset] [(.int (1 : Int32))])) _
              refine XS.istore X0.here hx rfl (hb hby d2_57) rfl (l' := #[.val (.int u1), .val (.int ((u1 ||| (32 : Int32)) - (97 : Int32))), .val (.int (1 : Int32)), .val (.int (u1 - (48 : Int32))), .val (.int (1 : Int32)), .val (.int (1 : Int32))]) rfl ?_
              show Steps p.tables e below (s₁.setTop (mkF m 59 #[.val (.int u1), .val (.int ((u1 ||| (32 : Int32)) - (97 : Int32))), .val (.int (1 : Int32)), .val (.int (u1 - (48 : Int32))), .val (.int (1 : Int32)), .val (.int (1 : Int32))] [])) _
              refine XS.iloadN X0.here hx rfl (hb hby d2_59) rfl ?_
              show Steps p.tables e below (s₁.setTop (mkF m 60 #[.val (.int u1), .val (.int ((u1 ||| (32 : Int32)) - (97 : Int32))), .val (.int (1 : Int32)), .val (.int (u1 - (48 : Int32))), .val (.int (1 : Int32)), .val (.int (1 : Int32))] [(.int (1 : Int32))])) _
              refine XS.ifYes X0.here hx rfl (pc0 := 60) (pc' := 73) rfl (hb hby d2_60) rfl ((if0 _ _).trans (feq (by decide)).2) (by decide) (by decide) ?_
              show Steps p.tables e below (s₁.setTop (mkF m 73 #[.val (.int u1), .val (.int ((u1 ||| (32 : Int32)) - (97 : Int32))), .val (.int (1 : Int32)), .val (.int (u1 - (48 : Int32))), .val (.int (1 : Int32)), .val (.int (1 : Int32))] [])) _
              refine XS.iconst X0.here hx rfl (hb hby d2_73) ?_
              show Steps p.tables e below (s₁.setTop (mkF m 74 #[.val (.int u1), .val (.int ((u1 ||| (32 : Int32)) - (97 : Int32))), .val (.int (1 : Int32)), .val (.int (u1 - (48 : Int32))), .val (.int (1 : Int32)), .val (.int (1 : Int32))] [(.int (1 : Int32))])) _
              refine XS.goto X0.here hx rfl (pc0 := 74) (pc' := 78) rfl (hb hby d2_74) (by decide) (by decide) ?_
              show Steps p.tables e below (s₁.setTop (mkF m 78 #[.val (.int u1), .val (.int ((u1 ||| (32 : Int32)) - (97 : Int32))), .val (.int (1 : Int32)), .val (.int (u1 - (48 : Int32))), .val (.int (1 : Int32)), .val (.int (1 : Int32))] [(.int (1 : Int32))])) _
              exact retN X0 hx (t := .boolean) Bd.returns (by simp) (hb hby d2_78) hr
            · show Q2 Z u1 h0 n0 _ s₁.heap _
              rw [e0]
              exact ⟨by rw [own_exp, if_neg hc9_1, if_pos hc15_7, if_neg hc30_8, if_pos hc36_10, if_pos hc49_11], N0, rfl⟩
          · obtain ⟨fs, hr, hrun, hended, hW, hsame⟩ := X0.leave (v := some (.int (1 : Int32))) (fun h => by rw [Bd.returns] at h; cases h)
            refine ⟨_, _, ?_, hrun, hended, _, _, rfl, ?_, ⟨_, rfl⟩, hW, hsame.mono (by decide) (by decide)⟩
            · show Steps p.tables e below (s₁.setTop (mkF m 49 #[.val (.int u1), .val (.int ((u1 ||| (32 : Int32)) - (97 : Int32))), .val (.int (1 : Int32)), .val (.int (u1 - (48 : Int32))), .val (.int (1 : Int32)), .unset] [(.int (95 : Int32)), (.int u1)])) _
              refine XS.icmpYes X0.here hx rfl (pc0 := 49) (pc' := 56) rfl (hb hby d2_49) rfl (feq hc49_11).2 (by decide) (by decide) ?_
              show Steps p.tables e below (s₁.setTop (mkF m 56 #[.val (.int u1), .val (.int ((u1 ||| (32 : Int32)) - (97 : Int32))), .val (.int (1 : Int32)), .val (.int (u1 - (48 : Int32))), .val (.int (1 : Int32)), .unset] [])) _
              refine XS.iconst X0.here hx rfl (hb hby d2_56) ?_
              show Steps p.tables e below (s₁.setTop (mkF m 57 #[.val (.int u1), .val (.int ((u1 ||| (32 : Int32)) - (97 : Int32))), .val (.int (1 : Int32)), .val (.int (u1 - (48 : Int32))), .val (.int (1 : Int32)), .unset] [(.int (0 : Int32))])) _
              refine XS.istore X0.here hx rfl (hb hby d2_57) rfl (l' := #[.val (.int u1), .val (.int ((u1 ||| (32 : Int32)) - (97 : Int32))), .val (.int (1 : Int32)), .val (.int (u1 - (48 : Int32))), .val (.int (1 : Int32)), .val (.int (0 : Int32))]) rfl ?_
              show Steps p.tables e below (s₁.setTop (mkF m 59 #[.val (.int u1), .val (.int ((u1 ||| (32 : Int32)) - (97 : Int32))), .val (.int (1 : Int32)), .val (.int (u1 - (48 : Int32))), .val (.int (1 : Int32)), .val (.int (0 : Int32))] [])) _
              refine XS.iloadN X0.here hx rfl (hb hby d2_59) rfl ?_
              show Steps p.tables e below (s₁.setTop (mkF m 60 #[.val (.int u1), .val (.int ((u1 ||| (32 : Int32)) - (97 : Int32))), .val (.int (1 : Int32)), .val (.int (u1 - (48 : Int32))), .val (.int (1 : Int32)), .val (.int (0 : Int32))] [(.int (1 : Int32))])) _
              refine XS.ifYes X0.here hx rfl (pc0 := 60) (pc' := 73) rfl (hb hby d2_60) rfl ((if0 _ _).trans (feq (by decide)).2) (by decide) (by decide) ?_
              show Steps p.tables e below (s₁.setTop (mkF m 73 #[.val (.int u1), .val (.int ((u1 ||| (32 : Int32)) - (97 : Int32))), .val (.int (1 : Int32)), .val (.int (u1 - (48 : Int32))), .val (.int (1 : Int32)), .val (.int (0 : Int32))] [])) _
              refine XS.iconst X0.here hx rfl (hb hby d2_73) ?_
              show Steps p.tables e below (s₁.setTop (mkF m 74 #[.val (.int u1), .val (.int ((u1 ||| (32 : Int32)) - (97 : Int32))), .val (.int (1 : Int32)), .val (.int (u1 - (48 : Int32))), .val (.int (1 : Int32)), .val (.int (0 : Int32))] [(.int (1 : Int32))])) _
              refine XS.goto X0.here hx rfl (pc0 := 74) (pc' := 78) rfl (hb hby d2_74) (by decide) (by decide) ?_
              show Steps p.tables e below (s₁.setTop (mkF m 78 #[.val (.int u1), .val (.int ((u1 ||| (32 : Int32)) - (97 : Int32))), .val (.int (1 : Int32)), .val (.int (u1 - (48 : Int32))), .val (.int (1 : Int32)), .val (.int (0 : Int32))] [(.int (1 : Int32))])) _
              exact retN X0 hx (t := .boolean) Bd.returns (by simp) (hb hby d2_78) hr
            · show Q2 Z u1 h0 n0 _ s₁.heap _
              rw [e0]
              exact ⟨by rw [own_exp, if_neg hc9_1, if_pos hc15_7, if_neg hc30_8, if_pos hc36_10, if_neg hc49_11], N0, rfl⟩
        · refine own_go (B := s₁.setTop (mkF m 49 #[.val (.int u1), .val (.int ((u1 ||| (32 : Int32)) - (97 : Int32))), .val (.int (1 : Int32)), .val (.int (u1 - (48 : Int32))), .val (.int (0 : Int32)), .unset] [(.int (95 : Int32)), (.int u1)])) (fun t k => ?_) ?_
          · show Steps p.tables e below (s₁.setTop (mkF m 36 #[.val (.int u1), .val (.int ((u1 ||| (32 : Int32)) - (97 : Int32))), .val (.int (1 : Int32)), .val (.int (u1 - (48 : Int32))), .unset, .unset] [(.int (10 : Int32)), (.int (u1 - (48 : Int32)))])) _
            refine XS.icmpYes X0.here hx rfl (pc0 := 36) (pc' := 43) rfl (hb hby d2_36) rfl (flt hc36_10).2.1 (by decide) (by decide) ?_
            show Steps p.tables e below (s₁.setTop (mkF m 43 #[.val (.int u1), .val (.int ((u1 ||| (32 : Int32)) - (97 : Int32))), .val (.int (1 : Int32)), .val (.int (u1 - (48 : Int32))), .unset, .unset] [])) _
            refine XS.iconst X0.here hx rfl (hb hby d2_43) ?_
            show Steps p.tables e below (s₁.setTop (mkF m 44 #[.val (.int u1), .val (.int ((u1 ||| (32 : Int32)) - (97 : Int32))), .val (.int (1 : Int32)), .val (.int (u1 - (48 : Int32))), .unset, .unset] [(.int (0 : Int32))])) _
            refine XS.istore X0.here hx rfl (hb hby d2_44) rfl (l' := #[.val (.int u1), .val (.int ((u1 ||| (32 : Int32)) - (97 : Int32))), .val (.int (1 : Int32)), .val (.int (u1 - (48 : Int32))), .val (.int (0 : Int32)), .unset]) rfl ?_
            show Steps p.tables e below (s₁.setTop (mkF m 46 #[.val (.int u1), .val (.int ((u1 ||| (32 : Int32)) - (97 : Int32))), .val (.int (1 : Int32)), .val (.int (u1 - (48 : Int32))), .val (.int (0 : Int32)), .unset] [])) _
            refine XS.iloadN X0.here hx rfl (hb hby d2_46) rfl ?_
            show Steps p.tables e below (s₁.setTop (mkF m 47 #[.val (.int u1), .val (.int ((u1 ||| (32 : Int32)) - (97 : Int32))), .val (.int (1 : Int32)), .val (.int (u1 - (48 : Int32))), .val (.int (0 : Int32)), .unset] [(.int u1)])) _
            refine XS.bipush X0.here hx rfl (hb hby d2_47) ?_
            exact k
          by_cases hc49_12 : u1 = (95 : Int32)
          · obtain ⟨fs, hr, hrun, hended, hW, hsame⟩ := X0.leave (v := some (.int (1 : Int32))) (fun h => by rw [Bd.returns] at h; cases h)
            refine ⟨_, _, ?_, hrun, hended, _, _, rfl, ?_, ⟨_, rfl⟩, hW, hsame.mono (by decide) (by decide)⟩
            · show Steps p.tables e below (s₁.setTop (mkF m 49 #[.val (.int u1), .val (.int ((u1 ||| (32 : Int32)) - (97 : Int32))), .val (.int (1 : Int32)), .val (.int (u1 - (48 : Int32))), .val (.int (0 : Int32)), .unset] [(.int (95 : Int32)), (.int u1)])) _
              refine XS.icmpNo X0.here hx rfl (hb hby d2_49) rfl (teq hc49_12).2 ?_
              show Steps p.tables e below (s₁.setTop (mkF m 52 #[.val (.int u1), .val (.int ((u1 ||| (32 : Int32)) - (97 : Int32))), .val (.int (1 : Int32)), .val (.int (u1 - (48 : Int32))), .val (.int (0 : Int32)), .unset] [])) _
              refine XS.iconst X0.here hx rfl (hb hby d2_52) ?_
              show Steps p.tables e below (s₁.setTop (mkF m 53 #[.val (.int u1), .val (.int ((u1 ||| (32 : Int32)) - (97 : Int32))), .val (.int (1 : Int32)), .val (.int (u1 - (48 : Int32))), .val (.int (0 : Int32)), .unset] [(.int (1 : Int32))])) _
              refine XS.goto X0.here hx rfl (pc0 := 53) (pc' := 57) rfl (hb hby d2_53) (by decide) (by decide) ?_
              show Steps p.tables e below (s₁.setTop (mkF m 57 #[.val (.int u1), .val (.int ((u1 ||| (32 : Int32)) - (97 : Int32))), .val (.int (1 : Int32)), .val (.int (u1 - (48 : Int32))), .val (.int (0 : Int32)), .unset] [(.int (1 : Int32))])) _
              refine XS.istore X0.here hx rfl (hb hby d2_57) rfl (l' := #[.val (.int u1), .val (.int ((u1 ||| (32 : Int32)) - (97 : Int32))), .val (.int (1 : Int32)), .val (.int (u1 - (48 : Int32))), .val (.int (0 : Int32)), .val (.int (1 : Int32))]) rfl ?_
              show Steps p.tables e below (s₁.setTop (mkF m 59 #[.val (.int u1), .val (.int ((u1 ||| (32 : Int32)) - (97 : Int32))), .val (.int (1 : Int32)), .val (.int (u1 - (48 : Int32))), .val (.int (0 : Int32)), .val (.int (1 : Int32))] [])) _
              refine XS.iloadN X0.here hx rfl (hb hby d2_59) rfl ?_
              show Steps p.tables e below (s₁.setTop (mkF m 60 #[.val (.int u1), .val (.int ((u1 ||| (32 : Int32)) - (97 : Int32))), .val (.int (1 : Int32)), .val (.int (u1 - (48 : Int32))), .val (.int (0 : Int32)), .val (.int (1 : Int32))] [(.int (1 : Int32))])) _
              refine XS.ifYes X0.here hx rfl (pc0 := 60) (pc' := 73) rfl (hb hby d2_60) rfl ((if0 _ _).trans (feq (by decide)).2) (by decide) (by decide) ?_
              show Steps p.tables e below (s₁.setTop (mkF m 73 #[.val (.int u1), .val (.int ((u1 ||| (32 : Int32)) - (97 : Int32))), .val (.int (1 : Int32)), .val (.int (u1 - (48 : Int32))), .val (.int (0 : Int32)), .val (.int (1 : Int32))] [])) _
              refine XS.iconst X0.here hx rfl (hb hby d2_73) ?_
              show Steps p.tables e below (s₁.setTop (mkF m 74 #[.val (.int u1), .val (.int ((u1 ||| (32 : Int32)) - (97 : Int32))), .val (.int (1 : Int32)), .val (.int (u1 - (48 : Int32))), .val (.int (0 : Int32)), .val (.int (1 : Int32))] [(.int (1 : Int32))])) _
              refine XS.goto X0.here hx rfl (pc0 := 74) (pc' := 78) rfl (hb hby d2_74) (by decide) (by decide) ?_
              show Steps p.tables e below (s₁.setTop (mkF m 78 #[.val (.int u1), .val (.int ((u1 ||| (32 : Int32)) - (97 : Int32))), .val (.int (1 : Int32)), .val (.int (u1 - (48 : Int32))), .val (.int (0 : Int32)), .val (.int (1 : Int32))] [(.int (1 : Int32))])) _
              exact retN X0 hx (t := .boolean) Bd.returns (by simp) (hb hby d2_78) hr
            · show Q2 Z u1 h0 n0 _ s₁.heap _
              rw [e0]
              exact ⟨by rw [own_exp, if_neg hc9_1, if_pos hc15_7, if_neg hc30_8, if_neg hc36_10, if_pos hc49_12], N0, rfl⟩
          · obtain ⟨fs, hr, hrun, hended, hW, hsame⟩ := X0.leave (v := some (.int (1 : Int32))) (fun h => by rw [Bd.returns] at h; cases h)
            refine ⟨_, _, ?_, hrun, hended, _, _, rfl, ?_, ⟨_, rfl⟩, hW, hsame.mono (by decide) (by decide)⟩
            · show Steps p.tables e below (s₁.setTop (mkF m 49 #[.val (.int u1), .val (.int ((u1 ||| (32 : Int32)) - (97 : Int32))), .val (.int (1 : Int32)), .val (.int (u1 - (48 : Int32))), .val (.int (0 : Int32)), .unset] [(.int (95 : Int32)), (.int u1)])) _
              refine XS.icmpYes X0.here hx rfl (pc0 := 49) (pc' := 56) rfl (hb hby d2_49) rfl (feq hc49_12).2 (by decide) (by decide) ?_
              show Steps p.tables e below (s₁.setTop (mkF m 56 #[.val (.int u1), .val (.int ((u1 ||| (32 : Int32)) - (97 : Int32))), .val (.int (1 : Int32)), .val (.int (u1 - (48 : Int32))), .val (.int (0 : Int32)), .unset] [])) _
              refine XS.iconst X0.here hx rfl (hb hby d2_56) ?_
              show Steps p.tables e below (s₁.setTop (mkF m 57 #[.val (.int u1), .val (.int ((u1 ||| (32 : Int32)) - (97 : Int32))), .val (.int (1 : Int32)), .val (.int (u1 - (48 : Int32))), .val (.int (0 : Int32)), .unset] [(.int (0 : Int32))])) _
              refine XS.istore X0.here hx rfl (hb hby d2_57) rfl (l' := #[.val (.int u1), .val (.int ((u1 ||| (32 : Int32)) - (97 : Int32))), .val (.int (1 : Int32)), .val (.int (u1 - (48 : Int32))), .val (.int (0 : Int32)), .val (.int (0 : Int32))]) rfl ?_
              show Steps p.tables e below (s₁.setTop (mkF m 59 #[.val (.int u1), .val (.int ((u1 ||| (32 : Int32)) - (97 : Int32))), .val (.int (1 : Int32)), .val (.int (u1 - (48 : Int32))), .val (.int (0 : Int32)), .val (.int (0 : Int32))] [])) _
              refine XS.iloadN X0.here hx rfl (hb hby d2_59) rfl ?_
              show Steps p.tables e below (s₁.setTop (mkF m 60 #[.val (.int u1), .val (.int ((u1 ||| (32 : Int32)) - (97 : Int32))), .val (.int (1 : Int32)), .val (.int (u1 - (48 : Int32))), .val (.int (0 : Int32)), .val (.int (0 : Int32))] [(.int (1 : Int32))])) _
              refine XS.ifYes X0.here hx rfl (pc0 := 60) (pc' := 73) rfl (hb hby d2_60) rfl ((if0 _ _).trans (feq (by decide)).2) (by decide) (by decide) ?_
              show Steps p.tables e below (s₁.setTop (mkF m 73 #[.val (.int u1), .val (.int ((u1 ||| (32 : Int32)) - (97 : Int32))), .val (.int (1 : Int32)), .val (.int (u1 - (48 : Int32))), .val (.int (0 : Int32)), .val (.int (0 : Int32))] [])) _
              refine XS.iconst X0.here hx rfl (hb hby d2_73) ?_
              show Steps p.tables e below (s₁.setTop (mkF m 74 #[.val (.int u1), .val (.int ((u1 ||| (32 : Int32)) - (97 : Int32))), .val (.int (1 : Int32)), .val (.int (u1 - (48 : Int32))), .val (.int (0 : Int32)), .val (.int (0 : Int32))] [(.int (1 : Int32))])) _
              refine XS.goto X0.here hx rfl (pc0 := 74) (pc' := 78) rfl (hb hby d2_74) (by decide) (by decide) ?_
              show Steps p.tables e below (s₁.setTop (mkF m 78 #[.val (.int u1), .val (.int ((u1 ||| (32 : Int32)) - (97 : Int32))), .val (.int (1 : Int32)), .val (.int (u1 - (48 : Int32))), .val (.int (0 : Int32)), .val (.int (0 : Int32))] [(.int (1 : Int32))])) _
              exact retN X0 hx (t := .boolean) Bd.returns (by simp) (hb hby d2_78) hr
            · show Q2 Z u1 h0 n0 _ s₁.heap _
              rw [e0]
              exact ⟨by rw [own_exp, if_neg hc9_1, if_pos hc15_7, if_neg hc30_8, if_neg hc36_10, if_neg hc49_12], N0, rfl⟩
    · refine own_go (B := s₁.setTop (mkF m 30 #[.val (.int u1), .val (.int ((u1 ||| (32 : Int32)) - (97 : Int32))), .val (.int (0 : Int32)), .val (.int (u1 - (48 : Int32))), .unset, .unset] [(.int (u1 - (48 : Int32)))])) (fun t k => ?_) ?_
      · show Steps p.tables e below (s₁.setTop (mkF m 15 #[.val (.int u1), .val (.int ((u1 ||| (32 : Int32)) - (97 : Int32))), .unset, .unset, .unset, .unset] [(.int (26 : Int32)), (.int ((u1 ||| (32 : Int32)) - (97 : Int32)))])) _
        refine XS.icmpYes X0.here hx rfl (pc0 := 15) (pc' := 22) rfl (hb hby d2_15) rfl (flt hc15_7).2.1 (by decide) (by decide) ?_
        show Steps p.tables e below (s₁.setTop (mkF m 22 #[.val (.int u1), .val (.int ((u1 ||| (32 : Int32)) - (97 : Int32))), .unset, .unset, .unset, .unset] [])) _
        refine XS.iconst X0.here hx rfl (hb hby d2_22) ?_
        show Steps p.tables e below (s₁.setTop (mkF m 23 #[.val (.int u1), .val (.int ((u1 ||| (32 : Int32)) - (97 : Int32))), .unset, .unset, .unset, .unset] [(.int (0 : Int32))])) _
        refine XS.istoreN X0.here hx rfl (hb hby d2_23) rfl (l' := #[.val (.int u1), .val (.int ((u1 ||| (32 : Int32)) - (97 : Int32))), .val (.int (0 : Int32)), .unset, .unset, .unset]) rfl ?_
        show Steps p.tables e below (s₁.setTop (mkF m 24 #[.val (.int u1), .val (.int ((u1 ||| (32 : Int32)) - (97 : Int32))), .val (.int (0 : Int32)), .unset, .unset, .unset] [])) _
        refine XS.iloadN X0.here hx rfl (hb hby d2_24) rfl ?_
        show Steps p.tables e below (s₁.setTop (mkF m 25 #[.val (.int u1), .val (.int ((u1 ||| (32 : Int32)) - (97 : Int32))), .val (.int (0 : Int32)), .unset, .unset, .unset] [(.int u1)])) _
        refine XS.bipush X0.here hx rfl (hb hby d2_25) ?_
        show Steps p.tables e below (s₁.setTop (mkF m 27 #[.val (.int u1), .val (.int ((u1 ||| (32 : Int32)) - (97 : Int32))), .val (.int (0 : Int32)), .unset, .unset, .unset] [(.int (48 : Int32)), (.int u1)])) _
        refine XS.isub X0.here hx rfl (hb hby d2_27) rfl ?_
        show Steps p.tables e below (s₁.setTop (mkF m 28 #[.val (.int u1), .val (.int ((u1 ||| (32 : Int32)) - (97 : Int32))), .val (.int (0 : Int32)), .unset, .unset, .unset] [(.int (u1 - (48 : Int32)))])) _
        refine XS.istoreN X0.here hx rfl (hb hby d2_28) rfl (l' := #[.val (.int u1), .val (.int ((u1 ||| (32 : Int32)) - (97 : Int32))), .val (.int (0 : Int32)), .val (.int (u1 - (48 : Int32))), .unset, .unset]) rfl ?_
        show Steps p.tables e below (s₁.setTop (mkF m 29 #[.val (.int u1), .val (.int ((u1 ||| (32 : Int32)) - (97 : Int32))), .val (.int (0 : Int32)), .val (.int (u1 - (48 : Int32))), .unset, .unset] [])) _
        refine XS.iloadN X0.here hx rfl (hb hby d2_29) rfl ?_
        exact k
      by_cases hc30_13 : (u1 - (48 : Int32)) < (0 : Int32)
      · refine own_go (B := s₁.setTop (mkF m 49 #[.val (.int u1), .val (.int ((u1 ||| (32 : Int32)) - (97 : Int32))), .val (.int (0 : Int32)), .val (.int (u1 - (48 : Int32))), .val (.int (0 : Int32)), .unset] [(.int (95 : Int32)), (.int u1)])) (fun t k => ?_) ?_
        · show Steps p.tables e below (s₁.setTop (mkF m 30 #[.val (.int u1), .val (.int ((u1 ||| (32 : Int32)) - (97 : Int32))), .val (.int (0 : Int32)), .val (.int (u1 - (48 : Int32))), .unset, .unset] [(.int (u1 - (48 : Int32)))])) _
          refine XS.ifYes X0.here hx rfl (pc0 := 30) (pc' := 43) rfl (hb hby d2_30) rfl ((if0 _ _).trans (tlt hc30_13).1) (by decide) (by decide) ?_
          show Steps p.tables e below (s₁.setTop (mkF m 43 #[.val (.int u1), .val (.int ((u1 ||| (32 : Int32)) - (97 : Int32))), .val (.int (0 : Int32)), .val (.int (u1 - (48 : Int32))), .unset, .unset] [])) _
          refine XS.iconst X0.here hx rfl (hb hby d2_43) ?_
          show Steps p.tables e below (s₁.setTop (mkF m 44 #[.val (.int u1), .val (.int ((u1 ||| (32 : Int32)) - (97 : Int32))), .val (.int (0 : Int32)), .val (.int (u1 - (48 : Int32))), .unset, .unset] [(.int (0 : Int32))])) _
          refine XS.istore X0.here hx rfl (hb hby d2_44) rfl (l' := #[.val (.int u1), .val (.int ((u1 ||| (32 : Int32)) - (97 : Int32))), .val (.int (0 : Int32)), .val (.int (u1 - (48 : Int32))), .val (.int (0 : Int32)), .unset]) rfl ?_
          show Steps p.tables e below (s₁.setTop (mkF m 46 #[.val (.int u1), .val (.int ((u1 ||| (32 : Int32)) - (97 : Int32))), .val (.int (0 : Int32)), .val (.int (u1 - (48 : Int32))), .val (.int (0 : Int32)), .unset] [])) _
          refine XS.iloadN X0.here hx rfl (hb hby d2_46) rfl ?_
          show Steps p.tables e below (s₁.setTop (mkF m 47 #[.val (.int u1), .val (.int ((u1 ||| (32 : Int32)) - (97 : Int32))), .val (.int (0 : Int32)), .val (.int (u1 - (48 : Int32))), .val (.int (0 : Int32)), .unset] [(.int u1)])) _
          refine XS.bipush X0.here hx rfl (hb hby d2_47) ?_
          exact k
        by_cases hc49_14 : u1 = (95 : Int32)
        · obtain ⟨fs, hr, hrun, hended, hW, hsame⟩ := X0.leave (v := some (.int (1 : Int32))) (fun h => by rw [Bd.returns] at h; cases h)
          refine ⟨_, _, ?_, hrun, hended, _, _, rfl, ?_, ⟨_, rfl⟩, hW, hsame.mono (by decide) (by decide)⟩
          · show Steps p.tables e below (s₁.setTop (mkF m 49 #[.val (.int u1), .val (.int ((u1 ||| (32 : Int32)) - (97 : Int32))), .val (.int (0 : Int32)), .val (.int (u1 - (48 : Int32))), .val (.int (0 : Int32)), .unset] [(.int (95 : Int32)), (.int u1)])) _
            refine XS.icmpNo X0.here hx rfl (hb hby d2_49) rfl (teq hc49_14).2 ?_
            show Steps p.tables e below (s₁.setTop (mkF m 52 #[.val (.int u1), .val (.int ((u1 ||| (32 : Int32)) - (97 : Int32))), .val (.int (0 : Int32)), .val (.int (u1 - (48 : Int32))), .val (.int (0 : Int32)), .unset] [])) _
            refine XS.iconst X0.here hx rfl (hb hby d2_52) ?_
            show Steps p.tables e below (s₁.setTop (mkF m 53 #[.val (.int u1), .val (.int ((u1 ||| (32 : Int32)) - (97 : Int32))), .val (.int (0 : Int32)), .val (.int (u1 - (48 : Int32))), .val (.int (0 : Int32)), .unset] [(.int (1 : Int32))])) _
            refine XS.goto X0.here hx rfl (pc0 := 53) (pc' := 57) rfl (hb hby d2_53) (by decide) (by decide) ?_
            show Steps p.tables e below (s₁.setTop (mkF m 57 #[.val (.int u1), .val (.int ((u1 ||| (32 : Int32)) - (97 : Int32))), .val (.int (0 : Int32)), .val (.int (u1 - (48 : Int32))), .val (.int (0 : Int32)), .unset] [(.int (1 : Int32))])) _
            refine XS.istore X0.here hx rfl (hb hby d2_57) rfl (l' := #[.val (.int u1), .val (.int ((u1 ||| (32 : Int32)) - (97 : Int32))), .val (.int (0 : Int32)), .val (.int (u1 - (48 : Int32))), .val (.int (0 : Int32)), .val (.int (1 : Int32))]) rfl ?_
            show Steps p.tables e below (s₁.setTop (mkF m 59 #[.val (.int u1), .val (.int ((u1 ||| (32 : Int32)) - (97 : Int32))), .val (.int (0 : Int32)), .val (.int (u1 - (48 : Int32))), .val (.int (0 : Int32)), .val (.int (1 : Int32))] [])) _
            refine XS.iloadN X0.here hx rfl (hb hby d2_59) rfl ?_
            show Steps p.tables e below (s₁.setTop (mkF m 60 #[.val (.int u1), .val (.int ((u1 ||| (32 : Int32)) - (97 : Int32))), .val (.int (0 : Int32)), .val (.int (u1 - (48 : Int32))), .val (.int (0 : Int32)), .val (.int (1 : Int32))] [(.int (0 : Int32))])) _
            refine XS.ifNo X0.here hx rfl (hb hby d2_60) rfl ((if0 _ _).trans (teq (by decide)).2) ?_
            show Steps p.tables e below (s₁.setTop (mkF m 63 #[.val (.int u1), .val (.int ((u1 ||| (32 : Int32)) - (97 : Int32))), .val (.int (0 : Int32)), .val (.int (u1 - (48 : Int32))), .val (.int (0 : Int32)), .val (.int (1 : Int32))] [])) _
            refine XS.iload X0.here hx rfl (hb hby d2_63) rfl ?_
            show Steps p.tables e below (s₁.setTop (mkF m 65 #[.val (.int u1), .val (.int ((u1 ||| (32 : Int32)) - (97 : Int32))), .val (.int (0 : Int32)), .val (.int (u1 - (48 : Int32))), .val (.int (0 : Int32)), .val (.int (1 : Int32))] [(.int (0 : Int32))])) _
            refine XS.ifNo X0.here hx rfl (hb hby d2_65) rfl ((if0 _ _).trans (teq (by decide)).2) ?_
            show Steps p.tables e below (s₁.setTop (mkF m 68 #[.val (.int u1), .val (.int ((u1 ||| (32 : Int32)) - (97 : Int32))), .val (.int (0 : Int32)), .val (.int (u1 - (48 : Int32))), .val (.int (0 : Int32)), .val (.int (1 : Int32))] [])) _
            refine XS.iload X0.here hx rfl (hb hby d2_68) rfl ?_
            show Steps p.tables e below (s₁.setTop (mkF m 70 #[.val (.int u1), .val (.int ((u1 ||| (32 : Int32)) - (97 : Int32))), .val (.int (0 : Int32)), .val (.int (u1 - (48 : Int32))), .val (.int (0 : Int32)), .val (.int (1 : Int32))] [(.int (1 : Int32))])) _
            refine XS.ifNo X0.here hx rfl (hb hby d2_70) rfl ((if0 _ _).trans (feq (by decide)).1) ?_
            show Steps p.tables e below (s₁.setTop (mkF m 73 #[.val (.int u1), .val (.int ((u1 ||| (32 : Int32)) - (97 : Int32))), .val (.int (0 : Int32)), .val (.int (u1 - (48 : Int32))), .val (.int (0 : Int32)), .val (.int (1 : Int32))] [])) _
            refine XS.iconst X0.here hx rfl (hb hby d2_73) ?_
            show Steps p.tables e below (s₁.setTop (mkF m 74 #[.val (.int u1), .val (.int ((u1 ||| (32 : Int32)) - (97 : Int32))), .val (.int (0 : Int32)), .val (.int (u1 - (48 : Int32))), .val (.int (0 : Int32)), .val (.int (1 : Int32))] [(.int (1 : Int32))])) _
            refine XS.goto X0.here hx rfl (pc0 := 74) (pc' := 78) rfl (hb hby d2_74) (by decide) (by decide) ?_
            show Steps p.tables e below (s₁.setTop (mkF m 78 #[.val (.int u1), .val (.int ((u1 ||| (32 : Int32)) - (97 : Int32))), .val (.int (0 : Int32)), .val (.int (u1 - (48 : Int32))), .val (.int (0 : Int32)), .val (.int (1 : Int32))] [(.int (1 : Int32))])) _
            exact retN X0 hx (t := .boolean) Bd.returns (by simp) (hb hby d2_78) hr
          · show Q2 Z u1 h0 n0 _ s₁.heap _
            rw [e0]
            exact ⟨by rw [own_exp, if_neg hc9_1, if_neg hc15_7, if_pos hc30_13, if_pos hc49_14], N0, rfl⟩
        · obtain ⟨fs, hr, hrun, hended, hW, hsame⟩ := X0.leave (v := some (.int (0 : Int32))) (fun h => by rw [Bd.returns] at h; cases h)
          refine ⟨_, _, ?_, hrun, hended, _, _, rfl, ?_, ⟨_, rfl⟩, hW, hsame.mono (by decide) (by decide)⟩
          · show Steps p.tables e below (s₁.setTop (mkF m 49 #[.val (.int u1), .val (.int ((u1 ||| (32 : Int32)) - (97 : Int32))), .val (.int (0 : Int32)), .val (.int (u1 - (48 : Int32))), .val (.int (0 : Int32)), .unset] [(.int (95 : Int32)), (.int u1)])) _
            refine XS.icmpYes X0.here hx rfl (pc0 := 49) (pc' := 56) rfl (hb hby d2_49) rfl (feq hc49_14).2 (by decide) (by decide) ?_
            show Steps p.tables e below (s₁.setTop (mkF m 56 #[.val (.int u1), .val (.int ((u1 ||| (32 : Int32)) - (97 : Int32))), .val (.int (0 : Int32)), .val (.int (u1 - (48 : Int32))), .val (.int (0 : Int32)), .unset] [])) _
            refine XS.iconst X0.here hx rfl (hb hby d2_56) ?_
            show Steps p.tables e below (s₁.setTop (mkF m 57 #[.val (.int u1), .val (.int ((u1 ||| (32 : Int32)) - (97 : Int32))), .val (.int (0 : Int32)), .val (.int (u1 - (48 : Int32))), .val (.int (0 : Int32)), .unset] [(.int (0 : Int32))])) _
            refine XS.istore X0.here hx rfl (hb hby d2_57) rfl (l' := #[.val (.int u1), .val (.int ((u1 ||| (32 : Int32)) - (97 : Int32))), .val (.int (0 : Int32)), .val (.int (u1 - (48 : Int32))), .val (.int (0 : Int32)), .val (.int (0 : Int32))]) rfl ?_
            show Steps p.tables e below (s₁.setTop (mkF m 59 #[.val (.int u1), .val (.int ((u1 ||| (32 : Int32)) - (97 : Int32))), .val (.int (0 : Int32)), .val (.int (u1 - (48 : Int32))), .val (.int (0 : Int32)), .val (.int (0 : Int32))] [])) _
            refine XS.iloadN X0.here hx rfl (hb hby d2_59) rfl ?_
            show Steps p.tables e below (s₁.setTop (mkF m 60 #[.val (.int u1), .val (.int ((u1 ||| (32 : Int32)) - (97 : Int32))), .val (.int (0 : Int32)), .val (.int (u1 - (48 : Int32))), .val (.int (0 : Int32)), .val (.int (0 : Int32))] [(.int (0 : Int32))])) _
            refine XS.ifNo X0.here hx rfl (hb hby d2_60) rfl ((if0 _ _).trans (teq (by decide)).2) ?_
            show Steps p.tables e below (s₁.setTop (mkF m 63 #[.val (.int u1), .val (.int ((u1 ||| (32 : Int32)) - (97 : Int32))), .val (.int (0 : Int32)), .val (.int (u1 - (48 : Int32))), .val (.int (0 : Int32)), .val (.int (0 : Int32))] [])) _
            refine XS.iload X0.here hx rfl (hb hby d2_63) rfl ?_
            show Steps p.tables e below (s₁.setTop (mkF m 65 #[.val (.int u1), .val (.int ((u1 ||| (32 : Int32)) - (97 : Int32))), .val (.int (0 : Int32)), .val (.int (u1 - (48 : Int32))), .val (.int (0 : Int32)), .val (.int (0 : Int32))] [(.int (0 : Int32))])) _
            refine XS.ifNo X0.here hx rfl (hb hby d2_65) rfl ((if0 _ _).trans (teq (by decide)).2) ?_
            show Steps p.tables e below (s₁.setTop (mkF m 68 #[.val (.int u1), .val (.int ((u1 ||| (32 : Int32)) - (97 : Int32))), .val (.int (0 : Int32)), .val (.int (u1 - (48 : Int32))), .val (.int (0 : Int32)), .val (.int (0 : Int32))] [])) _
            refine XS.iload X0.here hx rfl (hb hby d2_68) rfl ?_
            show Steps p.tables e below (s₁.setTop (mkF m 70 #[.val (.int u1), .val (.int ((u1 ||| (32 : Int32)) - (97 : Int32))), .val (.int (0 : Int32)), .val (.int (u1 - (48 : Int32))), .val (.int (0 : Int32)), .val (.int (0 : Int32))] [(.int (0 : Int32))])) _
            refine XS.ifYes X0.here hx rfl (pc0 := 70) (pc' := 77) rfl (hb hby d2_70) rfl ((if0 _ _).trans (teq (by decide)).1) (by decide) (by decide) ?_
            show Steps p.tables e below (s₁.setTop (mkF m 77 #[.val (.int u1), .val (.int ((u1 ||| (32 : Int32)) - (97 : Int32))), .val (.int (0 : Int32)), .val (.int (u1 - (48 : Int32))), .val (.int (0 : Int32)), .val (.int (0 : Int32))] [])) _
            refine XS.iconst X0.here hx rfl (hb hby d2_77) ?_
            show Steps p.tables e below (s₁.setTop (mkF m 78 #[.val (.int u1), .val (.int ((u1 ||| (32 : Int32)) - (97 : Int32))), .val (.int (0 : Int32)), .val (.int (u1 - (48 : Int32))), .val (.int (0 : Int32)), .val (.int (0 : Int32))] [(.int (0 : Int32))])) _
            exact retN X0 hx (t := .boolean) Bd.returns (by simp) (hb hby d2_78) hr
          · show Q2 Z u1 h0 n0 _ s₁.heap _
            rw [e0]
            exact ⟨by rw [own_exp, if_neg hc9_1, if_neg hc15_7, if_pos hc30_13, if_neg hc49_14], N0, rfl⟩
      · refine own_go (B := s₁.setTop (mkF m 36 #[.val (.int u1), .val (.int ((u1 ||| (32 : Int32)) - (97 : Int32))), .val (.int (0 : Int32)), .val (.int (u1 - (48 : Int32))), .unset, .unset] [(.int (10 : Int32)), (.int (u1 - (48 : Int32)))])) (fun t k => ?_) ?_
        · show Steps p.tables e below (s₁.setTop (mkF m 30 #[.val (.int u1), .val (.int ((u1 ||| (32 : Int32)) - (97 : Int32))), .val (.int (0 : Int32)), .val (.int (u1 - (48 : Int32))), .unset, .unset] [(.int (u1 - (48 : Int32)))])) _
          refine XS.ifNo X0.here hx rfl (hb hby d2_30) rfl ((if0 _ _).trans (flt hc30_13).1) ?_
          show Steps p.tables e below (s₁.setTop (mkF m 33 #[.val (.int u1), .val (.int ((u1 ||| (32 : Int32)) - (97 : Int32))), .val (.int (0 : Int32)), .val (.int (u1 - (48 : Int32))), .unset, .unset] [])) _
          refine XS.iloadN X0.here hx rfl (hb hby d2_33) rfl ?_
          show Steps p.tables e below (s₁.setTop (mkF m 34 #[.val (.int u1), .val (.int ((u1 ||| (32 : Int32)) - (97 : Int32))), .val (.int (0 : Int32)), .val (.int (u1 - (48 : Int32))), .unset, .unset] [(.int (u1 - (48 : Int32)))])) _
          refine XS.bipush X0.here hx rfl (hb hby d2_34) ?_
          exact k
        by_cases hc36_15 : (u1 - (48 : Int32)) < (10 : Int32)
        · refine own_go (B := s₁.setTop (mkF m 49 #[.val (.int u1), .val (.int ((u1 ||| (32 : Int32)) - (97 : Int32))), .val (.int (0 : Int32)), .val (.int (u1 - (48 : Int32))), .val (.int (1 : Int32)), .unset] [(.int (95 : Int32)), (.int u1)])) (fun t k => ?_) ?_
          · show Steps p.tables e below (s₁.setTop (mkF m 36 #[.val (.int u1), .val (.int ((u1 ||| (32 : Int32)) - (97 : Int32))), .val (.int (0 : Int32)), .val (.int (u1 - (48 : Int32))), .unset, .unset] [(.int (10 : Int32)), (.int (u1 - (48 : Int32)))])) _
            refine XS.icmpNo X0.here hx rfl (hb hby d2_36) rfl (tlt hc36_15).2.1 ?_
            show Steps p.tables e below (s₁.setTop (mkF m 39 #[.val (.int u1), .val (.int ((u1 ||| (32 : Int32)) - (97 : Int32))), .val (.int (0 : Int32)), .val (.int (u1 - (48 : Int32))), .unset, .unset] [])) _
            refine XS.iconst X0.here hx rfl (hb hby d2_39) ?_
            show Steps p.tables e below (s₁.setTop (mkF m 40 #[.val (.int u1), .val (.int ((u1 ||| (32 : Int32)) - (97 : Int32))), .val (.int (0 : Int32)), .val (.int (u1 - (48 : Int32))), .unset, .unset] [(.int (1 : Int32))])) _
            refine XS.goto X0.here hx rfl (pc0 := 40) (pc' := 44) rfl (hb hby d2_40) (by decide) (by decide) ?_
            show Steps p.tables e below (s₁.setTop (mkF m 44 #[.val (.int u1), .val (.int ((u1 ||| (32 : Int32)) - (97 : Int32))), .val (.int (0 : Int32)), .val (.int (u1 - (48 : Int32))), .unset, .unset] [(.int (1 : Int32))])) _
            refine XS.istore X0.here hx rfl (hb hby d2_44) rfl (l' := #[.val (.int u1), .val (.int ((u1 ||| (32 : Int32)) - (97 : Int32))), .val (.int (0 : Int32)), .val (.int (u1 - (48 : Int32))), .val (.int (1 : Int32)), .unset]) rfl ?_
            show Steps p.tables e below (s₁.setTop (mkF m 46 #[.val (.int u1), .val (.int ((u1 ||| (32 : Int32)) - (97 : Int32))), .val (.int (0 : Int32)), .val (.int (u1 - (48 : Int32))), .val (.int (1 : Int32)), .unset] [])) _
            refine XS.iloadN X0.here hx rfl (hb hby d2_46) rfl ?_
            show Steps p.tables e below (s₁.setTop (mkF m 47 #[.val (.int u1), .val (.int ((u1 ||| (32 : Int32)) - (97 : Int32))), .val (.int (0 : Int32)), .val (.int (u1 - (48 : Int32))), .val (.int (1 : Int32)), .unset] [(.int u1)])) _
            refine XS.bipush X0.here hx rfl (hb hby d2_47) ?_
            exact k
          by_cases hc49_16 : u1 = (95 : Int32)
          · obtain ⟨fs, hr, hrun, hended, hW, hsame⟩ := X0.leave (v := some (.int (1 : Int32))) (fun h => by rw [Bd.returns] at h; cases h)
            refine ⟨_, _, ?_, hrun, hended, _, _, rfl, ?_, ⟨_, rfl⟩, hW, hsame.mono (by decide) (by decide)⟩
            · show Steps p.tables e below (s₁.setTop (mkF m 49 #[.val (.int u1), .val (.int ((u1 ||| (32 : Int32)) - (97 : Int32))), .val (.int (0 : Int32)), .val (.int (u1 - (48 : Int32))), .val (.int (1 : Int32)), .unset] [(.int (95 : Int32)), (.int u1)])) _
              refine XS.icmpNo X0.here hx rfl (hb hby d2_49) rfl (teq hc49_16).2 ?_
              show Steps p.tables e below (s₁.setTop (mkF m 52 #[.val (.int u1), .val (.int ((u1 ||| (32 : Int32)) - (97 : Int32))), .val (.int (0 : Int32)), .val (.int (u1 - (48 : Int32))), .val (.int (1 : Int32)), .unset] [])) _
              refine XS.iconst X0.here hx rfl (hb hby d2_52) ?_
              show Steps p.tables e below (s₁.setTop (mkF m 53 #[.val (.int u1), .val (.int ((u1 ||| (32 : Int32)) - (97 : Int32))), .val (.int (0 : Int32)), .val (.int (u1 - (48 : Int32))), .val (.int (1 : Int32)), .unset] [(.int (1 : Int32))])) _
              refine XS.goto X0.here hx rfl (pc0 := 53) (pc' := 57) rfl (hb hby d2_53) (by decide) (by decide) ?_
              show Steps p.tables e below (s₁.setTop (mkF m 57 #[.val (.int u1), .val (.int ((u1 ||| (32 : Int32)) - (97 : Int32))), .val (.int (0 : Int32)), .val (.int (u1 - (48 : Int32))), .val (.int (1 : Int32)), .unset] [(.int (1 : Int32))])) _
              refine XS.istore X0.here hx rfl (hb hby d2_57) rfl (l' := #[.val (.int u1), .val (.int ((u1 ||| (32 : Int32)) - (97 : Int32))), .val (.int (0 : Int32)), .val (.int (u1 - (48 : Int32))), .val (.int (1 : Int32)), .val (.int (1 : Int32))]) rfl ?_
              show Steps p.tables e below (s₁.setTop (mkF m 59 #[.val (.int u1), .val (.int ((u1 ||| (32 : Int32)) - (97 : Int32))), .val (.int (0 : Int32)), .val (.int (u1 - (48 : Int32))), .val (.int (1 : Int32)), .val (.int (1 : Int32))] [])) _
              refine XS.iloadN X0.here hx rfl (hb hby d2_59) rfl ?_
              show Steps p.tables e below (s₁.setTop (mkF m 60 #[.val (.int u1), .val (.int ((u1 ||| (32 : Int32)) - (97 : Int32))), .val (.int (0 : Int32)), .val (.int (u1 - (48 : Int32))), .val (.int (1 : Int32)), .val (.int (1 : Int32))] [(.int (0 : Int32))])) _
              refine XS.ifNo X0.here hx rfl (hb hby d2_60) rfl ((if0 _ _).trans (teq (by decide)).2) ?_
              show Steps p.tables e below (s₁.setTop (mkF m 63 #[.val (.int u1), .val (.int ((u1 ||| (32 : Int32)) - (97 : Int32))), .val (.int (0 : Int32)), .val (.int (u1 - (48 : Int32))), .val (.int (1 : Int32)), .val (.int (1 : Int32))] [])) _
              refine XS.iload X0.here hx rfl (hb hby d2_63) rfl ?_
              show Steps p.tables e below (s₁.setTop (mkF m 65 #[.val (.int u1), .val (.int ((u1 ||| (32 : Int32)) - (97 : Int32))), .val (.int (0 : Int32)), .val (.int (u1 - (48 : Int32))), .val (.int (1 : Int32)), .val (.int (1 : Int32))] [(.int (1 : Int32))])) _
              refine XS.ifYes X0.here hx rfl (pc0 := 65) (pc' := 73) rfl (hb hby d2_65) rfl ((if0 _ _).trans (feq (by decide)).2) (by decide) (by decide) ?_
              show Steps p.tables e below (s₁.setTop (mkF m 73 #[.val (.int u1), .val (.int ((u1 ||| (32 : Int32)) - (97 : Int32))), .val (.int (0 : Int32)), .val (.int (u1 - (48 : Int32))), .val (.int (1 : Int32)), .val (.int (1 : Int32))] [])) _
              refine XS.iconst X0.here hx rfl (hb hby d2_73) ?_
              show Steps p.tables e below (s₁.setTop (mkF m 74 #[.val (.int u1), .val (.int ((u1 ||| (32 : Int32)) - (97 : Int32))), .val (.int (0 : Int32)), .val (.int (u1 - (48 : Int32))), .val (.int (1 : Int32)), .val (.int (1 : Int32))] [(.int (1 : Int32))])) _
              refine XS.goto X0.here hx rfl (pc0 := 74) (pc' := 78) rfl (hb hby d2_74) (by decide) (by decide) ?_
              show Steps p.tables e below (s₁.setTop (mkF m 78 #[.val (.int u1), .val (.int ((u1 ||| (32 : Int32)) - (97 : Int32))), .val (.int (0 : Int32)), .val (.int (u1 - (48 : Int32))), .val (.int (1 : Int32)), .val (.int (1 : Int32))] [(.int (1 : Int32))])) _
              exact retN X0 hx (t := .boolean) Bd.returns (by simp) (hb hby d2_78) hr
            · show Q2 Z u1 h0 n0 _ s₁.heap _
              rw [e0]
              exact ⟨by rw [own_exp, if_neg hc9_1, if_neg hc15_7, if_neg hc30_13, if_pos hc36_15, if_pos hc49_16], N0, rfl⟩
          · obtain ⟨fs, hr, hrun, hended, hW, hsame⟩ := X0.leave (v := some (.int (1 : Int32))) (fun h => by rw [Bd.returns] at h; cases h)
            refine ⟨_, _, ?_, hrun, hended, _, _, rfl, ?_, ⟨_, rfl⟩, hW, hsame.mono (by decide) (by decide)⟩
            · show Steps p.tables e below (s₁.setTop (mkF m 49 #[.val (.int u1), .val (.int ((u1 ||| (32 : Int32)) - (97 : Int32))), .val (.int (0 : Int32)), .val (.int (u1 - (48 : Int32))), .val (.int (1 : Int32)), .unset] [(.int (95 : Int32)), (.int u1)])) _
              refine XS.icmpYes X0.here hx rfl (pc0 := 49) (pc' := 56) rfl (hb hby d2_49) rfl (feq hc49_16).2 (by decide) (by decide) ?_
              show Steps p.tables e below (s₁.setTop (mkF m 56 #[.val (.int u1), .val (.int ((u1 ||| (32 : Int32)) - (97 : Int32))), .val (.int (0 : Int32)), .val (.int (u1 - (48 : Int32))), .val (.int (1 : Int32)), .unset] [])) _
              refine XS.iconst X0.here hx rfl (hb hby d2_56) ?_
              show Steps p.tables e below (s₁.setTop (mkF m 57 #[.val (.int u1), .val (.int ((u1 ||| (32 : Int32)) - (97 : Int32))), .val (.int (0 : Int32)), .val (.int (u1 - (48 : Int32))), .val (.int (1 : Int32)), .unset] [(.int (0 : Int32))])) _
              refine XS.istore X0.here hx rfl (hb hby d2_57) rfl (l' := #[.val (.int u1), .val (.int ((u1 ||| (32 : Int32)) - (97 : Int32))), .val (.int (0 : Int32)), .val (.int (u1 - (48 : Int32))), .val (.int (1 : Int32)), .val (.int (0 : Int32))]) rfl ?_
              show Steps p.tables e below (s₁.setTop (mkF m 59 #[.val (.int u1), .val (.int ((u1 ||| (32 : Int32)) - (97 : Int32))), .val (.int (0 : Int32)), .val (.int (u1 - (48 : Int32))), .val (.int (1 : Int32)), .val (.int (0 : Int32))] [])) _
              refine XS.iloadN X0.here hx rfl (hb hby d2_59) rfl ?_
              show Steps p.tables e below (s₁.setTop (mkF m 60 #[.val (.int u1), .val (.int ((u1 ||| (32 : Int32)) - (97 : Int32))), .val (.int (0 : Int32)), .val (.int (u1 - (48 : Int32))), .val (.int (1 : Int32)), .val (.int (0 : Int32))] [(.int (0 : Int32))])) _
              refine XS.ifNo X0.here hx rfl (hb hby d2_60) rfl ((if0 _ _).trans (teq (by decide)).2) ?_
              show Steps p.tables e below (s₁.setTop (mkF m 63 #[.val (.int u1), .val (.int ((u1 ||| (32 : Int32)) - (97 : Int32))), .val (.int (0 : Int32)), .val (.int (u1 - (48 : Int32))), .val (.int (1 : Int32)), .val (.int (0 : Int32))] [])) _
              refine XS.iload X0.here hx rfl (hb hby d2_63) rfl ?_
              show Steps p.tables e below (s₁.setTop (mkF m 65 #[.val (.int u1), .val (.int ((u1 ||| (32 : Int32)) - (97 : Int32))), .val (.int (0 : Int32)), .val (.int (u1 - (48 : Int32))), .val (.int (1 : Int32)), .val (.int (0 : Int32))] [(.int (1 : Int32))])) _
              refine XS.ifYes X0.here hx rfl (pc0 := 65) (pc' := 73) rfl (hb hby d2_65) rfl ((if0 _ _).trans (feq (by decide)).2) (by decide) (by decide) ?_
              show Steps p.tables e below (s₁.setTop (mkF m 73 #[.val (.int u1), .val (.int ((u1 ||| (32 : Int32)) - (97 : Int32))), .val (.int (0 : Int32)), .val (.int (u1 - (48 : Int32))), .val (.int (1 : Int32)), .val (.int (0 : Int32))] [])) _
              refine XS.iconst X0.here hx rfl (hb hby d2_73) ?_
              show Steps p.tables e below (s₁.setTop (mkF m 74 #[.val (.int u1), .val (.int ((u1 ||| (32 : Int32)) - (97 : Int32))), .val (.int (0 : Int32)), .val (.int (u1 - (48 : Int32))), .val (.int (1 : Int32)), .val (.int (0 : Int32))] [(.int (1 : Int32))])) _
              refine XS.goto X0.here hx rfl (pc0 := 74) (pc' := 78) rfl (hb hby d2_74) (by decide) (by decide) ?_
              show Steps p.tables e below (s₁.setTop (mkF m 78 #[.val (.int u1), .val (.int ((u1 ||| (32 : Int32)) - (97 : Int32))), .val (.int (0 : Int32)), .val (.int (u1 - (48 : Int32))), .val (.int (1 : Int32)), .val (.int (0 : Int32))] [(.int (1 : Int32))])) _
              exact retN X0 hx (t := .boolean) Bd.returns (by simp) (hb hby d2_78) hr
            · show Q2 Z u1 h0 n0 _ s₁.heap _
              rw [e0]
              exact ⟨by rw [own_exp, if_neg hc9_1, if_neg hc15_7, if_neg hc30_13, if_pos hc36_15, if_neg hc49_16], N0, rfl⟩
        · refine own_go (B := s₁.setTop (mkF m 49 #[.val (.int u1), .val (.int ((u1 ||| (32 : Int32)) - (97 : Int32))), .val (.int (0 : Int32)), .val (.int (u1 - (48 : Int32))), .val (.int (0 : Int32)), .unset] [(.int (95 : Int32)), (.int u1)])) (fun t k => ?_) ?_
          · show Steps p.tables e below (s₁.setTop (mkF m 36 #[.val (.int u1), .val (.int ((u1 ||| (32 : Int32)) - (97 : Int32))), .val (.int (0 : Int32)), .val (.int (u1 - (48 : Int32))), .unset, .unset] [(.int (10 : Int32)), (.int (u1 - (48 : Int32)))])) _
            refine XS.icmpYes X0.here hx rfl (pc0 := 36) (pc' := 43) rfl (hb hby d2_36) rfl (flt hc36_15).2.1 (by decide) (by decide) ?_
            show Steps p.tables e below (s₁.setTop (mkF m 43 #[.val (.int u1), .val (.int ((u1 ||| (32 : Int32)) - (97 : Int32))), .val (.int (0 : Int32)), .val (.int (u1 - (48 : Int32))), .unset, .unset] [])) _
            refine XS.iconst X0.here hx rfl (hb hby d2_43) ?_
            show Steps p.tables e below (s₁.setTop (mkF m 44 #[.val (.int u1), .val (.int ((u1 ||| (32 : Int32)) - (97 : Int32))), .val (.int (0 : Int32)), .val (.int (u1 - (48 : Int32))), .unset, .unset] [(.int (0 : Int32))])) _
            refine XS.istore X0.here hx rfl (hb hby d2_44) rfl (l' := #[.val (.int u1), .val (.int ((u1 ||| (32 : Int32)) - (97 : Int32))), .val (.int (0 : Int32)), .val (.int (u1 - (48 : Int32))), .val (.int (0 : Int32)), .unset]) rfl ?_
            show Steps p.tables e below (s₁.setTop (mkF m 46 #[.val (.int u1), .val (.int ((u1 ||| (32 : Int32)) - (97 : Int32))), .val (.int (0 : Int32)), .val (.int (u1 - (48 : Int32))), .val (.int (0 : Int32)), .unset] [])) _
            refine XS.iloadN X0.here hx rfl (hb hby d2_46) rfl ?_
            show Steps p.tables e below (s₁.setTop (mkF m 47 #[.val (.int u1), .val (.int ((u1 ||| (32 : Int32)) - (97 : Int32))), .val (.int (0 : Int32)), .val (.int (u1 - (48 : Int32))), .val (.int (0 : Int32)), .unset] [(.int u1)])) _
            refine XS.bipush X0.here hx rfl (hb hby d2_47) ?_
            exact k
          by_cases hc49_17 : u1 = (95 : Int32)
          · obtain ⟨fs, hr, hrun, hended, hW, hsame⟩ := X0.leave (v := some (.int (1 : Int32))) (fun h => by rw [Bd.returns] at h; cases h)
            refine ⟨_, _, ?_, hrun, hended, _, _, rfl, ?_, ⟨_, rfl⟩, hW, hsame.mono (by decide) (by decide)⟩
            · show Steps p.tables e below (s₁.setTop (mkF m 49 #[.val (.int u1), .val (.int ((u1 ||| (32 : Int32)) - (97 : Int32))), .val (.int (0 : Int32)), .val (.int (u1 - (48 : Int32))), .val (.int (0 : Int32)), .unset] [(.int (95 : Int32)), (.int u1)])) _
              refine XS.icmpNo X0.here hx rfl (hb hby d2_49) rfl (teq hc49_17).2 ?_
              show Steps p.tables e below (s₁.setTop (mkF m 52 #[.val (.int u1), .val (.int ((u1 ||| (32 : Int32)) - (97 : Int32))), .val (.int (0 : Int32)), .val (.int (u1 - (48 : Int32))), .val (.int (0 : Int32)), .unset] [])) _
              refine XS.iconst X0.here hx rfl (hb hby d2_52) ?_
              show Steps p.tables e below (s₁.setTop (mkF m 53 #[.val (.int u1), .val (.int ((u1 ||| (32 : Int32)) - (97 : Int32))), .val (.int (0 : Int32)), .val (.int (u1 - (48 : Int32))), .val (.int (0 : Int32)), .unset] [(.int (1 : Int32))])) _
              refine XS.goto X0.here hx rfl (pc0 := 53) (pc' := 57) rfl (hb hby d2_53) (by decide) (by decide) ?_
              show Steps p.tables e below (s₁.setTop (mkF m 57 #[.val (.int u1), .val (.int ((u1 ||| (32 : Int32)) - (97 : Int32))), .val (.int (0 : Int32)), .val (.int (u1 - (48 : Int32))), .val (.int (0 : Int32)), .unset] [(.int (1 : Int32))])) _
              refine XS.istore X0.here hx rfl (hb hby d2_57) rfl (l' := #[.val (.int u1), .val (.int ((u1 ||| (32 : Int32)) - (97 : Int32))), .val (.int (0 : Int32)), .val (.int (u1 - (48 : Int32))), .val (.int (0 : Int32)), .val (.int (1 : Int32))]) rfl ?_
              show Steps p.tables e below (s₁.setTop (mkF m 59 #[.val (.int u1), .val (.int ((u1 ||| (32 : Int32)) - (97 : Int32))), .val (.int (0 : Int32)), .val (.int (u1 - (48 : Int32))), .val (.int (0 : Int32)), .val (.int (1 : Int32))] [])) _
              refine XS.iloadN X0.here hx rfl (hb hby d2_59) rfl ?_
              show Steps p.tables e below (s₁.setTop (mkF m 60 #[.val (.int u1), .val (.int ((u1 ||| (32 : Int32)) - (97 : Int32))), .val (.int (0 : Int32)), .val (.int (u1 - (48 : Int32))), .val (.int (0 : Int32)), .val (.int (1 : Int32))] [(.int (0 : Int32))])) _
              refine XS.ifNo X0.here hx rfl (hb hby d2_60) rfl ((if0 _ _).trans (teq (by decide)).2) ?_
              show Steps p.tables e below (s₁.setTop (mkF m 63 #[.val (.int u1), .val (.int ((u1 ||| (32 : Int32)) - (97 : Int32))), .val (.int (0 : Int32)), .val (.int (u1 - (48 : Int32))), .val (.int (0 : Int32)), .val (.int (1 : Int32))] [])) _
              refine XS.iload X0.here hx rfl (hb hby d2_63) rfl ?_
              show Steps p.tables e below (s₁.setTop (mkF m 65 #[.val (.int u1), .val (.int ((u1 ||| (32 : Int32)) - (97 : Int32))), .val (.int (0 : Int32)), .val (.int (u1 - (48 : Int32))), .val (.int (0 : Int32)), .val (.int (1 : Int32))] [(.int (0 : Int32))])) _
              refine XS.ifNo X0.here hx rfl (hb hby d2_65) rfl ((if0 _ _).trans (teq (by decide)).2) ?_
              show Steps p.tables e below (s₁.setTop (mkF m 68 #[.val (.int u1), .val (.int ((u1 ||| (32 : Int32)) - (97 : Int32))), .val (.int (0 : Int32)), .val (.int (u1 - (48 : Int32))), .val (.int (0 : Int32)), .val (.int (1 : Int32))] [])) _
              refine XS.iload X0.here hx rfl (hb hby d2_68) rfl ?_
              show Steps p.tables e below (s₁.setTop (mkF m 70 #[.val (.int u1), .val (.int ((u1 ||| (32 : Int32)) - (97 : Int32))), .val (.int (0 : Int32)), .val (.int (u1 - (48 : Int32))), .val (.int (0 : Int32)), .val (.int (1 : Int32))] [(.int (1 : Int32))])) _
              refine XS.ifNo X0.here hx rfl (hb hby d2_70) rfl ((if0 _ _).trans (feq (by decide)).1) ?_
              show Steps p.tables e below (s₁.setTop (mkF m 73 #[.val (.int u1), .val (.int ((u1 ||| (32 : Int32)) - (97 : Int32))), .val (.int (0 : Int32)), .val (.int (u1 - (48 : Int32))), .val (.int (0 : Int32)), .val (.int (1 : Int32))] [])) _
              refine XS.iconst X0.here hx rfl (hb hby d2_73) ?_
              show Steps p.tables e below (s₁.setTop (mkF m 74 #[.val (.int u1), .val (.int ((u1 ||| (32 : Int32)) - (97 : Int32))), .val (.int (0 : Int32)), .val (.int (u1 - (48 : Int32))), .val (.int (0 : Int32)), .val (.int (1 : Int32))] [(.int (1 : Int32))])) _
              refine XS.goto X0.here hx rfl (pc0 := 74) (pc' := 78) rfl (hb hby d2_74) (by decide) (by decide) ?_
              show Steps p.tables e below (s₁.setTop (mkF m 78 #[.val (.int u1), .val (.int ((u1 ||| (32 : Int32)) - (97 : Int32))), .val (.int (0 : Int32)), .val (.int (u1 - (48 : Int32))), .val (.int (0 : Int32)), .val (.int (1 : Int32))] [(.int (1 : Int32))])) _
              exact retN X0 hx (t := .boolean) Bd.returns (by simp) (hb hby d2_78) hr
            · show Q2 Z u1 h0 n0 _ s₁.heap _
              rw [e0]
              exact ⟨by rw [own_exp, if_neg hc9_1, if_neg hc15_7, if_neg hc30_13, if_neg hc36_15, if_pos hc49_17], N0, rfl⟩
          · obtain ⟨fs, hr, hrun, hended, hW, hsame⟩ := X0.leave (v := some (.int (0 : Int32))) (fun h => by rw [Bd.returns] at h; cases h)
            refine ⟨_, _, ?_, hrun, hended, _, _, rfl, ?_, ⟨_, rfl⟩, hW, hsame.mono (by decide) (by decide)⟩
            · show Steps p.tables e below (s₁.setTop (mkF m 49 #[.val (.int u1), .val (.int ((u1 ||| (32 : Int32)) - (97 : Int32))), .val (.int (0 : Int32)), .val (.int (u1 - (48 : Int32))), .val (.int (0 : Int32)), .unset] [(.int (95 : Int32)), (.int u1)])) _
              refine XS.icmpYes X0.here hx rfl (pc0 := 49) (pc' := 56) rfl (hb hby d2_49) rfl (feq hc49_17).2 (by decide) (by decide) ?_
              show Steps p.tables e below (s₁.setTop (mkF m 56 #[.val (.int u1), .val (.int ((u1 ||| (32 : Int32)) - (97 : Int32))), .val (.int (0 : Int32)), .val (.int (u1 - (48 : Int32))), .val (.int (0 : Int32)), .unset] [])) _
              refine XS.iconst X0.here hx rfl (hb hby d2_56) ?_
              show Steps p.tables e below (s₁.setTop (mkF m 57 #[.val (.int u1), .val (.int ((u1 ||| (32 : Int32)) - (97 : Int32))), .val (.int (0 : Int32)), .val (.int (u1 - (48 : Int32))), .val (.int (0 : Int32)), .unset] [(.int (0 : Int32))])) _
              refine XS.istore X0.here hx rfl (hb hby d2_57) rfl (l' := #[.val (.int u1), .val (.int ((u1 ||| (32 : Int32)) - (97 : Int32))), .val (.int (0 : Int32)), .val (.int (u1 - (48 : Int32))), .val (.int (0 : Int32)), .val (.int (0 : Int32))]) rfl ?_
              show Steps p.tables e below (s₁.setTop (mkF m 59 #[.val (.int u1), .val (.int ((u1 ||| (32 : Int32)) - (97 : Int32))), .val (.int (0 : Int32)), .val (.int (u1 - (48 : Int32))), .val (.int (0 : Int32)), .val (.int (0 : Int32))] [])) _
              refine XS.iloadN X0.here hx rfl (hb hby d2_59) rfl ?_
              show Steps p.tables e below (s₁.setTop (mkF m 60 #[.val (.int u1), .val (.int ((u1 ||| (32 : Int32)) - (97 : Int32))), .val (.int (0 : Int32)), .val (.int (u1 - (48 : Int32))), .val (.int (0 : Int32)), .val (.int (0 : Int32))] [(.int (0 : Int32))])) _
              refine XS.ifNo X0.here hx rfl (hb hby d2_60) rfl ((if0 _ _).trans (teq (by decide)).2) ?_
              show Steps p.tables e below (s₁.setTop (mkF m 63 #[.val (.int u1), .val (.int ((u1 ||| (32 : Int32)) - (97 : Int32))), .val (.int (0 : Int32)), .val (.int (u1 - (48 : Int32))), .val (.int (0 : Int32)), .val (.int (0 : Int32))] [])) _
              refine XS.iload X0.here hx rfl (hb hby d2_63) rfl ?_
              show Steps p.tables e below (s₁.setTop (mkF m 65 #[.val (.int u1), .val (.int ((u1 ||| (32 : Int32)) - (97 : Int32))), .val (.int (0 : Int32)), .val (.int (u1 - (48 : Int32))), .val (.int (0 : Int32)), .val (.int (0 : Int32))] [(.int (0 : Int32))])) _
              refine XS.ifNo X0.here hx rfl (hb hby d2_65) rfl ((if0 _ _).trans (teq (by decide)).2) ?_
              show Steps p.tables e below (s₁.setTop (mkF m 68 #[.val (.int u1), .val (.int ((u1 ||| (32 : Int32)) - (97 : Int32))), .val (.int (0 : Int32)), .val (.int (u1 - (48 : Int32))), .val (.int (0 : Int32)), .val (.int (0 : Int32))] [])) _
              refine XS.iload X0.here hx rfl (hb hby d2_68) rfl ?_
              show Steps p.tables e below (s₁.setTop (mkF m 70 #[.val (.int u1), .val (.int ((u1 ||| (32 : Int32)) - (97 : Int32))), .val (.int (0 : Int32)), .val (.int (u1 - (48 : Int32))), .val (.int (0 : Int32)), .val (.int (0 : Int32))] [(.int (0 : Int32))])) _
              refine XS.ifYes X0.here hx rfl (pc0 := 70) (pc' := 77) rfl (hb hby d2_70) rfl ((if0 _ _).trans (teq (by decide)).1) (by decide) (by decide) ?_
              show Steps p.tables e below (s₁.setTop (mkF m 77 #[.val (.int u1), .val (.int ((u1 ||| (32 : Int32)) - (97 : Int32))), .val (.int (0 : Int32)), .val (.int (u1 - (48 : Int32))), .val (.int (0 : Int32)), .val (.int (0 : Int32))] [])) _
              refine XS.iconst X0.here hx rfl (hb hby d2_77) ?_
              show Steps p.tables e below (s₁.setTop (mkF m 78 #[.val (.int u1), .val (.int ((u1 ||| (32 : Int32)) - (97 : Int32))), .val (.int (0 : Int32)), .val (.int (u1 - (48 : Int32))), .val (.int (0 : Int32)), .val (.int (0 : Int32))] [(.int (0 : Int32))])) _
              exact retN X0 hx (t := .boolean) Bd.returns (by simp) (hb hby d2_78) hr
            · show Q2 Z u1 h0 n0 _ s₁.heap _
              rw [e0]
              exact ⟨by rw [own_exp, if_neg hc9_1, if_neg hc15_7, if_neg hc30_13, if_neg hc36_15, if_neg hc49_17], N0, rfl⟩
theorem own_i2c (x : Int32) : (x &&& (65535 : Int32)).toUInt32.toUInt16.toUInt32.toInt32 = x &&& (65535 : Int32) := by
  have h1 := c_i2c (x &&& (65535 : Int32))
  have h2 := c_mask x 65535 16 (by decide) (by decide)
  apply Int32.toInt_inj.mp
  omega
theorem own_small : ∀ i : Fin 128, own_starts (Int32.ofNat i.1) = own_exp (Int32.ofNat i.1) := by decide +kernel
theorem own_big (u : Int32) (h : 128 ≤ u.toInt) (h' : u.toInt < 65536) : own_starts u = own_exp u := by
  have k65 : (65 : Int32).toInt = 65 := by decide
  have k90 : (90 : Int32).toInt = 90 := by decide
  have k97 : (97 : Int32).toInt = 97 := by decide
  have k122 : (122 : Int32).toInt = 122 := by decide
  have k48 : (48 : Int32).toInt = 48 := by decide
  have k57 : (57 : Int32).toInt = 57 := by decide
  have k95 : (95 : Int32).toInt = 95 := by decide
  have k0 : (0 : Int32).toInt = 0 := by decide
  have k26 : (26 : Int32).toInt = 26 := by decide
  have k10 : (10 : Int32).toInt = 10 := by decide
  have k32 : (32 : Int32).toInt = 32 := by decide
  have a1 : ¬ u < 65 := by rw [Int32.lt_iff_toInt_lt]; omega
  have a2 : (90 : Int32) < u := by rw [Int32.lt_iff_toInt_lt]; omega
  have a3 : ¬ u < 97 := by rw [Int32.lt_iff_toInt_lt]; omega
  have a4 : (122 : Int32) < u := by rw [Int32.lt_iff_toInt_lt]; omega
  have a5 : ¬ u < 48 := by rw [Int32.lt_iff_toInt_lt]; omega
  have a6 : (57 : Int32) < u := by rw [Int32.lt_iff_toInt_lt]; omega
  have a7 : ¬ u = 95 := fun q => by subst q; omega
  have o1 := c_or0 u 32 (by omega) (by omega)
  have o2 := c_isub (u ||| 32) 97
  have o3 := rng32 (u ||| 32)
  have o4 := rng32 ((u ||| 32) - 97)
  have b1 : ¬ ((u ||| 32) - 97) < 0 := by rw [Int32.lt_iff_toInt_lt]; omega
  have b2 : ¬ ((u ||| 32) - 97) < 26 := by rw [Int32.lt_iff_toInt_lt]; omega
  have o5 := c_isub u 48
  have o6 := rng32 (u - 48)
  have b3 : ¬ (u - 48) < 0 := by rw [Int32.lt_iff_toInt_lt]; omega
  have b4 : ¬ (u - 48) < 10 := by rw [Int32.lt_iff_toInt_lt]; omega
  simp only [own_starts, own_exp, a1, a2, a3, a4, a5, a6, a7, b1, b2, b3, b4, if_true, if_false]
theorem own_law (x : Int32) : own_starts (x &&& (65535 : Int32)).toUInt32.toUInt16.toUInt32.toInt32 = own_exp (x &&& (65535 : Int32)) := by
  rw [own_i2c]
  have h2 := c_mask x 65535 16 (by decide) (by decide)
  generalize x &&& (65535 : Int32) = u at *
  by_cases h : 128 ≤ u.toInt
  · exact own_big u h (by omega)
  · have h3 : u = Int32.ofNat u.toInt.toNat := by
      apply Int32.toInt_inj.mp
      rw [Int32.toInt_ofNat_of_lt (by omega)]
      omega
    have h4 : u.toInt.toNat < 128 := by omega
    rw [h3]
    exact own_small ⟨u.toInt.toNat, h4⟩
theorem pn_0 : plainName "com/example/palinode/palinode/SagaLexerStartsNamePinLaw" = true := by first | (simp [plainName, overriddenIn]; done) | decide +kernel
theorem ef_0 (m : MethodId) (x0 : Int32) : entryFrame m #[(.int x0)] maxLocals = mkF m 0 #[.val (.int x0), .unset, .unset] [] := by first | (simp [entryFrame, mkF, argsToLocals, Value.category, maxLocals]; done) | rfl
def Q0 (Z : State) (p1 : Int32) (h0 : Heap) (n0 : Nat) (v : Option Value) (h : Heap) (L : List Loc) : Prop := v = some (.int 1) ∧ Fr n0 L
set_option maxRecDepth 65536 in
set_option maxHeartbeats 40000000 in
theorem rm0 (l : Launch) (Z : State) (a0 : Array Value) (hw : ∀ d ∈ tables_1, d.before a0 Z = true) (ws : List Jvm.Cond) (p1 : Int32) (h0 : Heap) (n0 : Nat) (Z0 : n0 ≤ h0.size) :
    MetFree l x (head1 (Jvm.Cond.code x code maxLocals ret :: ws) room_1) (fun a U => a = #[(.int p1)] ∧ Z.Warmed39 U.vm ∧ U.heap = h0) (fun _ _ _ _ _ => True) (fun _ U o U' => ∃ v L, o = .returned v ∧ Q0 Z p1 h0 n0 v U'.heap L ∧ FrameEnd U o U' L room_1.cells room_1.slots) := by
  refine MetFree.of_bodySF (plainFor_of_name pn_0) hisR ?_
  intro p e s m args below meth c s₁ Bd hml0 hP hK
  obtain ⟨rfl, hZ, hh⟩ := hP
  have hx := Bd.exec
  have hby := Bd.bytes
  have hml : c.maxLocals = 3 := hml0
  have hown : s.vm.findClass "com/example/palinode/palinode/SagaLexerStartsNamePinLaw" = some m.cls := findClass_of_methodNamed Bd.named
  have hnm := (name_of_methodNamed Bd.named Bd.method).1
  have X0 : Stand p l e room_1 s m #[(.int p1)] below meth c s₁ [] 0 0 := Stand.of_body Bd
  have e0 : s₁.heap = h0 := by rw [← hh, Bd.state]; rfl
  have N0 := Fr.nil n0
  refine own_go (B := s₁.setTop (mkF m 0 #[.val (.int p1), .unset, .unset] [])) (fun t k => castTop (ef_0 m p1) k) ?_
  refine own_go (B := s₁.setTop (mkF m 9 #[.val (.int p1), .val (.int (p1 &&& (65535 : Int32))), .val (.int ((p1 &&& (65535 : Int32)).toUInt32.toUInt16.toUInt32.toInt32))] [(.int ((p1 &&& (65535 : Int32)).toUInt32.toUInt16.toUInt32.toInt32))])) (fun t k => ?_) ?_
  · show Steps p.tables e below (s₁.setTop (mkF m 0 #[.val (.int p1), .unset, .unset] [])) _
    refine XS.iloadN X0.here hx rfl (hb hby at_0) rfl ?_
    show Steps p.tables e below (s₁.setTop (mkF m 1 #[.val (.int p1), .unset, .unset] [(.int p1)])) _
    refine X0.ldcInt hx hown (mvT hZ (hw _ (List.mem_of_getElem? (i := 0) rfl))) (g := (mkF m 1 #[.val (.int p1), .unset, .unset] [(.int p1)])) rfl (hb hby at_1) _ ?_
    show Steps p.tables e below (s₁.setTop (mkF m 3 #[.val (.int p1), .unset, .unset] [(.int (65535 : Int32)), (.int p1)])) _
    refine XS.iand X0.here hx rfl (hb hby at_3) rfl ?_
    show Steps p.tables e below (s₁.setTop (mkF m 4 #[.val (.int p1), .unset, .unset] [(.int (p1 &&& (65535 : Int32)))])) _
    refine XS.istoreN X0.here hx rfl (hb hby at_4) rfl (l' := #[.val (.int p1), .val (.int (p1 &&& (65535 : Int32))), .unset]) rfl ?_
    show Steps p.tables e below (s₁.setTop (mkF m 5 #[.val (.int p1), .val (.int (p1 &&& (65535 : Int32))), .unset] [])) _
    refine XS.iloadN X0.here hx rfl (hb hby at_5) rfl ?_
    show Steps p.tables e below (s₁.setTop (mkF m 6 #[.val (.int p1), .val (.int (p1 &&& (65535 : Int32))), .unset] [(.int (p1 &&& (65535 : Int32)))])) _
    refine XS.i2c X0.here hx rfl (hb hby at_6) rfl ?_
    show Steps p.tables e below (s₁.setTop (mkF m 7 #[.val (.int p1), .val (.int (p1 &&& (65535 : Int32))), .unset] [(.int ((p1 &&& (65535 : Int32)).toUInt32.toUInt16.toUInt32.toInt32))])) _
    refine XS.istoreN X0.here hx rfl (hb hby at_7) rfl (l' := #[.val (.int p1), .val (.int (p1 &&& (65535 : Int32))), .val (.int ((p1 &&& (65535 : Int32)).toUInt32.toUInt16.toUInt32.toInt32))]) rfl ?_
    show Steps p.tables e below (s₁.setTop (mkF m 8 #[.val (.int p1), .val (.int (p1 &&& (65535 : Int32))), .val (.int ((p1 &&& (65535 : Int32)).toUInt32.toUInt16.toUInt32.toInt32))] [])) _
    refine XS.iloadN X0.here hx rfl (hb hby at_8) rfl ?_
    exact k
  obtain ⟨_, _, ⟨T1, L1, k1, n1⟩, -, X1, ⟨Lc1, hQ1, l1, y1, z1⟩, st1⟩ := Jvm.LawKit.callS X0 hx (y := (⟨"com/example/palinode/palinode/SagaLexer", "startsName", "(C)Z"⟩ : MethodName)) hown (mvT hZ (hw _ (List.mem_of_getElem? (i := 1) rfl))) (mvT hZ (hw _ (List.mem_of_getElem? (i := 2) rfl))) (mvT hZ (hw _ (List.mem_of_getElem? (i := 3) rfl))) (mvT hZ (hw _ (List.mem_of_getElem? (i := 4) rfl))) (by decide) (backOf (W := 0) (rm1 l Z a0 hw [] ((p1 &&& (65535 : Int32)).toUInt32.toUInt16.toUInt32.toInt32) h0 n0 Z0) hZ (hw _ (List.mem_of_getElem? (i := 4) rfl)) (hw _ (List.mem_of_getElem? (i := 3) rfl)) (by decide) (by decide)) (g := (mkF m 9 #[.val (.int p1), .val (.int (p1 &&& (65535 : Int32))), .val (.int ((p1 &&& (65535 : Int32)).toUInt32.toUInt16.toUInt32.toInt32))] [(.int ((p1 &&& (65535 : Int32)).toUInt32.toUInt16.toUInt32.toInt32))])) rfl (by rw [hml]; rfl) (argsL := [(.int ((p1 &&& (65535 : Int32)).toUInt32.toUInt16.toUInt32.toInt32))]) (rest := []) (lenOf own_pd0 rfl) rfl (by show 2 * 0 + _ ≤ _; exact Nat.le_of_eq rfl) (hb hby at_9) (fun _ _ => ⟨rfl, e0, (by decide : 0 + 0 ≤ _), (by decide : 0 + 0 ≤ _)⟩)
  dsimp only [Pt.U, Pt.locs, Pt.cells, Pt.slots] at X1 l1 y1 z1 st1 hQ1
  subst l1 y1 z1
  obtain ⟨rfl, N1q, eq1⟩ := hQ1
  have N1 := Fr.app N0 N1q
  refine own_go (B := T1.setTop (mkF m 12 #[.val (.int p1), .val (.int (p1 &&& (65535 : Int32))), .val (.int ((p1 &&& (65535 : Int32)).toUInt32.toUInt16.toUInt32.toInt32))] [(.int (own_starts ((p1 &&& (65535 : Int32)).toUInt32.toUInt16.toUInt32.toInt32)))])) (fun t k => st1 _ k) ?_
  refine own_go (B := T1.setTop (mkF m 13 #[.val (.int p1), .val (.int (p1 &&& (65535 : Int32))), .val (.int ((p1 &&& (65535 : Int32)).toUInt32.toUInt16.toUInt32.toInt32))] [(.int (p1 &&& (65535 : Int32))), (.int (own_starts ((p1 &&& (65535 : Int32)).toUInt32.toUInt16.toUInt32.toInt32)))])) (fun t k => ?_) ?_
  · show Steps p.tables e below (T1.setTop (mkF m 12 #[.val (.int p1), .val (.int (p1 &&& (65535 : Int32))), .val (.int ((p1 &&& (65535 : Int32)).toUInt32.toUInt16.toUInt32.toInt32))] [(.int (own_starts ((p1 &&& (65535 : Int32)).toUInt32.toUInt16.toUInt32.toInt32)))])) _
    refine XS.iloadN X1.here hx rfl (hb hby at_12) rfl ?_
    exact k
  obtain ⟨_, _, ⟨T2, L2, k2, n2⟩, -, X2, ⟨Lc2, hQ2, l2, y2, z2⟩, st2⟩ := Jvm.LawKit.callS X1 hx (y := (⟨"com/example/palinode/palinode/SagaLexerStartsNamePinLaw", "expected", "(I)Z"⟩ : MethodName)) hown (mvT hZ (hw _ (List.mem_of_getElem? (i := 5) rfl))) (mvT hZ (hw _ (List.mem_of_getElem? (i := 6) rfl))) (mvT hZ (hw _ (List.mem_of_getElem? (i := 7) rfl))) (mvT hZ (hw _ (List.mem_of_getElem? (i := 8) rfl))) (by decide) (backOf (W := 1) (rm2 l Z a0 hw [] (p1 &&& (65535 : Int32)) h0 n0 Z0) hZ (hw _ (List.mem_of_getElem? (i := 8) rfl)) (hw _ (List.mem_of_getElem? (i := 7) rfl)) (by decide) (by decide)) (g := (mkF m 13 #[.val (.int p1), .val (.int (p1 &&& (65535 : Int32))), .val (.int ((p1 &&& (65535 : Int32)).toUInt32.toUInt16.toUInt32.toInt32))] [(.int (p1 &&& (65535 : Int32))), (.int (own_starts ((p1 &&& (65535 : Int32)).toUInt32.toUInt16.toUInt32.toInt32)))])) rfl (by rw [hml]; rfl) (argsL := [(.int (p1 &&& (65535 : Int32)))]) (rest := [(.int (own_starts ((p1 &&& (65535 : Int32)).toUInt32.toUInt16.toUInt32.toInt32)))]) (lenOf own_pd1 rfl) rfl (by show 2 * 0 + _ ≤ _; exact Nat.le_of_eq rfl) (hb hby at_13) (fun _ _ => ⟨rfl, eq1, (by decide : 0 + 0 ≤ _), (by decide : 0 + 0 ≤ _)⟩)
  dsimp only [Pt.U, Pt.locs, Pt.cells, Pt.slots] at X2 l2 y2 z2 st2 hQ2
  subst l2 y2 z2
  obtain ⟨rfl, N2q, eq2⟩ := hQ2
  have N2 := Fr.app N1 N2q
  refine own_go (B := T2.setTop (mkF m 16 #[.val (.int p1), .val (.int (p1 &&& (65535 : Int32))), .val (.int ((p1 &&& (65535 : Int32)).toUInt32.toUInt16.toUInt32.toInt32))] [(.int (own_exp (p1 &&& (65535 : Int32)))), (.int (own_starts ((p1 &&& (65535 : Int32)).toUInt32.toUInt16.toUInt32.toInt32)))])) (fun t k => st2 _ k) ?_
  obtain ⟨fs, hr, hrun, hended, hW, hsame⟩ := X2.leave (v := some (.int (1 : Int32))) (fun h => by rw [Bd.returns] at h; cases h)
  refine ⟨_, _, ?_, hrun, hended, _, _, rfl, ?_, ⟨_, rfl⟩, hW, hsame.mono (by decide) (by decide)⟩
  · show Steps p.tables e below (T2.setTop (mkF m 16 #[.val (.int p1), .val (.int (p1 &&& (65535 : Int32))), .val (.int ((p1 &&& (65535 : Int32)).toUInt32.toUInt16.toUInt32.toInt32))] [(.int (own_exp (p1 &&& (65535 : Int32)))), (.int (own_starts ((p1 &&& (65535 : Int32)).toUInt32.toUInt16.toUInt32.toInt32)))])) _
    refine XS.icmpNo X2.here hx rfl (hb hby at_16) rfl (teq (own_law p1)).2 ?_
    show Steps p.tables e below (T2.setTop (mkF m 19 #[.val (.int p1), .val (.int (p1 &&& (65535 : Int32))), .val (.int ((p1 &&& (65535 : Int32)).toUInt32.toUInt16.toUInt32.toInt32))] [])) _
    refine XS.iconst X2.here hx rfl (hb hby at_19) ?_
    show Steps p.tables e below (T2.setTop (mkF m 20 #[.val (.int p1), .val (.int (p1 &&& (65535 : Int32))), .val (.int ((p1 &&& (65535 : Int32)).toUInt32.toUInt16.toUInt32.toInt32))] [(.int (1 : Int32))])) _
    refine XS.goto X2.here hx rfl (pc0 := 20) (pc' := 24) rfl (hb hby at_20) (by decide) (by decide) ?_
    show Steps p.tables e below (T2.setTop (mkF m 24 #[.val (.int p1), .val (.int (p1 &&& (65535 : Int32))), .val (.int ((p1 &&& (65535 : Int32)).toUInt32.toUInt16.toUInt32.toInt32))] [(.int (1 : Int32))])) _
    exact retN X2 hx (t := .boolean) Bd.returns (by simp) (hb hby at_24) hr
  · show Q0 Z p1 h0 n0 _ T2.heap _
    rw [eq2]
    exact ⟨rfl, N2⟩
set_option maxRecDepth 65536 in
set_option maxHeartbeats 40000000 in
theorem comes_1 {Post : Tables → Env → Array Value → State → Outcome → State → Prop} (hpost : ∀ tb e args s v u, (limb_1_1.after args s (.returned v) u = true ∧ limb_1_2.after args s (.returned v) u = true ∧ True) → FrameEnd s (.returned v) u (Jvm.fieldLocs frame_1_writes args s ++ Jvm.arrayLocs frame_1_arrays args s ++ Jvm.staticLocs frame_1_statics s) 0 0 → Post tb e args s (.returned v) u) :
    ArmFor flags0 classFile x code maxLocals ret World_1 tables_1 room_1 Calls_1 rest_1 Pre_1 Post := by
  intro l hfl _ _ p e ha hc hk s m args below hf hA hF happ hP
  obtain ⟨hcalls, hrest, hpre⟩ := hP
  obtain ⟨-, -, -, hnamed, -, -, -, hat⟩ := (Spec.applies_iff hf).mp happ
  obtain ⟨hg, hn⟩ := and_e (Cond.before_iff.mp (show (Jvm.Cond.and given_1 narrow_1).before args s = true from hpre))
  obtain ⟨gc, ga0⟩ := and_e hg
  obtain ⟨w0, rfl⟩ : ∃ w0 : Value, args = #[w0] := by
    have hs : args.size = 1 := by simpa [Cond.value, given_1] using gc
    obtain ⟨L⟩ := args
    match L, hs with
    | [w0], _ => exact ⟨w0, rfl⟩
  have hw := fun d (hd : d ∈ tables_1) => atoms_spec (ws := Jvm.Cond.code x code maxLocals ret :: tables_1) hat d (List.mem_cons_of_mem _ hd)
  have hfit : Fit s := fun {y c} hc i hi => by
    obtain ⟨ha, rfl⟩ := Array.getElem?_eq_some_iff.mp hc
    have q := List.all_eq_true.mp ((Array.all_eq_true_iff_forall_mem.mp hF) _ (Array.getElem_mem ha)) i (List.mem_range.mpr hi)
    simpa [Array.getElem?_eq_getElem hi] using q
  obtain ⟨i0, ei0⟩ := is_v ga0
  obtain rfl : w0 = (.int i0) := Option.some.inj ei0
  obtain ⟨n, o, h1, h2, h3, _, L, rfl, ⟨rfl, N⟩, hq⟩ := rm0 l s _ hw tables_1 i0 s.heap s.heap.size (Nat.le_refl _)  p e ha hc hk s m _ below hf ((Spec.applies_iff_loose hf).mp happ).1 ⟨rfl, State.Warmed39.refl s, rfl⟩ trivial
  refine ⟨n, _, h1, h2, h3, hpost _ _ _ _ _ _ ⟨Cond.after_iff.mpr rfl, Cond.after_iff.mpr (eq_i res_at (Term.int_eval (1)) rfl), trivial⟩ ⟨hq.1, hq.2.1, (hq.2.2.sift fun y hy => Or.inr (N y hy)).mono (by decide) (by decide)⟩⟩
theorem main_1_1 : Claimed_1_1 := comes_1 fun _ _ _ _ _ _ h hF => ⟨h.1, hF⟩
theorem main_1_2 : Claimed_1_2 := comes_1 fun _ _ _ _ _ _ h hF => ⟨h.2.1, hF⟩
end Jvm.Pilot.@@N@@
namespace Jvm.Pilot.@@N@@
open Jvm Jvm.ClassFile Sem Op Lib Jvm.Free Jvm.Stand Jvm.Pilot.@@N@@.Jvm.D
/-! MADE BY PROGRAM (witnessworld.py) out of the Statement's table words and the real class files: 7 classes; the members and pool entries that the words name. The judged class is class 1, her method 2. -/
namespace start1
open Jvm.ClassFile
def u (s : String) : CpInfo := .utf8 (stringToUtf16 s)
/-- a pool by its gaps: so many unusable entries, then the entry; so many at the end -/
def gap : Nat → List CpInfo → List CpInfo
  | 0, r => r
  | n + 1, r => .unusable :: gap n r
def poolList (es : List (Nat × CpInfo)) (last : Nat) : List CpInfo := es.foldr (fun e r => gap e.1 (e.2 :: r)) (gap last [])
def pool (es : List (Nat × CpInfo)) (last : Nat) : Array CpInfo := ⟨poolList es last⟩
def fileOf (pool : Array CpInfo) (this : Nat) (attrs : Array Attribute := #[]) (ms : Array MethodInfo := #[]) (fl : Nat := 33) (sup : Nat := 0) (ifs : Array Nat := #[]) (fds : Array FieldInfo := #[]) : ClassFile where
  minorVersion := 0
  majorVersion := 65
  constantPool := pool
  accessFlags := fl
  thisClass := this
  superClass := sup
  interfaces := ifs
  fields := fds
  methods := ms
  attributes := attrs
def plain (name : String) (sup : Option ClassId) : Class where
  name := name
  kind := .ordinary
  loader := none
  accessFlags := 33
  super := sup
  interfaces := #[]
  cf := none
  fields := #[]
  methods := #[]
  instanceTypes := #[]
  staticTypes := #[]
  resolved := #[]
  callSites := []
  init := .initialized
  statics := none
  mirror := none

def pool0 : Array CpInfo := pool [(5, u "<init>"), (0, u "()V"), (1, .class_ 10), (1, u "java/lang/Object")] 113

def k0m0 : Method := { name := "<init>", desc := "()V", sig := { parameters := [], returnType := none }, accessFlags := 1, code := none }
/-- java/lang/Object -/
def k0 : Class := { plain "java/lang/Object" none with
  accessFlags := 33
  interfaces := #[]
  cf := some (fileOf pool0 8 #[] #[{ accessFlags := 1, nameIndex := 5, descriptorIndex := 6, attributes := #[] }] 33 0 #[] #[])
  fields := #[]
  methods := #[k0m0]
  instanceTypes := #[]
  staticTypes := #[]
  resolved := Array.replicate 124 none
  statics := none }

def pool1 : Array CpInfo := pool [(2, .class_ 4), (1, u "java/lang/Object"), (0, u "<init>"), (0, u "()V"), (0, .integer 65535), (0, .methodref 9 10), (0, .class_ 11), (0, .nameAndType 12 13), (0, u "com/example/palinode/palinode/SagaLexer"), (0, u "startsName"), (0, u "(C)Z"), (0, .methodref 15 16), (0, .class_ 17), (0, .nameAndType 18 19), (0, u "com/example/palinode/palinode/SagaLexerStartsNamePinLaw"), (0, u "expected"), (0, u "(I)Z"), (3, u "law")] 2

def k1m0 : Method := { name := "<init>", desc := "()V", sig := { parameters := [], returnType := none }, accessFlags := 2, code := none }
def k1c1 : Code := { maxStack := 2, maxLocals := 6, code := method_2_code, exceptionTable := #[], attributes := #[] }
def k1m1 : Method := { name := "expected", desc := "(I)Z", sig := { parameters := [.int], returnType := some .boolean }, accessFlags := 10, code := some k1c1 }
def k1c2 : Code := { maxStack := 2, maxLocals := 3, code := code, exceptionTable := #[], attributes := #[] }
def k1m2 : Method := { name := "law", desc := "(I)Z", sig := { parameters := [.int], returnType := some .boolean }, accessFlags := 9, code := some k1c2 }
/-- com/example/palinode/palinode/SagaLexerStartsNamePinLaw -/
def k1 : Class := { plain "com/example/palinode/palinode/SagaLexerStartsNamePinLaw" (some 0) with
  accessFlags := 49
  interfaces := #[]
  cf := some (fileOf pool1 15 #[] #[{ accessFlags := 2, nameIndex := 5, descriptorIndex := 6, attributes := #[] }, { accessFlags := 10, nameIndex := 18, descriptorIndex := 19, attributes := #[] }, { accessFlags := 9, nameIndex := 23, descriptorIndex := 19, attributes := #[] }] 49 2 #[] #[])
  fields := #[]
  methods := #[k1m0, k1m1, k1m2]
  instanceTypes := #[]
  staticTypes := #[]
  resolved := Array.replicate 26 none
  statics := none }

def pool2 : Array CpInfo := pool [(2, .class_ 4), (1, u "java/lang/Object"), (3, .class_ 10), (1, u "com/example/palinode/palinode/SagaLexer"), (0, u "line"), (0, u "I"), (2, u "text"), (0, u "Ljava/lang/String;"), (2, u "peeked"), (0, u "Lcom/example/palinode/palinode/SagaLexer$Token;"), (12, u "offset"), (2, u "lineStart"), (6, .class_ 44), (0, u "com/example/palinode/palinode/SagaLexer$Token"), (1, .class_ 48), (1, u "com/example/palinode/palinode/SagaLexer$Kind"), (13, u "startsName"), (0, u "(C)Z")] 155

def k2c0 : Code := { maxStack := 2, maxLocals := 1, code := prog_55_method_12_code, exceptionTable := #[], attributes := #[] }
def k2m0 : Method := { name := "startsName", desc := "(C)Z", sig := { parameters := [.char], returnType := some .boolean }, accessFlags := 8, code := some k2c0 }
/-- com/example/palinode/palinode/SagaLexer -/
def k2 : Class := { plain "com/example/palinode/palinode/SagaLexer" (some 0) with
  accessFlags := 48
  interfaces := #[]
  cf := some (fileOf pool2 8 #[.nestMembers #[43, 46]] #[{ accessFlags := 8, nameIndex := 62, descriptorIndex := 63, attributes := #[] }] 48 2 #[] #[{ accessFlags := 18, nameIndex := 15, descriptorIndex := 16, attributes := #[] }, { accessFlags := 2, nameIndex := 33, descriptorIndex := 12, attributes := #[] }, { accessFlags := 2, nameIndex := 11, descriptorIndex := 12, attributes := #[] }, { accessFlags := 2, nameIndex := 36, descriptorIndex := 12, attributes := #[] }, { accessFlags := 2, nameIndex := 19, descriptorIndex := 20, attributes := #[] }])
  fields := #[{ name := "text", type := (.object "java/lang/String"), accessFlags := 18, slot := 0, constantValue := 0 }, { name := "offset", type := .int, accessFlags := 2, slot := 1, constantValue := 0 }, { name := "line", type := .int, accessFlags := 2, slot := 2, constantValue := 0 }, { name := "lineStart", type := .int, accessFlags := 2, slot := 3, constantValue := 0 }, { name := "peeked", type := (.object "com/example/palinode/palinode/SagaLexer$Token"), accessFlags := 2, slot := 4, constantValue := 0 }]
  methods := #[k2m0]
  instanceTypes := #[(.object "java/lang/String"), .int, .int, .int, (.object "com/example/palinode/palinode/SagaLexer$Token")]
  staticTypes := #[]
  resolved := Array.replicate 219 none
  statics := none }

def pool3 : Array CpInfo := pool [(1, u "java/lang/Cloneable"), (0, .class_ 1), (0, u "java/lang/Object"), (0, .class_ 3)] 3

/-- java/lang/Cloneable -/
def k3 : Class := { plain "java/lang/Cloneable" (some 0) with
  accessFlags := 1537
  interfaces := #[]
  cf := some (fileOf pool3 2 #[] #[] 1537 4 #[] #[])
  fields := #[]
  methods := #[]
  instanceTypes := #[]
  staticTypes := #[]
  resolved := Array.replicate 8 none
  statics := none }

def pool4 : Array CpInfo := pool [(1, u "java/io/Serializable"), (0, .class_ 1), (0, u "java/lang/Object"), (0, .class_ 3)] 3

/-- java/io/Serializable -/
def k4 : Class := { plain "java/io/Serializable" (some 0) with
  accessFlags := 1537
  interfaces := #[]
  cf := some (fileOf pool4 2 #[] #[] 1537 4 #[] #[])
  fields := #[]
  methods := #[]
  instanceTypes := #[]
  staticTypes := #[]
  resolved := Array.replicate 8 none
  statics := none }

/-- the primitive byte -/
def k5 : Class := { plain "byte" none with kind := .primitive 'B', accessFlags := 0x411 }
/-- [B -/
def k6 : Class := { plain "[B" (some 0) with kind := .array 5 .byte, interfaces := #[3, 4], accessFlags := 1041 }

def heap : Heap := #[]
def classes : Array Class := #[k0, k1, k2, k3, k4, k5, k6]
def interned : List (Array UInt16 × Addr) := []
def slotsUsed : Nat := 0
def theMethod : MethodId := ⟨1, 2⟩
def args0 : Array Value := #[.int 65]
def aboutOver (below : List Frame) : State where
  vm := { classes := classes, interned := interned.toArray }
  heap := heap
  slotsUsed := slotsUsed
  threads := #[{ frames := .invoking theMethod args0 :: below }]
def below0 : List Frame := [.native { method := ⟨0, 0⟩, args := #[] }]
def about1 : State := aboutOver below0
def p0 : Program := .bare "" "" ""
def e0 : Env := launch0.env 0 0 0
theorem w_frames : about1.frames = Frame.invoking theMethod args0 :: below0 := rfl
set_option maxRecDepth 65536 in
theorem w_args : argsFit about1.vm theMethod args0 = true := by decide +kernel
set_option maxRecDepth 65536 in
theorem w_heap : heapFits about1 = true := by decide +kernel
set_option maxRecDepth 65536 in
theorem w_runnable : about1.curStatus? = some .runnable := by decide +kernel
set_option maxRecDepth 65536 in
theorem w_alone : about1.alone = true := by decide +kernel
set_option maxRecDepth 65536 in
theorem w_named : about1.methodNamed? x = some theMethod := by decide +kernel
set_option maxRecDepth 65536 in
theorem w_hears : about1.hears theMethod below0 = true := by decide +kernel
set_option maxRecDepth 65536 in
theorem w_ripe : about1.ripe theMethod args0 below0 = true := by decide +kernel
theorem w_running : about1.status = .running := rfl
set_option maxRecDepth 65536 in
theorem w_room : about1.hasRoom e0.platform room_1 = true :=
  launch0.hasRoom_least _ room_1 (by decide +kernel) (by decide +kernel) (by decide +kernel) (by decide +kernel) (by decide +kernel) (by decide +kernel)
theorem allAtoms_all (ts : List Jvm.Cond) (a : Array Jvm.Value) (st : Jvm.State) : (allAtoms ts).before a st = ts.all (fun c => c.before a st) := by
  induction ts with
  | nil => rfl
  | cons c t ih =>
    show (Jvm.Cond.and c (allAtoms t)).before a st = _
    rw [Jvm.Cond.before_and, ih, List.all_cons]
def words1 : List Jvm.Cond := Jvm.Cond.code x code maxLocals ret :: tables_1
/-- a 'code' word, met by the world's own term for the bytes: nothing is compared byte by byte -/
theorem code_word {y : MethodName} {bytes : ByteArray} {mx : Nat} {rt : Option FieldType} {a : Array Value} {s : State} {m : MethodId} {meth : Method} {c : Code} (h1 : s.methodNamed? y = some m) (h2 : s.vm.method? m = some meth) (h3 : meth.code = some c) (h4 : c.code = bytes)
    (h5 : (c.maxLocals == mx && c.exceptionTable.isEmpty && decide (c.maxStack ≤ mostOperands) && decide (meth.sig.returnType = rt) && !meth.locks && decide (parseMethodDescriptor y.desc = some meth.sig)) = true) : (Jvm.Cond.code y bytes mx rt).before a s = true := by
  simp only [Bool.and_eq_true, beq_iff_eq, Bool.not_eq_true', decide_eq_true_eq] at h5
  obtain ⟨⟨⟨⟨⟨g1, g2⟩, g3⟩, g4⟩, g5⟩, g6⟩ := h5
  simp [Cond.before, Cond.holds, Cond.value, h1, h2, h3, h4, g1, g2, g3, g4, g5, g6]
def isCode : Jvm.Cond → Bool
  | .code _ _ _ _ => true
  | _ => false
theorem all_split {L : List Jvm.Cond} {P : Jvm.Cond → Bool} (h1 : L.all (fun c => isCode c || P c) = true) (h2 : ∀ c ∈ L.filter isCode, P c = true) : L.all P = true := by
  refine List.all_eq_true.mpr fun c hc => ?_
  have h := List.all_eq_true.mp h1 c hc
  rcases Bool.eq_false_or_eq_true (isCode c) with hi | hi
  · exact h2 c (List.mem_filter.mpr ⟨hc, hi⟩)
  · simpa [hi] using h
set_option maxRecDepth 65536 in
theorem w_c0 : (Jvm.Cond.code x code maxLocals ret).before args0 about1 = true := code_word (m := ⟨1, 2⟩) (meth := k1m2) (c := k1c2) (by decide +kernel) rfl rfl rfl (by decide +kernel)
set_option maxRecDepth 65536 in
theorem w_c1 : (Jvm.Cond.code ({ cls := "com/example/palinode/palinode/SagaLexer", name := "startsName", desc := "(C)Z" } : Jvm.MethodName) prog_55_method_12_code (1 : Nat) (Option.some Jvm.ClassFile.FieldType.boolean)).before args0 about1 = true := code_word (m := ⟨2, 0⟩) (meth := k2m0) (c := k2c0) (by decide +kernel) rfl rfl rfl (by decide +kernel)
set_option maxRecDepth 65536 in
theorem w_c2 : (Jvm.Cond.code ({ cls := "com/example/palinode/palinode/SagaLexerStartsNamePinLaw", name := "expected", desc := "(I)Z" } : Jvm.MethodName) method_2_code (6 : Nat) (Option.some Jvm.ClassFile.FieldType.boolean)).before args0 about1 = true := code_word (m := ⟨1, 1⟩) (meth := k1m1) (c := k1c1) (by decide +kernel) rfl rfl rfl (by decide +kernel)
def codes1 : List Jvm.Cond := [Jvm.Cond.code x code maxLocals ret, Jvm.Cond.code ({ cls := "com/example/palinode/palinode/SagaLexer", name := "startsName", desc := "(C)Z" } : Jvm.MethodName) prog_55_method_12_code (1 : Nat) (Option.some Jvm.ClassFile.FieldType.boolean), Jvm.Cond.code ({ cls := "com/example/palinode/palinode/SagaLexerStartsNamePinLaw", name := "expected", desc := "(I)Z" } : Jvm.MethodName) method_2_code (6 : Nat) (Option.some Jvm.ClassFile.FieldType.boolean)]
set_option maxRecDepth 65536 in
theorem codes_eq : words1.filter isCode = codes1 := rfl
theorem w_codes : ∀ c ∈ words1.filter isCode, c.before args0 about1 = true := by
  rw [codes_eq]
  intro c hc
  simp only [codes1, List.mem_cons, List.not_mem_nil, or_false] at hc
  rcases hc with rfl | rfl | rfl
  · exact w_c0
  · exact w_c1
  · exact w_c2
set_option maxRecDepth 65536 in
theorem w_t1 : words1.all (fun c => isCode c || c.before args0 about1) = true := by decide +kernel
theorem w_tables : (allAtoms (Jvm.Cond.code x code maxLocals ret :: tables_1)).before args0 about1 = true := by
  rw [allAtoms_all]
  show words1.all (fun c => c.before args0 about1) = true
  refine all_split ?_ w_codes
  rw [w_t1]
set_option maxRecDepth 65536 in
theorem w_case : (Jvm.Cond.and given_1 narrow_1).before args0 about1 = true := by decide +kernel
theorem w_applies : (headSpec (Jvm.Cond.code x code maxLocals ret :: tables_1) room_1).applies x e0.platform about1 = true :=
  (Spec.applies_iff w_frames).mpr ⟨w_running, w_runnable, w_alone, w_named, w_hears, w_ripe, w_room, w_tables⟩
theorem atStart : AtStart classFile x code maxLocals ret World_1 tables_1 room_1 Calls_1 rest_1 Pre_1 launch0 p0 e0 about1 theMethod args0 below0 :=
  ⟨lists_1, trivial, launch0.admits_env _ _ _, launch0.least_env, fairChoices_fair.cas, fairChoices_fair.clock, w_frames, w_args, w_heap, w_applies, trivial, trivial, w_case⟩
end start1
theorem witness_1 : WitnessClaimed_1 := ⟨start1.p0, start1.e0, start1.about1, start1.theMethod, start1.args0, start1.below0, start1.atStart⟩
end Jvm.Pilot.@@N@@
