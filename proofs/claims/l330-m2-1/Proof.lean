import JvmDerived
import JvmDerived.Pilot.@@N@@Statement
import JvmDerived.Pilot.@@N@@Code
set_option linter.unusedVariables false
set_option linter.unusedSimpArgs false
namespace Jvm.RoadKit
open Sem ClassFile Op Lib Jvm.Stand Jvm.Free Jvm.LawKit
section New
variable {p : Program} {l : Launch} {e : Env} {R : Room} {s : State} {m : MethodId} {args : Array Value} {below : List Frame} {meth : Method} {c : Code} {T : State} {locs : List Loc} {cells slots : Nat}
theorem retI (X : Stand p l e R s m args below meth c T locs cells slots) (hx : p.tables.exec = Jvm.exec) {pc : Nat} {Ls : Array Slot} {z : Int32} {rest : List Value} (hret : meth.sig.returnType = some .int) (hd : decode c.code pc = .ok (.ireturn, 1)) {fs : List Frame}
    (hl : ∀ (f : JFrame) (acts : List Action), f.method = m → f.locked = none → f.entered = [] → (doReturn e (T.setTop f) acts (some (.int z))).1 = T.setFrames fs) : Steps p.tables e below (T.setTop (mkF m pc Ls (.int z :: rest))) (T.setFrames fs) := by
  have hm' : T.vm.method? m = some meth := X.method'
  have hn : narrow .int (.int z) = .int z := rfl
  show Steps p.tables e below (T.setTop { method := m, pc := pc, locals := Ls, stack := _ :: rest, locked := none }) _
  jvm_step X.here [X.here.top, hx, hd, hm', hret, hn]
  first | (intro acts; rw [hl _ acts rfl rfl rfl]) | rw [hl _ _ rfl rfl rfl]
  exact Steps.refl _
end New
end Jvm.RoadKit
namespace Jvm.Pilot.@@N@@
open Jvm Jvm.ClassFile Sem Op Lib Jvm.Free Jvm.Stand Jvm.LawKit Jvm.RoadKit Bundle Jvm.Pilot.@@N@@.Jvm.D
theorem own_go {tb : Tables} {e : Env} {below : List Frame} {A B : State} {R : State → Outcome → Prop} (h : ∀ t, Steps tb e below B t → Steps tb e below A t) (k : ∃ s₂ o, Steps tb e below B s₂ ∧ R s₂ o) : ∃ s₂ o, Steps tb e below A s₂ ∧ R s₂ o := by
  obtain ⟨s₂, o, h1, h2⟩ := k
  exact ⟨s₂, o, h _ h1, h2⟩
theorem own_pd0 : parseMethodDescriptor "()V" = some ⟨[], none⟩ := by decide +kernel
theorem own_pd1 : parseMethodDescriptor "(JIJJJI)V" = some ⟨[.long, .int, .long, .long, .long, .int], none⟩ := by decide +kernel
theorem own_pd2 : parseMethodDescriptor "()J" = some ⟨[], some .long⟩ := by decide +kernel
theorem pn_2 : plainName "java/lang/Record" = true := by first | (simp [plainName, overriddenIn]; done) | decide +kernel
theorem d2_0 : decode jdk_30_method_1_code 0 = .ok (.aload_n 0, 1) := by decide +kernel
theorem d2_1 : decode jdk_30_method_1_code 1 = .ok (.invokespecial 1, 3) := by decide +kernel
theorem d2_4 : decode jdk_30_method_1_code 4 = .ok (.return_, 1) := by decide +kernel
theorem ef_2 (m : MethodId) (x0 : Addr) : entryFrame m #[(.ref x0)] 1 = mkF m 0 #[.val (.ref x0)] [] := by first | (simp [entryFrame, mkF, argsToLocals, Value.category]; done) | rfl
def Q2 (Z : State) (a1 : Addr) (h0 : Heap) (n0 : Nat) (v : Option Value) (h : Heap) (L : List Loc) : Prop := v = none ∧ Fr n0 L ∧ h = h0
set_option maxRecDepth 65536 in
set_option maxHeartbeats 40000000 in
theorem rm2 (l : Launch) (Z : State) (a0 : Array Value) (hw : ∀ d ∈ tables_1, d.before a0 Z = true) (ws : List Jvm.Cond) (a1 : Addr) (h0 : Heap) (n0 : Nat) (Z0 : n0 ≤ h0.size) :
    MetFree l (⟨"java/lang/Record", "<init>", "()V"⟩ : MethodName) (head1 (Jvm.Cond.code (⟨"java/lang/Record", "<init>", "()V"⟩ : MethodName) jdk_30_method_1_code 1 none :: ws) ({ frames := 1, cells := 0, slots := 0, locals := 12 } : Room)) (fun a U => a = #[(.ref a1)] ∧ Z.Warmed39 U.vm ∧ U.heap = h0) (fun _ _ _ _ _ => True) (fun _ U o U' => ∃ v L, o = .returned v ∧ Q2 Z a1 h0 n0 v U'.heap L ∧ FrameEnd U o U' L ({ frames := 1, cells := 0, slots := 0, locals := 12 } : Room).cells ({ frames := 1, cells := 0, slots := 0, locals := 12 } : Room).slots) := by
  refine MetFree.of_bodySF (plainFor_of_name pn_2) hisR ?_
  intro p e s m args below meth c s₁ Bd hml0 hP hK
  obtain ⟨rfl, hZ, hh⟩ := hP
  have hx := Bd.exec
  have hby := Bd.bytes
  have hml : c.maxLocals = 1 := hml0
  have hown : s.vm.findClass "java/lang/Record" = some m.cls := findClass_of_methodNamed Bd.named
  have hnm := (name_of_methodNamed Bd.named Bd.method).1
  have X0 : Stand p l e ({ frames := 1, cells := 0, slots := 0, locals := 12 } : Room) s m #[(.ref a1)] below meth c s₁ [] 0 0 := Stand.of_body Bd
  have e0 : s₁.heap = h0 := by rw [← hh, Bd.state]; rfl
  have N0 := Fr.nil n0
  refine own_go (B := s₁.setTop (mkF m 0 #[.val (.ref a1)] [])) (fun t k => castTop (ef_2 m a1) k) ?_
  refine own_go (B := s₁.setTop (mkF m 1 #[.val (.ref a1)] [(.ref a1)])) (fun t k => ?_) ?_
  · show Steps p.tables e below (s₁.setTop (mkF m 0 #[.val (.ref a1)] [])) _
    refine XS.aloadN X0.here hx rfl (hb hby d2_0) rfl rfl ?_
    exact k
  obtain ⟨T1, X1, e1, st1⟩ := initO X0 hx hZ hown (hw _ (List.mem_of_getElem? (i := 11) rfl)) (hw _ (List.mem_of_getElem? (i := 12) rfl)) (hw _ (List.mem_of_getElem? (i := 13) rfl)) e0 (g := (mkF m 1 #[.val (.ref a1)] [(.ref a1)])) rfl (by rw [hml]; rfl) rfl (hb hby d2_1) (by decide) (W := 0) (by show 2 * 0 + _ ≤ _; exact Nat.le_of_eq rfl) (by decide)
  refine own_go (B := T1.setTop (mkF m 4 #[.val (.ref a1)] [])) (fun t k => st1 _ k) ?_
  obtain ⟨fs, hr, hrun, hended, hW, hsame⟩ := X1.leave (v := none) (fun _ => rfl)
  refine ⟨_, _, ?_, hrun, hended, _, _, rfl, ?_, ⟨_, rfl⟩, hW, hsame.mono (by decide) (by decide)⟩
  · show Steps p.tables e below (T1.setTop (mkF m 4 #[.val (.ref a1)] [])) _
    exact X1.returnOut hx Bd.returns (hb hby d2_4) hr
  · show Q2 Z a1 h0 n0 _ T1.heap _
    rw [e1]
    exact ⟨rfl, N0, rfl⟩
theorem pn_1 : plainName "com/example/sealwright/sealwright/model/ZipSections" = true := by first | (simp [plainName, overriddenIn]; done) | decide +kernel
theorem d1_0 : decode prog_84_method_1_code 0 = .ok (.aload_n 0, 1) := by decide +kernel
theorem d1_1 : decode prog_84_method_1_code 1 = .ok (.invokespecial 1, 3) := by decide +kernel
theorem d1_4 : decode prog_84_method_1_code 4 = .ok (.aload_n 0, 1) := by decide +kernel
theorem d1_5 : decode prog_84_method_1_code 5 = .ok (.lload_n 1, 1) := by decide +kernel
theorem d1_6 : decode prog_84_method_1_code 6 = .ok (.putfield 7, 3) := by decide +kernel
theorem d1_9 : decode prog_84_method_1_code 9 = .ok (.aload_n 0, 1) := by decide +kernel
theorem d1_10 : decode prog_84_method_1_code 10 = .ok (.iload_n 3, 1) := by decide +kernel
theorem d1_11 : decode prog_84_method_1_code 11 = .ok (.putfield 13, 3) := by decide +kernel
theorem d1_14 : decode prog_84_method_1_code 14 = .ok (.aload_n 0, 1) := by decide +kernel
theorem d1_15 : decode prog_84_method_1_code 15 = .ok (.lload 4, 2) := by decide +kernel
theorem d1_17 : decode prog_84_method_1_code 17 = .ok (.putfield 17, 3) := by decide +kernel
theorem d1_20 : decode prog_84_method_1_code 20 = .ok (.aload_n 0, 1) := by decide +kernel
theorem d1_21 : decode prog_84_method_1_code 21 = .ok (.lload 6, 2) := by decide +kernel
theorem d1_23 : decode prog_84_method_1_code 23 = .ok (.putfield 20, 3) := by decide +kernel
theorem d1_26 : decode prog_84_method_1_code 26 = .ok (.aload_n 0, 1) := by decide +kernel
theorem d1_27 : decode prog_84_method_1_code 27 = .ok (.lload 8, 2) := by decide +kernel
theorem d1_29 : decode prog_84_method_1_code 29 = .ok (.putfield 23, 3) := by decide +kernel
theorem d1_32 : decode prog_84_method_1_code 32 = .ok (.aload_n 0, 1) := by decide +kernel
theorem d1_33 : decode prog_84_method_1_code 33 = .ok (.iload 10, 2) := by decide +kernel
theorem d1_35 : decode prog_84_method_1_code 35 = .ok (.putfield 26, 3) := by decide +kernel
theorem d1_38 : decode prog_84_method_1_code 38 = .ok (.return_, 1) := by decide +kernel
theorem ef_1 (m : MethodId) (x0 : Addr) (x1 : Int64) (x2 : Int32) (x3 : Int64) (x4 : Int64) (x5 : Int64) (x6 : Int32) : entryFrame m #[(.ref x0), (.long x1), (.int x2), (.long x3), (.long x4), (.long x5), (.int x6)] 11 = mkF m 0 #[.val (.ref x0), .val (.long x1), .second, .val (.int x2), .val (.long x3), .second, .val (.long x4), .second, .val (.long x5), .second, .val (.int x6)] [] := by first | (simp [entryFrame, mkF, argsToLocals, Value.category]; done) | rfl
def Q1 (Z : State) (a1 : Addr) (q1 : Int64) (p2 : Int32) (q3 : Int64) (q4 : Int64) (q5 : Int64) (p6 : Int32) (h0 : Heap) (n0 : Nat) (v : Option Value) (h : Heap) (L : List Loc) : Prop := v = none ∧ Fr n0 L ∧ Keep h0 h [a1] ∧ Exa Z h a1 "com/example/sealwright/sealwright/model/ZipSections" ∧ Fld Z h a1 "com/example/sealwright/sealwright/model/ZipSections" "fileSize" "J" (.long q1) ∧ Fld Z h a1 "com/example/sealwright/sealwright/model/ZipSections" "endRecordOffset" "J" (.long q5) ∧ Fld Z h a1 "com/example/sealwright/sealwright/model/ZipSections" "endRecordSize" "I" (.int p6)
set_option maxRecDepth 65536 in
set_option maxHeartbeats 40000000 in
theorem rm1 (l : Launch) (Z : State) (a0 : Array Value) (hw : ∀ d ∈ tables_1, d.before a0 Z = true) (ws : List Jvm.Cond) (a1 : Addr) (q1 : Int64) (p2 : Int32) (q3 : Int64) (q4 : Int64) (q5 : Int64) (p6 : Int32) (h0 : Heap) (n0 : Nat) (Z0 : n0 ≤ h0.size) (E_a1 : Exa Z h0 a1 "com/example/sealwright/sealwright/model/ZipSections") (g_a1 : n0 ≤ a1) (F_fileSize : Fld Z h0 a1 "com/example/sealwright/sealwright/model/ZipSections" "fileSize" "J" (.long (0 : Int64))) (F_entryCount : Fld Z h0 a1 "com/example/sealwright/sealwright/model/ZipSections" "entryCount" "I" (.int (0 : Int32))) (F_centralDirectoryOffset : Fld Z h0 a1 "com/example/sealwright/sealwright/model/ZipSections" "centralDirectoryOffset" "J" (.long (0 : Int64))) (F_centralDirectorySize : Fld Z h0 a1 "com/example/sealwright/sealwright/model/ZipSections" "centralDirectorySize" "J" (.long (0 : Int64))) (F_endRecordOffset : Fld Z h0 a1 "com/example/sealwright/sealwright/model/ZipSections" "endRecordOffset" "J" (.long (0 : Int64))) (F_endRecordSize : Fld Z h0 a1 "com/example/sealwright/sealwright/model/ZipSections" "endRecordSize" "I" (.int (0 : Int32))) :
    MetFree l (⟨"com/example/sealwright/sealwright/model/ZipSections", "<init>", "(JIJJJI)V"⟩ : MethodName) (head1 (Jvm.Cond.code (⟨"com/example/sealwright/sealwright/model/ZipSections", "<init>", "(JIJJJI)V"⟩ : MethodName) prog_84_method_1_code 11 none :: ws) ({ frames := 2, cells := 0, slots := 0, locals := 24 } : Room)) (fun a U => a = #[(.ref a1), (.long q1), (.int p2), (.long q3), (.long q4), (.long q5), (.int p6)] ∧ Z.Warmed39 U.vm ∧ U.heap = h0) (fun _ _ _ _ _ => True) (fun _ U o U' => ∃ v L, o = .returned v ∧ Q1 Z a1 q1 p2 q3 q4 q5 p6 h0 n0 v U'.heap L ∧ FrameEnd U o U' L ({ frames := 2, cells := 0, slots := 0, locals := 24 } : Room).cells ({ frames := 2, cells := 0, slots := 0, locals := 24 } : Room).slots) := by
  refine MetFree.of_bodySF (plainFor_of_name pn_1) hisR ?_
  intro p e s m args below meth c s₁ Bd hml0 hP hK
  obtain ⟨rfl, hZ, hh⟩ := hP
  have hx := Bd.exec
  have hby := Bd.bytes
  have hml : c.maxLocals = 11 := hml0
  have hown : s.vm.findClass "com/example/sealwright/sealwright/model/ZipSections" = some m.cls := findClass_of_methodNamed Bd.named
  have hnm := (name_of_methodNamed Bd.named Bd.method).1
  have X0 : Stand p l e ({ frames := 2, cells := 0, slots := 0, locals := 24 } : Room) s m #[(.ref a1), (.long q1), (.int p2), (.long q3), (.long q4), (.long q5), (.int p6)] below meth c s₁ [] 0 0 := Stand.of_body Bd
  have e0 : s₁.heap = h0 := by rw [← hh, Bd.state]; rfl
  have N0 := Fr.nil n0
  refine own_go (B := s₁.setTop (mkF m 0 #[.val (.ref a1), .val (.long q1), .second, .val (.int p2), .val (.long q3), .second, .val (.long q4), .second, .val (.long q5), .second, .val (.int p6)] [])) (fun t k => castTop (ef_1 m a1 q1 p2 q3 q4 q5 p6) k) ?_
  refine own_go (B := s₁.setTop (mkF m 1 #[.val (.ref a1), .val (.long q1), .second, .val (.int p2), .val (.long q3), .second, .val (.long q4), .second, .val (.long q5), .second, .val (.int p6)] [(.ref a1)])) (fun t k => ?_) ?_
  · show Steps p.tables e below (s₁.setTop (mkF m 0 #[.val (.ref a1), .val (.long q1), .second, .val (.int p2), .val (.long q3), .second, .val (.long q4), .second, .val (.long q5), .second, .val (.int p6)] [])) _
    refine XS.aloadN X0.here hx rfl (hb hby d1_0) rfl rfl ?_
    exact k
  obtain ⟨_, _, ⟨T1, L1, k1, n1⟩, -, X1, ⟨Lc1, hQ1, l1, y1, z1⟩, st1⟩ := X0.specialBack hx (y := (⟨"java/lang/Record", "<init>", "()V"⟩ : MethodName)) rfl hown (mvT hZ (hw _ (List.mem_of_getElem? (i := 6) rfl))) (mvT hZ (hw _ (List.mem_of_getElem? (i := 7) rfl))) (mvT hZ (hw _ (List.mem_of_getElem? (i := 10) rfl))) (by decide) (backOf (W := 0) (rm2 l Z a0 hw [] a1 h0 n0 Z0) hZ (hw _ (List.mem_of_getElem? (i := 10) rfl)) (hw _ (List.mem_of_getElem? (i := 9) rfl)) (by decide) (by decide)) (g := (mkF m 1 #[.val (.ref a1), .val (.long q1), .second, .val (.int p2), .val (.long q3), .second, .val (.long q4), .second, .val (.long q5), .second, .val (.int p6)] [(.ref a1)])) rfl (by rw [hml]; rfl) (Steps.refl _) (a := a1) (argsL := []) (rest := []) (lenOf own_pd0 rfl) rfl (by show 2 * 0 + _ ≤ _; exact Nat.le_of_eq rfl) (hb hby d1_1) (fun _ _ => ⟨rfl, e0, (by decide : 0 + 0 ≤ _), (by decide : 0 + 0 ≤ _)⟩)
  dsimp only [Pt.U, Pt.locs, Pt.cells, Pt.slots] at X1 l1 y1 z1 st1 hQ1
  subst l1 y1 z1
  obtain ⟨rfl, N1q, eq1⟩ := hQ1
  have N1 := Fr.app N0 N1q
  refine own_go (B := T1.setTop (mkF m 4 #[.val (.ref a1), .val (.long q1), .second, .val (.int p2), .val (.long q3), .second, .val (.long q4), .second, .val (.long q5), .second, .val (.int p6)] [])) (fun t k => st1.trans k) ?_
  refine own_go (B := T1.setTop (mkF m 6 #[.val (.ref a1), .val (.long q1), .second, .val (.int p2), .val (.long q3), .second, .val (.long q4), .second, .val (.long q5), .second, .val (.int p6)] [(.long q1), (.ref a1)])) (fun t k => ?_) ?_
  · show Steps p.tables e below (T1.setTop (mkF m 4 #[.val (.ref a1), .val (.long q1), .second, .val (.int p2), .val (.long q3), .second, .val (.long q4), .second, .val (.long q5), .second, .val (.int p6)] [])) _
    refine XS.aloadN X1.here hx rfl (hb hby d1_4) rfl rfl ?_
    show Steps p.tables e below (T1.setTop (mkF m 5 #[.val (.ref a1), .val (.long q1), .second, .val (.int p2), .val (.long q3), .second, .val (.long q4), .second, .val (.long q5), .second, .val (.int p6)] [(.ref a1)])) _
    refine XS.lloadN X1.here hx rfl (hb hby d1_5) rfl ?_
    exact k
  obtain ⟨T2, h2, X2, e2, W2, st2⟩ := putF X1 hx hZ hown (host := "") (Or.inl (hw _ (List.mem_of_getElem? (i := 14) rfl))) Via.refl eq1 F_fileSize E_a1 (Or.inr ⟨(hw _ (List.mem_of_getElem? (i := 15) rfl)), rfl, hnm⟩) (hw _ (List.mem_of_getElem? (i := 1) rfl)) (ty := .long) (by decide) rfl rfl (g := (mkF m 6 #[.val (.ref a1), .val (.long q1), .second, .val (.int p2), .val (.long q3), .second, .val (.long q4), .second, .val (.long q5), .second, .val (.int p6)] [(.long q1), (.ref a1)])) rfl rfl (hb hby d1_6)
  have c2_E_a1 := E_a1.wr W2
  have c2_F_a1_fileSize := F_fileSize.same W2
  have c2_F_a1_entryCount := F_entryCount.other W2 (Or.inr (slot_ne (Or.inr (hw _ (List.mem_of_getElem? (i := 17) rfl))) (Or.inr (hw _ (List.mem_of_getElem? (i := 15) rfl))) (by decide) (t := .int) (t' := .long) (by decide) (by decide)))
  have c2_F_a1_centralDirectoryOffset := F_centralDirectoryOffset.other W2 (Or.inr (slot_ne (Or.inr (hw _ (List.mem_of_getElem? (i := 19) rfl))) (Or.inr (hw _ (List.mem_of_getElem? (i := 15) rfl))) (by decide) (t := .long) (t' := .long) (by decide) (by decide)))
  have c2_F_a1_centralDirectorySize := F_centralDirectorySize.other W2 (Or.inr (slot_ne (Or.inr (hw _ (List.mem_of_getElem? (i := 21) rfl))) (Or.inr (hw _ (List.mem_of_getElem? (i := 15) rfl))) (by decide) (t := .long) (t' := .long) (by decide) (by decide)))
  have c2_F_a1_endRecordOffset := F_endRecordOffset.other W2 (Or.inr (slot_ne (Or.inr (hw _ (List.mem_of_getElem? (i := 23) rfl))) (Or.inr (hw _ (List.mem_of_getElem? (i := 15) rfl))) (by decide) (t := .long) (t' := .long) (by decide) (by decide)))
  have c2_F_a1_endRecordSize := F_endRecordSize.other W2 (Or.inr (slot_ne (Or.inr (hw _ (List.mem_of_getElem? (i := 25) rfl))) (Or.inr (hw _ (List.mem_of_getElem? (i := 15) rfl))) (by decide) (t := .int) (t' := .long) (by decide) (by decide)))
  have K2 := (Keep.refl h0 [a1]).wr W2 (Or.inl (List.mem_of_getElem? (i := 0) rfl))
  have N2 := Fr.snoc X2 N1 g_a1
  refine own_go (B := T2.setTop (mkF m 9 #[.val (.ref a1), .val (.long q1), .second, .val (.int p2), .val (.long q3), .second, .val (.long q4), .second, .val (.long q5), .second, .val (.int p6)] [])) (fun t k => st2 _ k) ?_
  refine own_go (B := T2.setTop (mkF m 11 #[.val (.ref a1), .val (.long q1), .second, .val (.int p2), .val (.long q3), .second, .val (.long q4), .second, .val (.long q5), .second, .val (.int p6)] [(.int p2), (.ref a1)])) (fun t k => ?_) ?_
  · show Steps p.tables e below (T2.setTop (mkF m 9 #[.val (.ref a1), .val (.long q1), .second, .val (.int p2), .val (.long q3), .second, .val (.long q4), .second, .val (.long q5), .second, .val (.int p6)] [])) _
    refine XS.aloadN X2.here hx rfl (hb hby d1_9) rfl rfl ?_
    show Steps p.tables e below (T2.setTop (mkF m 10 #[.val (.ref a1), .val (.long q1), .second, .val (.int p2), .val (.long q3), .second, .val (.long q4), .second, .val (.long q5), .second, .val (.int p6)] [(.ref a1)])) _
    refine XS.iloadN X2.here hx rfl (hb hby d1_10) rfl ?_
    exact k
  obtain ⟨T3, h3, X3, e3, W3, st3⟩ := putF X2 hx hZ hown (host := "") (Or.inl (hw _ (List.mem_of_getElem? (i := 16) rfl))) Via.refl e2 c2_F_a1_entryCount c2_E_a1 (Or.inr ⟨(hw _ (List.mem_of_getElem? (i := 17) rfl)), rfl, hnm⟩) (hw _ (List.mem_of_getElem? (i := 1) rfl)) (ty := .int) (by decide) rfl rfl (g := (mkF m 11 #[.val (.ref a1), .val (.long q1), .second, .val (.int p2), .val (.long q3), .second, .val (.long q4), .second, .val (.long q5), .second, .val (.int p6)] [(.int p2), (.ref a1)])) rfl rfl (hb hby d1_11)
  have c3_E_a1 := c2_E_a1.wr W3
  have c3_F_a1_fileSize := c2_F_a1_fileSize.other W3 (Or.inr (slot_ne (Or.inr (hw _ (List.mem_of_getElem? (i := 15) rfl))) (Or.inr (hw _ (List.mem_of_getElem? (i := 17) rfl))) (by decide) (t := .long) (t' := .int) (by decide) (by decide)))
  have c3_F_a1_entryCount := c2_F_a1_entryCount.same W3
  have c3_F_a1_centralDirectoryOffset := c2_F_a1_centralDirectoryOffset.other W3 (Or.inr (slot_ne (Or.inr (hw _ (List.mem_of_getElem? (i := 19) rfl))) (Or.inr (hw _ (List.mem_of_getElem? (i := 17) rfl))) (by decide) (t := .long) (t' := .int) (by decide) (by decide)))
  have c3_F_a1_centralDirectorySize := c2_F_a1_centralDirectorySize.other W3 (Or.inr (slot_ne (Or.inr (hw _ (List.mem_of_getElem? (i := 21) rfl))) (Or.inr (hw _ (List.mem_of_getElem? (i := 17) rfl))) (by decide) (t := .long) (t' := .int) (by decide) (by decide)))
  have c3_F_a1_endRecordOffset := c2_F_a1_endRecordOffset.other W3 (Or.inr (slot_ne (Or.inr (hw _ (List.mem_of_getElem? (i := 23) rfl))) (Or.inr (hw _ (List.mem_of_getElem? (i := 17) rfl))) (by decide) (t := .long) (t' := .int) (by decide) (by decide)))
  have c3_F_a1_endRecordSize := c2_F_a1_endRecordSize.other W3 (Or.inr (slot_ne (Or.inr (hw _ (List.mem_of_getElem? (i := 25) rfl))) (Or.inr (hw _ (List.mem_of_getElem? (i := 17) rfl))) (by decide) (t := .int) (t' := .int) (by decide) (by decide)))
  have K3 := K2.wr W3 (Or.inl (List.mem_of_getElem? (i := 0) rfl))
  have N3 := Fr.snoc X3 N2 g_a1
  refine own_go (B := T3.setTop (mkF m 14 #[.val (.ref a1), .val (.long q1), .second, .val (.int p2), .val (.long q3), .second, .val (.long q4), .second, .val (.long q5), .second, .val (.int p6)] [])) (fun t k => st3 _ k) ?_
  refine own_go (B := T3.setTop (mkF m 17 #[.val (.ref a1), .val (.long q1), .second, .val (.int p2), .val (.long q3), .second, .val (.long q4), .second, .val (.long q5), .second, .val (.int p6)] [(.long q3), (.ref a1)])) (fun t k => ?_) ?_
  · show Steps p.tables e below (T3.setTop (mkF m 14 #[.val (.ref a1), .val (.long q1), .second, .val (.int p2), .val (.long q3), .second, .val (.long q4), .second, .val (.long q5), .second, .val (.int p6)] [])) _
    refine XS.aloadN X3.here hx rfl (hb hby d1_14) rfl rfl ?_
    show Steps p.tables e below (T3.setTop (mkF m 15 #[.val (.ref a1), .val (.long q1), .second, .val (.int p2), .val (.long q3), .second, .val (.long q4), .second, .val (.long q5), .second, .val (.int p6)] [(.ref a1)])) _
    refine XS.lload X3.here hx rfl (hb hby d1_15) rfl ?_
    exact k
  obtain ⟨T4, h4, X4, e4, W4, st4⟩ := putF X3 hx hZ hown (host := "") (Or.inl (hw _ (List.mem_of_getElem? (i := 18) rfl))) Via.refl e3 c3_F_a1_centralDirectoryOffset c3_E_a1 (Or.inr ⟨(hw _ (List.mem_of_getElem? (i := 19) rfl)), rfl, hnm⟩) (hw _ (List.mem_of_getElem? (i := 1) rfl)) (ty := .long) (by decide) rfl rfl (g := (mkF m 17 #[.val (.ref a1), .val (.long q1), .second, .val (.int p2), .val (.long q3), .second, .val (.long q4), .second, .val (.long q5), .second, .val (.int p6)] [(.long q3), (.ref a1)])) rfl rfl (hb hby d1_17)
  have c4_E_a1 := c3_E_a1.wr W4
  have c4_F_a1_fileSize := c3_F_a1_fileSize.other W4 (Or.inr (slot_ne (Or.inr (hw _ (List.mem_of_getElem? (i := 15) rfl))) (Or.inr (hw _ (List.mem_of_getElem? (i := 19) rfl))) (by decide) (t := .long) (t' := .long) (by decide) (by decide)))
  have c4_F_a1_entryCount := c3_F_a1_entryCount.other W4 (Or.inr (slot_ne (Or.inr (hw _ (List.mem_of_getElem? (i := 17) rfl))) (Or.inr (hw _ (List.mem_of_getElem? (i := 19) rfl))) (by decide) (t := .int) (t' := .long) (by decide) (by decide)))
  have c4_F_a1_centralDirectoryOffset := c3_F_a1_centralDirectoryOffset.same W4
  have c4_F_a1_centralDirectorySize := c3_F_a1_centralDirectorySize.other W4 (Or.inr (slot_ne (Or.inr (hw _ (List.mem_of_getElem? (i := 21) rfl))) (Or.inr (hw _ (List.mem_of_getElem? (i := 19) rfl))) (by decide) (t := .long) (t' := .long) (by decide) (by decide)))
  have c4_F_a1_endRecordOffset := c3_F_a1_endRecordOffset.other W4 (Or.inr (slot_ne (Or.inr (hw _ (List.mem_of_getElem? (i := 23) rfl))) (Or.inr (hw _ (List.mem_of_getElem? (i := 19) rfl))) (by decide) (t := .long) (t' := .long) (by decide) (by decide)))
  have c4_F_a1_endRecordSize := c3_F_a1_endRecordSize.other W4 (Or.inr (slot_ne (Or.inr (hw _ (List.mem_of_getElem? (i := 25) rfl))) (Or.inr (hw _ (List.mem_of_getElem? (i := 19) rfl))) (by decide) (t := .int) (t' := .long) (by decide) (by decide)))
  have K4 := K3.wr W4 (Or.inl (List.mem_of_getElem? (i := 0) rfl))
  have N4 := Fr.snoc X4 N3 g_a1
  refine own_go (B := T4.setTop (mkF m 20 #[.val (.ref a1), .val (.long q1), .second, .val (.int p2), .val (.long q3), .second, .val (.long q4), .second, .val (.long q5), .second, .val (.int p6)] [])) (fun t k => st4 _ k) ?_
  refine own_go (B := T4.setTop (mkF m 23 #[.val (.ref a1), .val (.long q1), .second, .val (.int p2), .val (.long q3), .second, .val (.long q4), .second, .val (.long q5), .second, .val (.int p6)] [(.long q4), (.ref a1)])) (fun t k => ?_) ?_
  · show Steps p.tables e below (T4.setTop (mkF m 20 #[.val (.ref a1), .val (.long q1), .second, .val (.int p2), .val (.long q3), .second, .val (.long q4), .second, .val (.long q5), .second, .val (.int p6)] [])) _
    refine XS.aloadN X4.here hx rfl (hb hby d1_20) rfl rfl ?_
    show Steps p.tables e below (T4.setTop (mkF m 21 #[.val (.ref a1), .val (.long q1), .second, .val (.int p2), .val (.long q3), .second, .val (.long q4), .second, .val (.long q5), .second, .val (.int p6)] [(.ref a1)])) _
    refine XS.lload X4.here hx rfl (hb hby d1_21) rfl ?_
    exact k
  obtain ⟨T5, h5, X5, e5, W5, st5⟩ := putF X4 hx hZ hown (host := "") (Or.inl (hw _ (List.mem_of_getElem? (i := 20) rfl))) Via.refl e4 c4_F_a1_centralDirectorySize c4_E_a1 (Or.inr ⟨(hw _ (List.mem_of_getElem? (i := 21) rfl)), rfl, hnm⟩) (hw _ (List.mem_of_getElem? (i := 1) rfl)) (ty := .long) (by decide) rfl rfl (g := (mkF m 23 #[.val (.ref a1), .val (.long q1), .second, .val (.int p2), .val (.long q3), .second, .val (.long q4), .second, .val (.long q5), .second, .val (.int p6)] [(.long q4), (.ref a1)])) rfl rfl (hb hby d1_23)
  have c5_E_a1 := c4_E_a1.wr W5
  have c5_F_a1_fileSize := c4_F_a1_fileSize.other W5 (Or.inr (slot_ne (Or.inr (hw _ (List.mem_of_getElem? (i := 15) rfl))) (Or.inr (hw _ (List.mem_of_getElem? (i := 21) rfl))) (by decide) (t := .long) (t' := .long) (by decide) (by decide)))
  have c5_F_a1_entryCount := c4_F_a1_entryCount.other W5 (Or.inr (slot_ne (Or.inr (hw _ (List.mem_of_getElem? (i := 17) rfl))) (Or.inr (hw _ (List.mem_of_getElem? (i := 21) rfl))) (by decide) (t := .int) (t' := .long) (by decide) (by decide)))
  have c5_F_a1_centralDirectoryOffset := c4_F_a1_centralDirectoryOffset.other W5 (Or.inr (slot_ne (Or.inr (hw _ (List.mem_of_getElem? (i := 19) rfl))) (Or.inr (hw _ (List.mem_of_getElem? (i := 21) rfl))) (by decide) (t := .long) (t' := .long) (by decide) (by decide)))
  have c5_F_a1_centralDirectorySize := c4_F_a1_centralDirectorySize.same W5
  have c5_F_a1_endRecordOffset := c4_F_a1_endRecordOffset.other W5 (Or.inr (slot_ne (Or.inr (hw _ (List.mem_of_getElem? (i := 23) rfl))) (Or.inr (hw _ (List.mem_of_getElem? (i := 21) rfl))) (by decide) (t := .long) (t' := .long) (by decide) (by decide)))
  have c5_F_a1_endRecordSize := c4_F_a1_endRecordSize.other W5 (Or.inr (slot_ne (Or.inr (hw _ (List.mem_of_getElem? (i := 25) rfl))) (Or.inr (hw _ (List.mem_of_getElem? (i := 21) rfl))) (by decide) (t := .int) (t' := .long) (by decide) (by decide)))
  have K5 := K4.wr W5 (Or.inl (List.mem_of_getElem? (i := 0) rfl))
  have N5 := Fr.snoc X5 N4 g_a1
  refine own_go (B := T5.setTop (mkF m 26 #[.val (.ref a1), .val (.long q1), .second, .val (.int p2), .val (.long q3), .second, .val (.long q4), .second, .val (.long q5), .second, .val (.int p6)] [])) (fun t k => st5 _ k) ?_
  refine own_go (B := T5.setTop (mkF m 29 #[.val (.ref a1), .val (.long q1), .second, .val (.int p2), .val (.long q3), .second, .val (.long q4), .second, .val (.long q5), .second, .val (.int p6)] [(.long q5), (.ref a1)])) (fun t k => ?_) ?_
  · show Steps p.tables e below (T5.setTop (mkF m 26 #[.val (.ref a1), .val (.long q1), .second, .val (.int p2), .val (.long q3), .second, .val (.long q4), .second, .val (.long q5), .second, .val (.int p6)] [])) _
    refine XS.aloadN X5.here hx rfl (hb hby d1_26) rfl rfl ?_
    show Steps p.tables e below (T5.setTop (mkF m 27 #[.val (.ref a1), .val (.long q1), .second, .val (.int p2), .val (.long q3), .second, .val (.long q4), .second, .val (.long q5), .second, .val (.int p6)] [(.ref a1)])) _
    refine XS.lload X5.here hx rfl (hb hby d1_27) rfl ?_
    exact k
  obtain ⟨T6, h6, X6, e6, W6, st6⟩ := putF X5 hx hZ hown (host := "") (Or.inl (hw _ (List.mem_of_getElem? (i := 22) rfl))) Via.refl e5 c5_F_a1_endRecordOffset c5_E_a1 (Or.inr ⟨(hw _ (List.mem_of_getElem? (i := 23) rfl)), rfl, hnm⟩) (hw _ (List.mem_of_getElem? (i := 1) rfl)) (ty := .long) (by decide) rfl rfl (g := (mkF m 29 #[.val (.ref a1), .val (.long q1), .second, .val (.int p2), .val (.long q3), .second, .val (.long q4), .second, .val (.long q5), .second, .val (.int p6)] [(.long q5), (.ref a1)])) rfl rfl (hb hby d1_29)
  have c6_E_a1 := c5_E_a1.wr W6
  have c6_F_a1_fileSize := c5_F_a1_fileSize.other W6 (Or.inr (slot_ne (Or.inr (hw _ (List.mem_of_getElem? (i := 15) rfl))) (Or.inr (hw _ (List.mem_of_getElem? (i := 23) rfl))) (by decide) (t := .long) (t' := .long) (by decide) (by decide)))
  have c6_F_a1_entryCount := c5_F_a1_entryCount.other W6 (Or.inr (slot_ne (Or.inr (hw _ (List.mem_of_getElem? (i := 17) rfl))) (Or.inr (hw _ (List.mem_of_getElem? (i := 23) rfl))) (by decide) (t := .int) (t' := .long) (by decide) (by decide)))
  have c6_F_a1_centralDirectoryOffset := c5_F_a1_centralDirectoryOffset.other W6 (Or.inr (slot_ne (Or.inr (hw _ (List.mem_of_getElem? (i := 19) rfl))) (Or.inr (hw _ (List.mem_of_getElem? (i := 23) rfl))) (by decide) (t := .long) (t' := .long) (by decide) (by decide)))
  have c6_F_a1_centralDirectorySize := c5_F_a1_centralDirectorySize.other W6 (Or.inr (slot_ne (Or.inr (hw _ (List.mem_of_getElem? (i := 21) rfl))) (Or.inr (hw _ (List.mem_of_getElem? (i := 23) rfl))) (by decide) (t := .long) (t' := .long) (by decide) (by decide)))
  have c6_F_a1_endRecordOffset := c5_F_a1_endRecordOffset.same W6
  have c6_F_a1_endRecordSize := c5_F_a1_endRecordSize.other W6 (Or.inr (slot_ne (Or.inr (hw _ (List.mem_of_getElem? (i := 25) rfl))) (Or.inr (hw _ (List.mem_of_getElem? (i := 23) rfl))) (by decide) (t := .int) (t' := .long) (by decide) (by decide)))
  have K6 := K5.wr W6 (Or.inl (List.mem_of_getElem? (i := 0) rfl))
  have N6 := Fr.snoc X6 N5 g_a1
  refine own_go (B := T6.setTop (mkF m 32 #[.val (.ref a1), .val (.long q1), .second, .val (.int p2), .val (.long q3), .second, .val (.long q4), .second, .val (.long q5), .second, .val (.int p6)] [])) (fun t k => st6 _ k) ?_
  refine own_go (B := T6.setTop (mkF m 35 #[.val (.ref a1), .val (.long q1), .second, .val (.int p2), .val (.long q3), .second, .val (.long q4), .second, .val (.long q5), .second, .val (.int p6)] [(.int p6), (.ref a1)])) (fun t k => ?_) ?_
  · show Steps p.tables e below (T6.setTop (mkF m 32 #[.val (.ref a1), .val (.long q1), .second, .val (.int p2), .val (.long q3), .second, .val (.long q4), .second, .val (.long q5), .second, .val (.int p6)] [])) _
    refine XS.aloadN X6.here hx rfl (hb hby d1_32) rfl rfl ?_
    show Steps p.tables e below (T6.setTop (mkF m 33 #[.val (.ref a1), .val (.long q1), .second, .val (.int p2), .val (.long q3), .second, .val (.long q4), .second, .val (.long q5), .second, .val (.int p6)] [(.ref a1)])) _
    refine XS.iload X6.here hx rfl (hb hby d1_33) rfl ?_
    exact k
  obtain ⟨T7, h7, X7, e7, W7, st7⟩ := putF X6 hx hZ hown (host := "") (Or.inl (hw _ (List.mem_of_getElem? (i := 24) rfl))) Via.refl e6 c6_F_a1_endRecordSize c6_E_a1 (Or.inr ⟨(hw _ (List.mem_of_getElem? (i := 25) rfl)), rfl, hnm⟩) (hw _ (List.mem_of_getElem? (i := 1) rfl)) (ty := .int) (by decide) rfl rfl (g := (mkF m 35 #[.val (.ref a1), .val (.long q1), .second, .val (.int p2), .val (.long q3), .second, .val (.long q4), .second, .val (.long q5), .second, .val (.int p6)] [(.int p6), (.ref a1)])) rfl rfl (hb hby d1_35)
  have c7_E_a1 := c6_E_a1.wr W7
  have c7_F_a1_fileSize := c6_F_a1_fileSize.other W7 (Or.inr (slot_ne (Or.inr (hw _ (List.mem_of_getElem? (i := 15) rfl))) (Or.inr (hw _ (List.mem_of_getElem? (i := 25) rfl))) (by decide) (t := .long) (t' := .int) (by decide) (by decide)))
  have c7_F_a1_entryCount := c6_F_a1_entryCount.other W7 (Or.inr (slot_ne (Or.inr (hw _ (List.mem_of_getElem? (i := 17) rfl))) (Or.inr (hw _ (List.mem_of_getElem? (i := 25) rfl))) (by decide) (t := .int) (t' := .int) (by decide) (by decide)))
  have c7_F_a1_centralDirectoryOffset := c6_F_a1_centralDirectoryOffset.other W7 (Or.inr (slot_ne (Or.inr (hw _ (List.mem_of_getElem? (i := 19) rfl))) (Or.inr (hw _ (List.mem_of_getElem? (i := 25) rfl))) (by decide) (t := .long) (t' := .int) (by decide) (by decide)))
  have c7_F_a1_centralDirectorySize := c6_F_a1_centralDirectorySize.other W7 (Or.inr (slot_ne (Or.inr (hw _ (List.mem_of_getElem? (i := 21) rfl))) (Or.inr (hw _ (List.mem_of_getElem? (i := 25) rfl))) (by decide) (t := .long) (t' := .int) (by decide) (by decide)))
  have c7_F_a1_endRecordOffset := c6_F_a1_endRecordOffset.other W7 (Or.inr (slot_ne (Or.inr (hw _ (List.mem_of_getElem? (i := 23) rfl))) (Or.inr (hw _ (List.mem_of_getElem? (i := 25) rfl))) (by decide) (t := .long) (t' := .int) (by decide) (by decide)))
  have c7_F_a1_endRecordSize := c6_F_a1_endRecordSize.same W7
  have K7 := K6.wr W7 (Or.inl (List.mem_of_getElem? (i := 0) rfl))
  have N7 := Fr.snoc X7 N6 g_a1
  refine own_go (B := T7.setTop (mkF m 38 #[.val (.ref a1), .val (.long q1), .second, .val (.int p2), .val (.long q3), .second, .val (.long q4), .second, .val (.long q5), .second, .val (.int p6)] [])) (fun t k => st7 _ k) ?_
  obtain ⟨fs, hr, hrun, hended, hW, hsame⟩ := X7.leave (v := none) (fun _ => rfl)
  refine ⟨_, _, ?_, hrun, hended, _, _, rfl, ?_, ⟨_, rfl⟩, hW, hsame.mono (by decide) (by decide)⟩
  · show Steps p.tables e below (T7.setTop (mkF m 38 #[.val (.ref a1), .val (.long q1), .second, .val (.int p2), .val (.long q3), .second, .val (.long q4), .second, .val (.long q5), .second, .val (.int p6)] [])) _
    exact X7.returnOut hx Bd.returns (hb hby d1_38) hr
  · show Q1 Z a1 q1 p2 q3 q4 q5 p6 h0 n0 _ T7.heap _
    rw [e7]
    exact ⟨rfl, N7, K7, c7_E_a1, c7_F_a1_fileSize, c7_F_a1_endRecordOffset, c7_F_a1_endRecordSize⟩
theorem pn_4 : plainName "com/example/sealwright/sealwright/model/ZipSections" = true := by first | (simp [plainName, overriddenIn]; done) | decide +kernel
theorem d4_0 : decode prog_84_method_2_code 0 = .ok (.aload_n 0, 1) := by decide +kernel
theorem d4_1 : decode prog_84_method_2_code 1 = .ok (.getfield 7, 3) := by decide +kernel
theorem d4_4 : decode prog_84_method_2_code 4 = .ok (.aload_n 0, 1) := by decide +kernel
theorem d4_5 : decode prog_84_method_2_code 5 = .ok (.getfield 23, 3) := by decide +kernel
theorem d4_8 : decode prog_84_method_2_code 8 = .ok (.lsub, 1) := by decide +kernel
theorem d4_9 : decode prog_84_method_2_code 9 = .ok (.aload_n 0, 1) := by decide +kernel
theorem d4_10 : decode prog_84_method_2_code 10 = .ok (.getfield 26, 3) := by decide +kernel
theorem d4_13 : decode prog_84_method_2_code 13 = .ok (.i2l, 1) := by decide +kernel
theorem d4_14 : decode prog_84_method_2_code 14 = .ok (.lsub, 1) := by decide +kernel
theorem d4_15 : decode prog_84_method_2_code 15 = .ok (.lreturn, 1) := by decide +kernel
theorem ef_4 (m : MethodId) (x0 : Addr) : entryFrame m #[(.ref x0)] 1 = mkF m 0 #[.val (.ref x0)] [] := by first | (simp [entryFrame, mkF, argsToLocals, Value.category]; done) | rfl
def Q4 (Z : State) (a1 : Addr) (q1 : Int64) (q5 : Int64) (p6 : Int32) (h0 : Heap) (n0 : Nat) (v : Option Value) (h : Heap) (L : List Loc) : Prop := v = some (.long ((q1 - q5) - p6.toInt64)) ∧ Fr n0 L ∧ h = h0
set_option maxRecDepth 65536 in
set_option maxHeartbeats 40000000 in
theorem rm4 (l : Launch) (Z : State) (a0 : Array Value) (hw : ∀ d ∈ tables_1, d.before a0 Z = true) (ws : List Jvm.Cond) (a1 : Addr) (q1 : Int64) (q5 : Int64) (p6 : Int32) (h0 : Heap) (n0 : Nat) (Z0 : n0 ≤ h0.size) (F_fileSize : Fld Z h0 a1 "com/example/sealwright/sealwright/model/ZipSections" "fileSize" "J" (.long q1)) (F_endRecordOffset : Fld Z h0 a1 "com/example/sealwright/sealwright/model/ZipSections" "endRecordOffset" "J" (.long q5)) (F_endRecordSize : Fld Z h0 a1 "com/example/sealwright/sealwright/model/ZipSections" "endRecordSize" "I" (.int p6)) :
    MetFree l (⟨"com/example/sealwright/sealwright/model/ZipSections", "trailingBytes", "()J"⟩ : MethodName) (head1 (Jvm.Cond.code (⟨"com/example/sealwright/sealwright/model/ZipSections", "trailingBytes", "()J"⟩ : MethodName) prog_84_method_2_code 1 (some .long) :: ws) ({ frames := 0, cells := 0, slots := 0, locals := 0 } : Room)) (fun a U => a = #[(.ref a1)] ∧ Z.Warmed39 U.vm ∧ U.heap = h0) (fun _ _ _ _ _ => True) (fun _ U o U' => ∃ v L, o = .returned v ∧ Q4 Z a1 q1 q5 p6 h0 n0 v U'.heap L ∧ FrameEnd U o U' L ({ frames := 0, cells := 0, slots := 0, locals := 0 } : Room).cells ({ frames := 0, cells := 0, slots := 0, locals := 0 } : Room).slots) := by
  refine MetFree.of_bodySF (plainFor_of_name pn_4) hisR ?_
  intro p e s m args below meth c s₁ Bd hml0 hP hK
  obtain ⟨rfl, hZ, hh⟩ := hP
  have hx := Bd.exec
  have hby := Bd.bytes
  have hml : c.maxLocals = 1 := hml0
  have hown : s.vm.findClass "com/example/sealwright/sealwright/model/ZipSections" = some m.cls := findClass_of_methodNamed Bd.named
  have hnm := (name_of_methodNamed Bd.named Bd.method).1
  have X0 : Stand p l e ({ frames := 0, cells := 0, slots := 0, locals := 0 } : Room) s m #[(.ref a1)] below meth c s₁ [] 0 0 := Stand.of_body Bd
  have e0 : s₁.heap = h0 := by rw [← hh, Bd.state]; rfl
  have N0 := Fr.nil n0
  refine own_go (B := s₁.setTop (mkF m 0 #[.val (.ref a1)] [])) (fun t k => castTop (ef_4 m a1) k) ?_
  refine own_go (B := s₁.setTop (mkF m 1 #[.val (.ref a1)] [(.ref a1)])) (fun t k => ?_) ?_
  · show Steps p.tables e below (s₁.setTop (mkF m 0 #[.val (.ref a1)] [])) _
    refine XS.aloadN X0.here hx rfl (hb hby d4_0) rfl rfl ?_
    exact k
  obtain ⟨T1, X1, e1, st1⟩ := getF X0 hx hZ hown (host := "") (Or.inl (hw _ (List.mem_of_getElem? (i := 14) rfl))) Via.refl e0 F_fileSize (g := (mkF m 1 #[.val (.ref a1)] [(.ref a1)])) rfl rfl (hb hby d4_1)
  refine own_go (B := T1.setTop (mkF m 4 #[.val (.ref a1)] [(.long q1)])) (fun t k => st1 _ k) ?_
  refine own_go (B := T1.setTop (mkF m 5 #[.val (.ref a1)] [(.ref a1), (.long q1)])) (fun t k => ?_) ?_
  · show Steps p.tables e below (T1.setTop (mkF m 4 #[.val (.ref a1)] [(.long q1)])) _
    refine XS.aloadN X1.here hx rfl (hb hby d4_4) rfl rfl ?_
    exact k
  obtain ⟨T2, X2, e2, st2⟩ := getF X1 hx hZ hown (host := "") (Or.inl (hw _ (List.mem_of_getElem? (i := 22) rfl))) Via.refl e1 F_endRecordOffset (g := (mkF m 5 #[.val (.ref a1)] [(.ref a1), (.long q1)])) rfl rfl (hb hby d4_5)
  refine own_go (B := T2.setTop (mkF m 8 #[.val (.ref a1)] [(.long q5), (.long q1)])) (fun t k => st2 _ k) ?_
  refine own_go (B := T2.setTop (mkF m 10 #[.val (.ref a1)] [(.ref a1), (.long (q1 - q5))])) (fun t k => ?_) ?_
  · show Steps p.tables e below (T2.setTop (mkF m 8 #[.val (.ref a1)] [(.long q5), (.long q1)])) _
    refine XS.lsub X2.here hx rfl (hb hby d4_8) rfl ?_
    show Steps p.tables e below (T2.setTop (mkF m 9 #[.val (.ref a1)] [(.long (q1 - q5))])) _
    refine XS.aloadN X2.here hx rfl (hb hby d4_9) rfl rfl ?_
    exact k
  obtain ⟨T3, X3, e3, st3⟩ := getF X2 hx hZ hown (host := "") (Or.inl (hw _ (List.mem_of_getElem? (i := 24) rfl))) Via.refl e2 F_endRecordSize (g := (mkF m 10 #[.val (.ref a1)] [(.ref a1), (.long (q1 - q5))])) rfl rfl (hb hby d4_10)
  refine own_go (B := T3.setTop (mkF m 13 #[.val (.ref a1)] [(.int p6), (.long (q1 - q5))])) (fun t k => st3 _ k) ?_
  obtain ⟨fs, hr, hrun, hended, hW, hsame⟩ := X3.leave (v := some (.long ((q1 - q5) - (p6.toInt64)))) (fun h => by rw [Bd.returns] at h; cases h)
  refine ⟨_, _, ?_, hrun, hended, _, _, rfl, ?_, ⟨_, rfl⟩, hW, hsame.mono (by decide) (by decide)⟩
  · show Steps p.tables e below (T3.setTop (mkF m 13 #[.val (.ref a1)] [(.int p6), (.long (q1 - q5))])) _
    refine XS.i2l X3.here hx rfl (hb hby d4_13) rfl ?_
    show Steps p.tables e below (T3.setTop (mkF m 14 #[.val (.ref a1)] [(.long (p6.toInt64)), (.long (q1 - q5))])) _
    refine XS.lsub X3.here hx rfl (hb hby d4_14) rfl ?_
    show Steps p.tables e below (T3.setTop (mkF m 15 #[.val (.ref a1)] [(.long ((q1 - q5) - (p6.toInt64)))])) _
    jvm_step X3.here [X3.here.top, hx, (hb hby d4_15), X3.method', Bd.returns, narrow]
    first | (intro acts; rw [hr _ acts rfl rfl rfl]) | rw [hr _ _ rfl rfl rfl]
    exact Steps.refl _
  · show Q4 Z a1 q1 q5 p6 h0 n0 _ T3.heap _
    rw [e3]
    exact ⟨rfl, N0, rfl⟩
theorem own_law (q1 q5 : Int64) (p6 : Int32) : ((q5 + (p6.toInt64)) + ((q1 - q5) - p6.toInt64)) = q1 := by
  generalize p6.toInt64 = r
  apply Int64.toInt_inj.mp
  have h1 := c_ladd q5 r
  have h2 := c_lsub q1 q5
  have h3 := c_lsub (q1 - q5) r
  have h4 := c_ladd (q5 + r) ((q1 - q5) - r)
  have h5 := rng64 ((q5 + r) + ((q1 - q5) - r))
  have h6 := rng64 q1
  omega
theorem pn_0 : plainName "com/example/sealwright/sealwright/model/ZipSectionsTrailingBytesPinLaw" = true := by first | (simp [plainName, overriddenIn]; done) | decide +kernel
theorem ef_0 (m : MethodId) (x0 : Int64) (x1 : Int32) (x2 : Int64) (x3 : Int64) (x4 : Int64) (x5 : Int32) : entryFrame m #[(.long x0), (.int x1), (.long x2), (.long x3), (.long x4), (.int x5)] maxLocals = mkF m 0 #[.val (.long x0), .second, .val (.int x1), .val (.long x2), .second, .val (.long x3), .second, .val (.long x4), .second, .val (.int x5), .unset, .unset, .unset] [] := by first | (simp [entryFrame, mkF, argsToLocals, Value.category, maxLocals]; done) | rfl
def Q0 (Z : State) (q1 : Int64) (p2 : Int32) (q3 : Int64) (q4 : Int64) (q5 : Int64) (p6 : Int32) (h0 : Heap) (n0 : Nat) (v : Option Value) (h : Heap) (L : List Loc) : Prop := v = some (.int 1) ∧ Fr n0 L
set_option maxRecDepth 65536 in
set_option maxHeartbeats 40000000 in
theorem rm0 (l : Launch) (Z : State) (a0 : Array Value) (hw : ∀ d ∈ tables_1, d.before a0 Z = true) (ws : List Jvm.Cond) (q1 : Int64) (p2 : Int32) (q3 : Int64) (q4 : Int64) (q5 : Int64) (p6 : Int32) (h0 : Heap) (n0 : Nat) (Z0 : n0 ≤ h0.size) :
    MetFree l x (head1 (Jvm.Cond.code x code maxLocals ret :: ws) room_1) (fun a U => a = #[(.long q1), (.int p2), (.long q3), (.long q4), (.long q5), (.int p6)] ∧ Z.Warmed39 U.vm ∧ U.heap = h0) (fun _ _ _ _ _ => True) (fun _ U o U' => ∃ v L, o = .returned v ∧ Q0 Z q1 p2 q3 q4 q5 p6 h0 n0 v U'.heap L ∧ FrameEnd U o U' L room_1.cells room_1.slots) := by
  refine MetFree.of_bodySF (plainFor_of_name pn_0) hisR ?_
  intro p e s m args below meth c s₁ Bd hml0 hP hK
  obtain ⟨rfl, hZ, hh⟩ := hP
  have hx := Bd.exec
  have hby := Bd.bytes
  have hml : c.maxLocals = 13 := hml0
  have hown : s.vm.findClass "com/example/sealwright/sealwright/model/ZipSectionsTrailingBytesPinLaw" = some m.cls := findClass_of_methodNamed Bd.named
  have hnm := (name_of_methodNamed Bd.named Bd.method).1
  have X0 : Stand p l e room_1 s m #[(.long q1), (.int p2), (.long q3), (.long q4), (.long q5), (.int p6)] below meth c s₁ [] 0 0 := Stand.of_body Bd
  have e0 : s₁.heap = h0 := by rw [← hh, Bd.state]; rfl
  have N0 := Fr.nil n0
  refine own_go (B := s₁.setTop (mkF m 0 #[.val (.long q1), .second, .val (.int p2), .val (.long q3), .second, .val (.long q4), .second, .val (.long q5), .second, .val (.int p6), .unset, .unset, .unset] [])) (fun t k => castTop (ef_0 m q1 p2 q3 q4 q5 p6) k) ?_
  obtain ⟨T1, h1, X1, e1, E1, A1, D1, -, st1⟩ := newO X0 hx hZ hown (hw _ (List.mem_of_getElem? (i := 0) rfl)) (hw _ (List.mem_of_getElem? (i := 1) rfl)) (hw _ (List.mem_of_getElem? (i := 2) rfl)) e0 (g := (mkF m 0 #[.val (.long q1), .second, .val (.int p2), .val (.long q3), .second, .val (.long q4), .second, .val (.long q5), .second, .val (.int p6), .unset, .unset, .unset] [])) rfl (hb hby at_0) (by decide) (by decide)
  obtain ⟨b1, g1⟩ : ∃ z, z = h0.size := ⟨_, rfl⟩
  rw [← g1] at A1 D1 st1
  have g_b1 : n0 ≤ b1 := Nat.le_trans Z0 (Nat.le_of_eq g1.symm)
  have F1_fileSize : Fld Z h1 b1 "com/example/sealwright/sealwright/model/ZipSections" "fileSize" "J" (.long (0 : Int64)) := D1 (Or.inr (hw _ (List.mem_of_getElem? (i := 15) rfl))) (ty := .long) (by decide)
  have F1_entryCount : Fld Z h1 b1 "com/example/sealwright/sealwright/model/ZipSections" "entryCount" "I" (.int (0 : Int32)) := D1 (Or.inr (hw _ (List.mem_of_getElem? (i := 17) rfl))) (ty := .int) (by decide)
  have F1_centralDirectoryOffset : Fld Z h1 b1 "com/example/sealwright/sealwright/model/ZipSections" "centralDirectoryOffset" "J" (.long (0 : Int64)) := D1 (Or.inr (hw _ (List.mem_of_getElem? (i := 19) rfl))) (ty := .long) (by decide)
  have F1_centralDirectorySize : Fld Z h1 b1 "com/example/sealwright/sealwright/model/ZipSections" "centralDirectorySize" "J" (.long (0 : Int64)) := D1 (Or.inr (hw _ (List.mem_of_getElem? (i := 21) rfl))) (ty := .long) (by decide)
  have F1_endRecordOffset : Fld Z h1 b1 "com/example/sealwright/sealwright/model/ZipSections" "endRecordOffset" "J" (.long (0 : Int64)) := D1 (Or.inr (hw _ (List.mem_of_getElem? (i := 23) rfl))) (ty := .long) (by decide)
  have F1_endRecordSize : Fld Z h1 b1 "com/example/sealwright/sealwright/model/ZipSections" "endRecordSize" "I" (.int (0 : Int32)) := D1 (Or.inr (hw _ (List.mem_of_getElem? (i := 25) rfl))) (ty := .int) (by decide)
  refine own_go (B := T1.setTop (mkF m 3 #[.val (.long q1), .second, .val (.int p2), .val (.long q3), .second, .val (.long q4), .second, .val (.long q5), .second, .val (.int p6), .unset, .unset, .unset] [(.ref b1)])) (fun t k => st1 _ k) ?_
  refine own_go (B := T1.setTop (mkF m 13 #[.val (.long q1), .second, .val (.int p2), .val (.long q3), .second, .val (.long q4), .second, .val (.long q5), .second, .val (.int p6), .unset, .unset, .unset] [(.int p6), (.long q5), (.long q4), (.long q3), (.int p2), (.long q1), (.ref b1), (.ref b1)])) (fun t k => ?_) ?_
  · show Steps p.tables e below (T1.setTop (mkF m 3 #[.val (.long q1), .second, .val (.int p2), .val (.long q3), .second, .val (.long q4), .second, .val (.long q5), .second, .val (.int p6), .unset, .unset, .unset] [(.ref b1)])) _
    refine XS.dup X1.here hx rfl (hb hby at_3) rfl rfl ?_
    show Steps p.tables e below (T1.setTop (mkF m 4 #[.val (.long q1), .second, .val (.int p2), .val (.long q3), .second, .val (.long q4), .second, .val (.long q5), .second, .val (.int p6), .unset, .unset, .unset] [(.ref b1), (.ref b1)])) _
    refine XS.lloadN X1.here hx rfl (hb hby at_4) rfl ?_
    show Steps p.tables e below (T1.setTop (mkF m 5 #[.val (.long q1), .second, .val (.int p2), .val (.long q3), .second, .val (.long q4), .second, .val (.long q5), .second, .val (.int p6), .unset, .unset, .unset] [(.long q1), (.ref b1), (.ref b1)])) _
    refine XS.iloadN X1.here hx rfl (hb hby at_5) rfl ?_
    show Steps p.tables e below (T1.setTop (mkF m 6 #[.val (.long q1), .second, .val (.int p2), .val (.long q3), .second, .val (.long q4), .second, .val (.long q5), .second, .val (.int p6), .unset, .unset, .unset] [(.int p2), (.long q1), (.ref b1), (.ref b1)])) _
    refine XS.lloadN X1.here hx rfl (hb hby at_6) rfl ?_
    show Steps p.tables e below (T1.setTop (mkF m 7 #[.val (.long q1), .second, .val (.int p2), .val (.long q3), .second, .val (.long q4), .second, .val (.long q5), .second, .val (.int p6), .unset, .unset, .unset] [(.long q3), (.int p2), (.long q1), (.ref b1), (.ref b1)])) _
    refine XS.lload X1.here hx rfl (hb hby at_7) rfl ?_
    show Steps p.tables e below (T1.setTop (mkF m 9 #[.val (.long q1), .second, .val (.int p2), .val (.long q3), .second, .val (.long q4), .second, .val (.long q5), .second, .val (.int p6), .unset, .unset, .unset] [(.long q4), (.long q3), (.int p2), (.long q1), (.ref b1), (.ref b1)])) _
    refine XS.lload X1.here hx rfl (hb hby at_9) rfl ?_
    show Steps p.tables e below (T1.setTop (mkF m 11 #[.val (.long q1), .second, .val (.int p2), .val (.long q3), .second, .val (.long q4), .second, .val (.long q5), .second, .val (.int p6), .unset, .unset, .unset] [(.long q5), (.long q4), (.long q3), (.int p2), (.long q1), (.ref b1), (.ref b1)])) _
    refine XS.iload X1.here hx rfl (hb hby at_11) rfl ?_
    exact k
  obtain ⟨_, _, ⟨T2, L2, k2, n2⟩, -, X2, ⟨Lc2, hQ2, l2, y2, z2⟩, st2⟩ := X1.specialBack hx (y := (⟨"com/example/sealwright/sealwright/model/ZipSections", "<init>", "(JIJJJI)V"⟩ : MethodName)) rfl hown (mvT hZ (hw _ (List.mem_of_getElem? (i := 3) rfl))) (mvT hZ (hw _ (List.mem_of_getElem? (i := 4) rfl))) (mvT hZ (hw _ (List.mem_of_getElem? (i := 5) rfl))) (by decide) (backOf (W := 1) (rm1 l Z a0 hw [] b1 q1 p2 q3 q4 q5 p6 h1 n0 (Nat.le_trans Z0 E1.1) A1 g_b1 F1_fileSize F1_entryCount F1_centralDirectoryOffset F1_centralDirectorySize F1_endRecordOffset F1_endRecordSize) hZ (hw _ (List.mem_of_getElem? (i := 5) rfl)) (hw _ (List.mem_of_getElem? (i := 2) rfl)) (by decide) (by decide)) (g := (mkF m 13 #[.val (.long q1), .second, .val (.int p2), .val (.long q3), .second, .val (.long q4), .second, .val (.long q5), .second, .val (.int p6), .unset, .unset, .unset] [(.int p6), (.long q5), (.long q4), (.long q3), (.int p2), (.long q1), (.ref b1), (.ref b1)])) rfl (by rw [hml]; rfl) (Steps.refl _) (a := b1) (argsL := [(.long q1), (.int p2), (.long q3), (.long q4), (.long q5), (.int p6)]) (rest := [(.ref b1)]) (lenOf own_pd1 rfl) rfl (by show 2 * 0 + _ ≤ _; exact Nat.le_of_eq rfl) (hb hby at_13) (fun _ _ => ⟨rfl, e1, (by decide : 1 + 0 ≤ _), (by decide : 6 + 0 ≤ _)⟩)
  dsimp only [Pt.U, Pt.locs, Pt.cells, Pt.slots] at X2 l2 y2 z2 st2 hQ2
  subst l2 y2 z2
  obtain ⟨rfl, N2q, K2q, E2q, F2_fileSize, F2_endRecordOffset, F2_endRecordSize⟩ := hQ2
  have N2 := Fr.app N0 N2q
  refine own_go (B := T2.setTop (mkF m 16 #[.val (.long q1), .second, .val (.int p2), .val (.long q3), .second, .val (.long q4), .second, .val (.long q5), .second, .val (.int p6), .unset, .unset, .unset] [(.ref b1)])) (fun t k => st2.trans k) ?_
  refine own_go (B := T2.setTop (mkF m 20 #[.val (.long q1), .second, .val (.int p2), .val (.long q3), .second, .val (.long q4), .second, .val (.long q5), .second, .val (.int p6), .val (.ref b1), .unset, .unset] [(.ref b1)])) (fun t k => ?_) ?_
  · show Steps p.tables e below (T2.setTop (mkF m 16 #[.val (.long q1), .second, .val (.int p2), .val (.long q3), .second, .val (.long q4), .second, .val (.long q5), .second, .val (.int p6), .unset, .unset, .unset] [(.ref b1)])) _
    refine XS.astore X2.here hx rfl (hb hby at_16) rfl rfl (l' := #[.val (.long q1), .second, .val (.int p2), .val (.long q3), .second, .val (.long q4), .second, .val (.long q5), .second, .val (.int p6), .val (.ref b1), .unset, .unset]) rfl ?_
    show Steps p.tables e below (T2.setTop (mkF m 18 #[.val (.long q1), .second, .val (.int p2), .val (.long q3), .second, .val (.long q4), .second, .val (.long q5), .second, .val (.int p6), .val (.ref b1), .unset, .unset] [])) _
    refine XS.aload X2.here hx rfl (hb hby at_18) rfl rfl ?_
    exact k
  obtain ⟨cq3, kq3, q3a, q3b, q3c⟩ := isOf hZ rfl E2q
  obtain ⟨_, _, ⟨T3, L3, k3, n3⟩, -, X3, ⟨Lc3, hQ3, l3, y3, z3⟩, st3⟩ := X2.virtualBack hx (y := (⟨"com/example/sealwright/sealwright/model/ZipSections", "trailingBytes", "()J"⟩ : MethodName)) (z := (⟨"com/example/sealwright/sealwright/model/ZipSections", "trailingBytes", "()J"⟩ : MethodName)) hown (mvT hZ (hw _ (List.mem_of_getElem? (i := 26) rfl))) (mvT hZ (hw _ (List.mem_of_getElem? (i := 27) rfl))) (notFace_of_selects (args := #[]) (mvT hZ (hw _ (List.mem_of_getElem? (i := 29) rfl)))) (mvT hZ (hw _ (List.mem_of_getElem? (i := 29) rfl))) (mvT hZ (hw _ (List.mem_of_getElem? (i := 28) rfl))) (by decide) (backOf (W := 0) (rm4 l Z a0 hw [] b1 q1 q5 p6 T2.heap n0 (Nat.le_trans (Nat.le_trans Z0 E1.1) K2q.1) F2_fileSize F2_endRecordOffset F2_endRecordSize) hZ (hw _ (List.mem_of_getElem? (i := 30) rfl)) (hw _ (List.mem_of_getElem? (i := 2) rfl)) (by decide) (by decide)) q3a q3c (g := (mkF m 20 #[.val (.long q1), .second, .val (.int p2), .val (.long q3), .second, .val (.long q4), .second, .val (.long q5), .second, .val (.int p6), .val (.ref b1), .unset, .unset] [(.ref b1)])) rfl (by rw [hml]; rfl) (Steps.refl _) (argsL := []) (rest := []) (lenOf own_pd2 rfl) rfl (by show 2 * 0 + _ ≤ _; exact Nat.le_of_eq rfl) (hb hby at_20) (fun _ _ => ⟨rfl, rfl, (by decide : 1 + 0 ≤ _), (by decide : 6 + 0 ≤ _)⟩)
  dsimp only [Pt.U, Pt.locs, Pt.cells, Pt.slots] at X3 l3 y3 z3 st3 hQ3
  subst l3 y3 z3
  obtain ⟨rfl, N3q, eq3⟩ := hQ3
  have N3 := Fr.app N2 N3q
  refine own_go (B := T3.setTop (mkF m 23 #[.val (.long q1), .second, .val (.int p2), .val (.long q3), .second, .val (.long q4), .second, .val (.long q5), .second, .val (.int p6), .val (.ref b1), .unset, .unset] [(.long ((q1 - q5) - p6.toInt64))])) (fun t k => st3.trans k) ?_
  obtain ⟨fs, hr, hrun, hended, hW, hsame⟩ := X3.leave (v := some (.int (1 : Int32))) (fun h => by rw [Bd.returns] at h; cases h)
  refine ⟨_, _, ?_, hrun, hended, _, _, rfl, ?_, ⟨_, rfl⟩, hW, hsame.mono (by decide) (by decide)⟩
  · show Steps p.tables e below (T3.setTop (mkF m 23 #[.val (.long q1), .second, .val (.int p2), .val (.long q3), .second, .val (.long q4), .second, .val (.long q5), .second, .val (.int p6), .val (.ref b1), .unset, .unset] [(.long ((q1 - q5) - p6.toInt64))])) _
    refine XS.lstore X3.here hx rfl (hb hby at_23) rfl (l' := #[.val (.long q1), .second, .val (.int p2), .val (.long q3), .second, .val (.long q4), .second, .val (.long q5), .second, .val (.int p6), .val (.ref b1), .val (.long ((q1 - q5) - p6.toInt64)), .second]) rfl ?_
    show Steps p.tables e below (T3.setTop (mkF m 25 #[.val (.long q1), .second, .val (.int p2), .val (.long q3), .second, .val (.long q4), .second, .val (.long q5), .second, .val (.int p6), .val (.ref b1), .val (.long ((q1 - q5) - p6.toInt64)), .second] [])) _
    refine XS.lload X3.here hx rfl (hb hby at_25) rfl ?_
    show Steps p.tables e below (T3.setTop (mkF m 27 #[.val (.long q1), .second, .val (.int p2), .val (.long q3), .second, .val (.long q4), .second, .val (.long q5), .second, .val (.int p6), .val (.ref b1), .val (.long ((q1 - q5) - p6.toInt64)), .second] [(.long q5)])) _
    refine XS.iload X3.here hx rfl (hb hby at_27) rfl ?_
    show Steps p.tables e below (T3.setTop (mkF m 29 #[.val (.long q1), .second, .val (.int p2), .val (.long q3), .second, .val (.long q4), .second, .val (.long q5), .second, .val (.int p6), .val (.ref b1), .val (.long ((q1 - q5) - p6.toInt64)), .second] [(.int p6), (.long q5)])) _
    refine XS.i2l X3.here hx rfl (hb hby at_29) rfl ?_
    show Steps p.tables e below (T3.setTop (mkF m 30 #[.val (.long q1), .second, .val (.int p2), .val (.long q3), .second, .val (.long q4), .second, .val (.long q5), .second, .val (.int p6), .val (.ref b1), .val (.long ((q1 - q5) - p6.toInt64)), .second] [(.long (p6.toInt64)), (.long q5)])) _
    refine XS.ladd X3.here hx rfl (hb hby at_30) rfl ?_
    show Steps p.tables e below (T3.setTop (mkF m 31 #[.val (.long q1), .second, .val (.int p2), .val (.long q3), .second, .val (.long q4), .second, .val (.long q5), .second, .val (.int p6), .val (.ref b1), .val (.long ((q1 - q5) - p6.toInt64)), .second] [(.long (q5 + (p6.toInt64)))])) _
    refine XS.lload X3.here hx rfl (hb hby at_31) rfl ?_
    show Steps p.tables e below (T3.setTop (mkF m 33 #[.val (.long q1), .second, .val (.int p2), .val (.long q3), .second, .val (.long q4), .second, .val (.long q5), .second, .val (.int p6), .val (.ref b1), .val (.long ((q1 - q5) - p6.toInt64)), .second] [(.long ((q1 - q5) - p6.toInt64)), (.long (q5 + (p6.toInt64)))])) _
    refine XS.ladd X3.here hx rfl (hb hby at_33) rfl ?_
    show Steps p.tables e below (T3.setTop (mkF m 34 #[.val (.long q1), .second, .val (.int p2), .val (.long q3), .second, .val (.long q4), .second, .val (.long q5), .second, .val (.int p6), .val (.ref b1), .val (.long ((q1 - q5) - p6.toInt64)), .second] [(.long ((q5 + (p6.toInt64)) + ((q1 - q5) - p6.toInt64)))])) _
    refine XS.lloadN X3.here hx rfl (hb hby at_34) rfl ?_
    show Steps p.tables e below (T3.setTop (mkF m 35 #[.val (.long q1), .second, .val (.int p2), .val (.long q3), .second, .val (.long q4), .second, .val (.long q5), .second, .val (.int p6), .val (.ref b1), .val (.long ((q1 - q5) - p6.toInt64)), .second] [(.long q1), (.long ((q5 + (p6.toInt64)) + ((q1 - q5) - p6.toInt64)))])) _
    refine XS.lcmp X3.here hx rfl (hb hby at_35) rfl ?_
    show Steps p.tables e below (T3.setTop (mkF m 36 #[.val (.long q1), .second, .val (.int p2), .val (.long q3), .second, .val (.long q4), .second, .val (.long q5), .second, .val (.int p6), .val (.ref b1), .val (.long ((q1 - q5) - p6.toInt64)), .second] [(.int (lcmpW ((q5 + (p6.toInt64)) + ((q1 - q5) - p6.toInt64)) q1))])) _
    refine XS.ifNo X3.here hx rfl (hb hby at_36) rfl ((if0 _ _).trans (teq ((lw_eq _ _).mpr (own_law q1 q5 p6))).2) ?_
    show Steps p.tables e below (T3.setTop (mkF m 39 #[.val (.long q1), .second, .val (.int p2), .val (.long q3), .second, .val (.long q4), .second, .val (.long q5), .second, .val (.int p6), .val (.ref b1), .val (.long ((q1 - q5) - p6.toInt64)), .second] [])) _
    refine XS.iconst X3.here hx rfl (hb hby at_39) ?_
    show Steps p.tables e below (T3.setTop (mkF m 40 #[.val (.long q1), .second, .val (.int p2), .val (.long q3), .second, .val (.long q4), .second, .val (.long q5), .second, .val (.int p6), .val (.ref b1), .val (.long ((q1 - q5) - p6.toInt64)), .second] [(.int (1 : Int32))])) _
    refine XS.goto X3.here hx rfl (pc0 := 40) (pc' := 44) rfl (hb hby at_40) (by decide) (by decide) ?_
    show Steps p.tables e below (T3.setTop (mkF m 44 #[.val (.long q1), .second, .val (.int p2), .val (.long q3), .second, .val (.long q4), .second, .val (.long q5), .second, .val (.int p6), .val (.ref b1), .val (.long ((q1 - q5) - p6.toInt64)), .second] [(.int (1 : Int32))])) _
    exact retN X3 hx (t := .boolean) Bd.returns (by simp) (hb hby at_44) hr
  · show Q0 Z q1 p2 q3 q4 q5 p6 h0 n0 _ T3.heap _
    rw [eq3]
    exact ⟨rfl, N3⟩
set_option maxRecDepth 65536 in
set_option maxHeartbeats 40000000 in
theorem comes_1 {Post : Tables → Env → Array Value → State → Outcome → State → Prop} (hpost : ∀ tb e args s v u, (limb_1_1.after args s (.returned v) u = true ∧ limb_1_2.after args s (.returned v) u = true ∧ True) → FrameEnd s (.returned v) u (Jvm.fieldLocs frame_1_writes args s ++ Jvm.arrayLocs frame_1_arrays args s ++ Jvm.staticLocs frame_1_statics s) 16 128 → Post tb e args s (.returned v) u) :
    ArmFor flags0 classFile x code maxLocals ret World_1 tables_1 room_1 Calls_1 rest_1 Pre_1 Post := by
  intro l hfl _ _ p e ha hc hk s m args below hf hA hF happ hP
  obtain ⟨hcalls, hrest, hpre⟩ := hP
  obtain ⟨-, -, -, hnamed, -, -, -, hat⟩ := (Spec.applies_iff hf).mp happ
  obtain ⟨hg, hn⟩ := and_e (Cond.before_iff.mp (show (Jvm.Cond.and given_1 narrow_1).before args s = true from hpre))
  obtain ⟨gc, ga0⟩ := and_e hg
  obtain ⟨ha0, ga1⟩ := and_e ga0
  obtain ⟨ha1, ga2⟩ := and_e ga1
  obtain ⟨ha2, ga3⟩ := and_e ga2
  obtain ⟨ha3, ga4⟩ := and_e ga3
  obtain ⟨ha4, ga5⟩ := and_e ga4
  obtain ⟨w0, w1, w2, w3, w4, w5, rfl⟩ : ∃ w0 w1 w2 w3 w4 w5 : Value, args = #[w0, w1, w2, w3, w4, w5] := by
    have hs : args.size = 6 := by simpa [Cond.value, given_1] using gc
    obtain ⟨L⟩ := args
    match L, hs with
    | [w0, w1, w2, w3, w4, w5], _ => exact ⟨w0, w1, w2, w3, w4, w5, rfl⟩
  have hw := fun d (hd : d ∈ tables_1) => atoms_spec (ws := Jvm.Cond.code x code maxLocals ret :: tables_1) hat d (List.mem_cons_of_mem _ hd)
  have hfit : Fit s := fun {y c} hc i hi => by
    obtain ⟨ha, rfl⟩ := Array.getElem?_eq_some_iff.mp hc
    have q := List.all_eq_true.mp ((Array.all_eq_true_iff_forall_mem.mp hF) _ (Array.getElem_mem ha)) i (List.mem_range.mpr hi)
    simpa [Array.getElem?_eq_getElem hi] using q
  obtain ⟨i0, ei0⟩ := isL_v ha0
  obtain rfl : w0 = (.long i0) := Option.some.inj ei0
  obtain ⟨i1, ei1⟩ := is_v ha1
  obtain rfl : w1 = (.int i1) := Option.some.inj ei1
  obtain ⟨i2, ei2⟩ := isL_v ha2
  obtain rfl : w2 = (.long i2) := Option.some.inj ei2
  obtain ⟨i3, ei3⟩ := isL_v ha3
  obtain rfl : w3 = (.long i3) := Option.some.inj ei3
  obtain ⟨i4, ei4⟩ := isL_v ha4
  obtain rfl : w4 = (.long i4) := Option.some.inj ei4
  obtain ⟨i5, ei5⟩ := is_v ga5
  obtain rfl : w5 = (.int i5) := Option.some.inj ei5
  obtain ⟨n, o, h1, h2, h3, _, L, rfl, ⟨rfl, N⟩, hq⟩ := rm0 l s _ hw tables_1 i0 i1 i2 i3 i4 i5 s.heap s.heap.size (Nat.le_refl _)  p e ha hc hk s m _ below hf ((Spec.applies_iff_loose hf).mp happ).1 ⟨rfl, State.Warmed39.refl s, rfl⟩ trivial
  refine ⟨n, _, h1, h2, h3, hpost _ _ _ _ _ _ ⟨Cond.after_iff.mpr rfl, Cond.after_iff.mpr (eq_i res_at (Term.int_eval (1)) rfl), trivial⟩ ⟨hq.1, hq.2.1, (hq.2.2.sift fun y hy => Or.inr (N y hy)).mono (by decide) (by decide)⟩⟩
theorem main_1_1 : Claimed_1_1 := comes_1 fun _ _ _ _ _ _ h hF => ⟨h.1, hF⟩
theorem main_1_2 : Claimed_1_2 := comes_1 fun _ _ _ _ _ _ h hF => ⟨h.2.1, hF⟩
end Jvm.Pilot.@@N@@
namespace Jvm.Pilot.@@N@@
open Jvm Jvm.ClassFile Sem Op Lib Jvm.Free Jvm.Stand Jvm.Pilot.@@N@@.Jvm.D
/-! MADE BY PROGRAM (witnessworld.py) out of the Statement's table words and the real class files: 8 classes; the members and pool entries that the words name. The judged class is class 1, her method 1. -/
namespace start1
open Jvm.ClassFile
def u (s : String) : CpInfo := .utf8 (stringToUtf16 s)
/-- a pool by its gaps: so many unusable entries, then the entry; so many at the end -/
def gap : Nat → List CpInfo → List CpInfo
  | 0, r => r
  | n + 1, r => .unusable :: gap n r
def poolList (es : List (Nat × CpInfo)) (last : Nat) : List CpInfo := es.foldr (fun e r => gap e.1 (e.2 :: r)) (gap last [])
def pool (es : List (Nat × CpInfo)) (last : Nat) : Array CpInfo := ⟨poolList es last⟩
def fileOf (pool : Array CpInfo) (this : Nat) (attrs : Array Attribute := #[]) (ms : Array MethodInfo := #[]) (fl : Nat := 33) (sup : Nat := 0) (ifs : Array Nat := #[]) (fds : Array FieldInfo := #[]) : ClassFile where
  minorVersion := 0
  majorVersion := 65
  constantPool := pool
  accessFlags := fl
  thisClass := this
  superClass := sup
  interfaces := ifs
  fields := fds
  methods := ms
  attributes := attrs
def plain (name : String) (sup : Option ClassId) : Class where
  name := name
  kind := .ordinary
  loader := none
  accessFlags := 33
  super := sup
  interfaces := #[]
  cf := none
  fields := #[]
  methods := #[]
  instanceTypes := #[]
  staticTypes := #[]
  resolved := #[]
  callSites := []
  init := .initialized
  statics := none
  mirror := none

def pool0 : Array CpInfo := pool [(5, u "<init>"), (0, u "()V"), (1, .class_ 10), (1, u "java/lang/Object")] 113

def k0c0 : Code := { maxStack := 0, maxLocals := 1, code := object_method_1_code, exceptionTable := #[], attributes := #[] }
def k0m0 : Method := { name := "<init>", desc := "()V", sig := { parameters := [], returnType := none }, accessFlags := 1, code := some k0c0 }
/-- java/lang/Object -/
def k0 : Class := { plain "java/lang/Object" none with
  accessFlags := 33
  interfaces := #[]
  cf := some (fileOf pool0 8 #[] #[{ accessFlags := 1, nameIndex := 5, descriptorIndex := 6, attributes := #[] }] 33 0 #[] #[])
  fields := #[]
  methods := #[k0m0]
  instanceTypes := #[]
  staticTypes := #[]
  resolved := Array.replicate 124 none
  statics := none }

def pool1 : Array CpInfo := pool [(2, .class_ 4), (1, u "java/lang/Object"), (0, u "<init>"), (0, u "()V"), (0, .class_ 8), (0, u "com/example/sealwright/sealwright/model/ZipSections"), (0, .methodref 7 10), (0, .nameAndType 5 11), (0, u "(JIJJJI)V"), (0, .methodref 7 13), (0, .nameAndType 14 15), (0, u "trailingBytes"), (0, u "()J"), (0, .class_ 17), (0, u "com/example/sealwright/sealwright/model/ZipSectionsTrailingBytesPinLaw"), (2, u "law"), (0, u "(JIJJJI)Z")] 3

def k1m0 : Method := { name := "<init>", desc := "()V", sig := { parameters := [], returnType := none }, accessFlags := 1, code := none }
def k1c1 : Code := { maxStack := 12, maxLocals := 13, code := code, exceptionTable := #[], attributes := #[] }
def k1m1 : Method := { name := "law", desc := "(JIJJJI)Z", sig := { parameters := [.long, .int, .long, .long, .long, .int], returnType := some .boolean }, accessFlags := 9, code := some k1c1 }
/-- com/example/sealwright/sealwright/model/ZipSectionsTrailingBytesPinLaw -/
def k1 : Class := { plain "com/example/sealwright/sealwright/model/ZipSectionsTrailingBytesPinLaw" (some 0) with
  accessFlags := 49
  interfaces := #[]
  cf := some (fileOf pool1 16 #[] #[{ accessFlags := 1, nameIndex := 5, descriptorIndex := 6, attributes := #[] }, { accessFlags := 9, nameIndex := 20, descriptorIndex := 21, attributes := #[] }] 49 2 #[] #[])
  fields := #[]
  methods := #[k1m0, k1m1]
  instanceTypes := #[]
  staticTypes := #[]
  resolved := Array.replicate 25 none
  statics := none }

def pool2 : Array CpInfo := pool [(1, .methodref 2 3), (0, .class_ 4), (0, .nameAndType 5 6), (0, u "java/lang/Object"), (0, u "<init>"), (0, u "()V"), (0, .class_ 8), (0, u "java/lang/Record")] 13

def k2c0 : Code := { maxStack := 1, maxLocals := 1, code := jdk_30_method_1_code, exceptionTable := #[], attributes := #[] }
def k2m0 : Method := { name := "<init>", desc := "()V", sig := { parameters := [], returnType := none }, accessFlags := 4, code := some k2c0 }
/-- java/lang/Record -/
def k2 : Class := { plain "java/lang/Record" (some 0) with
  accessFlags := 1057
  interfaces := #[]
  cf := some (fileOf pool2 7 #[] #[{ accessFlags := 4, nameIndex := 5, descriptorIndex := 6, attributes := #[] }] 1057 2 #[] #[])
  fields := #[]
  methods := #[k2m0]
  instanceTypes := #[]
  staticTypes := #[]
  resolved := Array.replicate 22 none
  statics := none }

def pool3 : Array CpInfo := pool [(1, .methodref 2 3), (0, .class_ 4), (0, .nameAndType 5 6), (0, u "java/lang/Record"), (0, u "<init>"), (0, u "()V"), (0, .fieldref 8 9), (0, .class_ 10), (0, .nameAndType 11 12), (0, u "com/example/sealwright/sealwright/model/ZipSections"), (0, u "fileSize"), (0, u "J"), (0, .fieldref 8 14), (0, .nameAndType 15 16), (0, u "entryCount"), (0, u "I"), (0, .fieldref 8 18), (0, .nameAndType 19 12), (0, u "centralDirectoryOffset"), (0, .fieldref 8 21), (0, .nameAndType 22 12), (0, u "centralDirectorySize"), (0, .fieldref 8 24), (0, .nameAndType 25 12), (0, u "endRecordOffset"), (0, .fieldref 8 27), (0, .nameAndType 28 16), (0, u "endRecordSize"), (12, u "(JIJJJI)V"), (3, u "trailingBytes"), (0, u "()J")] 28

def k3c0 : Code := { maxStack := 3, maxLocals := 11, code := prog_84_method_1_code, exceptionTable := #[], attributes := #[] }
def k3m0 : Method := { name := "<init>", desc := "(JIJJJI)V", sig := { parameters := [.long, .int, .long, .long, .long, .int], returnType := none }, accessFlags := 1, code := some k3c0 }
def k3c1 : Code := { maxStack := 4, maxLocals := 1, code := prog_84_method_2_code, exceptionTable := #[], attributes := #[] }
def k3m1 : Method := { name := "trailingBytes", desc := "()J", sig := { parameters := [], returnType := some .long }, accessFlags := 1, code := some k3c1 }
/-- com/example/sealwright/sealwright/model/ZipSections -/
def k3 : Class := { plain "com/example/sealwright/sealwright/model/ZipSections" (some 2) with
  accessFlags := 49
  interfaces := #[]
  cf := some (fileOf pool3 8 #[] #[{ accessFlags := 1, nameIndex := 5, descriptorIndex := 41, attributes := #[] }, { accessFlags := 1, nameIndex := 45, descriptorIndex := 46, attributes := #[] }] 49 2 #[] #[{ accessFlags := 18, nameIndex := 11, descriptorIndex := 12, attributes := #[] }, { accessFlags := 18, nameIndex := 15, descriptorIndex := 16, attributes := #[] }, { accessFlags := 18, nameIndex := 19, descriptorIndex := 12, attributes := #[] }, { accessFlags := 18, nameIndex := 22, descriptorIndex := 12, attributes := #[] }, { accessFlags := 18, nameIndex := 25, descriptorIndex := 12, attributes := #[] }, { accessFlags := 18, nameIndex := 28, descriptorIndex := 16, attributes := #[] }])
  fields := #[{ name := "fileSize", type := .long, accessFlags := 18, slot := 0, constantValue := 0 }, { name := "entryCount", type := .int, accessFlags := 18, slot := 1, constantValue := 0 }, { name := "centralDirectoryOffset", type := .long, accessFlags := 18, slot := 2, constantValue := 0 }, { name := "centralDirectorySize", type := .long, accessFlags := 18, slot := 3, constantValue := 0 }, { name := "endRecordOffset", type := .long, accessFlags := 18, slot := 4, constantValue := 0 }, { name := "endRecordSize", type := .int, accessFlags := 18, slot := 5, constantValue := 0 }]
  methods := #[k3m0, k3m1]
  instanceTypes := #[.long, .int, .long, .long, .long, .int]
  staticTypes := #[]
  resolved := Array.replicate 75 none
  statics := none }

def pool4 : Array CpInfo := pool [(1, u "java/lang/Cloneable"), (0, .class_ 1), (0, u "java/lang/Object"), (0, .class_ 3)] 3

/-- java/lang/Cloneable -/
def k4 : Class := { plain "java/lang/Cloneable" (some 0) with
  accessFlags := 1537
  interfaces := #[]
  cf := some (fileOf pool4 2 #[] #[] 1537 4 #[] #[])
  fields := #[]
  methods := #[]
  instanceTypes := #[]
  staticTypes := #[]
  resolved := Array.replicate 8 none
  statics := none }

def pool5 : Array CpInfo := pool [(1, u "java/io/Serializable"), (0, .class_ 1), (0, u "java/lang/Object"), (0, .class_ 3)] 3

/-- java/io/Serializable -/
def k5 : Class := { plain "java/io/Serializable" (some 0) with
  accessFlags := 1537
  interfaces := #[]
  cf := some (fileOf pool5 2 #[] #[] 1537 4 #[] #[])
  fields := #[]
  methods := #[]
  instanceTypes := #[]
  staticTypes := #[]
  resolved := Array.replicate 8 none
  statics := none }

/-- the primitive byte -/
def k6 : Class := { plain "byte" none with kind := .primitive 'B', accessFlags := 0x411 }
/-- [B -/
def k7 : Class := { plain "[B" (some 0) with kind := .array 6 .byte, interfaces := #[4, 5], accessFlags := 1041 }

def heap : Heap := #[]
def classes : Array Class := #[k0, k1, k2, k3, k4, k5, k6, k7]
def interned : List (Array UInt16 × Addr) := []
def slotsUsed : Nat := 0
def theMethod : MethodId := ⟨1, 1⟩
def args0 : Array Value := #[.long 100, .int 2, .long 3, .long 4, .long 5, .int 6]
def aboutOver (below : List Frame) : State where
  vm := { classes := classes, interned := interned.toArray }
  heap := heap
  slotsUsed := slotsUsed
  threads := #[{ frames := .invoking theMethod args0 :: below }]
def below0 : List Frame := [.native { method := ⟨0, 0⟩, args := #[] }]
def about1 : State := aboutOver below0
def p0 : Program := .bare "" "" ""
def e0 : Env := launch0.env 0 0 0
theorem w_frames : about1.frames = Frame.invoking theMethod args0 :: below0 := rfl
set_option maxRecDepth 65536 in
theorem w_args : argsFit about1.vm theMethod args0 = true := by decide +kernel
set_option maxRecDepth 65536 in
theorem w_heap : heapFits about1 = true := by decide +kernel
set_option maxRecDepth 65536 in
theorem w_runnable : about1.curStatus? = some .runnable := by decide +kernel
set_option maxRecDepth 65536 in
theorem w_alone : about1.alone = true := by decide +kernel
set_option maxRecDepth 65536 in
theorem w_named : about1.methodNamed? x = some theMethod := by decide +kernel
set_option maxRecDepth 65536 in
theorem w_hears : about1.hears theMethod below0 = true := by decide +kernel
set_option maxRecDepth 65536 in
theorem w_ripe : about1.ripe theMethod args0 below0 = true := by decide +kernel
theorem w_running : about1.status = .running := rfl
set_option maxRecDepth 65536 in
theorem w_room : about1.hasRoom e0.platform room_1 = true :=
  launch0.hasRoom_least _ room_1 (by decide +kernel) (by decide +kernel) (by decide +kernel) (by decide +kernel) (by decide +kernel) (by decide +kernel)
theorem allAtoms_all (ts : List Jvm.Cond) (a : Array Jvm.Value) (st : Jvm.State) : (allAtoms ts).before a st = ts.all (fun c => c.before a st) := by
  induction ts with
  | nil => rfl
  | cons c t ih =>
    show (Jvm.Cond.and c (allAtoms t)).before a st = _
    rw [Jvm.Cond.before_and, ih, List.all_cons]
def words1 : List Jvm.Cond := Jvm.Cond.code x code maxLocals ret :: tables_1
/-- a 'code' word, met by the world's own term for the bytes: nothing is compared byte by byte -/
theorem code_word {y : MethodName} {bytes : ByteArray} {mx : Nat} {rt : Option FieldType} {a : Array Value} {s : State} {m : MethodId} {meth : Method} {c : Code} (h1 : s.methodNamed? y = some m) (h2 : s.vm.method? m = some meth) (h3 : meth.code = some c) (h4 : c.code = bytes)
    (h5 : (c.maxLocals == mx && c.exceptionTable.isEmpty && decide (c.maxStack ≤ mostOperands) && decide (meth.sig.returnType = rt) && !meth.locks && decide (parseMethodDescriptor y.desc = some meth.sig)) = true) : (Jvm.Cond.code y bytes mx rt).before a s = true := by
  simp only [Bool.and_eq_true, beq_iff_eq, Bool.not_eq_true', decide_eq_true_eq] at h5
  obtain ⟨⟨⟨⟨⟨g1, g2⟩, g3⟩, g4⟩, g5⟩, g6⟩ := h5
  simp [Cond.before, Cond.holds, Cond.value, h1, h2, h3, h4, g1, g2, g3, g4, g5, g6]
def isCode : Jvm.Cond → Bool
  | .code _ _ _ _ => true
  | _ => false
theorem all_split {L : List Jvm.Cond} {P : Jvm.Cond → Bool} (h1 : L.all (fun c => isCode c || P c) = true) (h2 : ∀ c ∈ L.filter isCode, P c = true) : L.all P = true := by
  refine List.all_eq_true.mpr fun c hc => ?_
  have h := List.all_eq_true.mp h1 c hc
  rcases Bool.eq_false_or_eq_true (isCode c) with hi | hi
  · exact h2 c (List.mem_filter.mpr ⟨hc, hi⟩)
  · simpa [hi] using h
set_option maxRecDepth 65536 in
theorem w_c0 : (Jvm.Cond.code x code maxLocals ret).before args0 about1 = true := code_word (m := ⟨1, 1⟩) (meth := k1m1) (c := k1c1) (by decide +kernel) rfl rfl rfl (by decide +kernel)
set_option maxRecDepth 65536 in
theorem w_c1 : (Jvm.Cond.code ({ cls := "com/example/sealwright/sealwright/model/ZipSections", name := "<init>", desc := "(JIJJJI)V" } : Jvm.MethodName) prog_84_method_1_code (11 : Nat) (Option.none : Option Jvm.ClassFile.FieldType)).before args0 about1 = true := code_word (m := ⟨3, 0⟩) (meth := k3m0) (c := k3c0) (by decide +kernel) rfl rfl rfl (by decide +kernel)
set_option maxRecDepth 65536 in
theorem w_c2 : (Jvm.Cond.code ({ cls := "java/lang/Record", name := "<init>", desc := "()V" } : Jvm.MethodName) jdk_30_method_1_code (1 : Nat) (Option.none : Option Jvm.ClassFile.FieldType)).before args0 about1 = true := code_word (m := ⟨2, 0⟩) (meth := k2m0) (c := k2c0) (by decide +kernel) rfl rfl rfl (by decide +kernel)
set_option maxRecDepth 65536 in
theorem w_c3 : (Jvm.Cond.code ({ cls := "java/lang/Object", name := "<init>", desc := "()V" } : Jvm.MethodName) object_method_1_code (1 : Nat) (Option.none : Option Jvm.ClassFile.FieldType)).before args0 about1 = true := code_word (m := ⟨0, 0⟩) (meth := k0m0) (c := k0c0) (by decide +kernel) rfl rfl rfl (by decide +kernel)
set_option maxRecDepth 65536 in
theorem w_c4 : (Jvm.Cond.code ({ cls := "com/example/sealwright/sealwright/model/ZipSections", name := "trailingBytes", desc := "()J" } : Jvm.MethodName) prog_84_method_2_code (1 : Nat) (Option.some Jvm.ClassFile.FieldType.long)).before args0 about1 = true := code_word (m := ⟨3, 1⟩) (meth := k3m1) (c := k3c1) (by decide +kernel) rfl rfl rfl (by decide +kernel)
def codes1 : List Jvm.Cond := [Jvm.Cond.code x code maxLocals ret, Jvm.Cond.code ({ cls := "com/example/sealwright/sealwright/model/ZipSections", name := "<init>", desc := "(JIJJJI)V" } : Jvm.MethodName) prog_84_method_1_code (11 : Nat) (Option.none : Option Jvm.ClassFile.FieldType), Jvm.Cond.code ({ cls := "java/lang/Record", name := "<init>", desc := "()V" } : Jvm.MethodName) jdk_30_method_1_code (1 : Nat) (Option.none : Option Jvm.ClassFile.FieldType), Jvm.Cond.code ({ cls := "java/lang/Object", name := "<init>", desc := "()V" } : Jvm.MethodName) object_method_1_code (1 : Nat) (Option.none : Option Jvm.ClassFile.FieldType), Jvm.Cond.code ({ cls := "com/example/sealwright/sealwright/model/ZipSections", name := "trailingBytes", desc := "()J" } : Jvm.MethodName) prog_84_method_2_code (1 : Nat) (Option.some Jvm.ClassFile.FieldType.long)]
set_option maxRecDepth 65536 in
theorem codes_eq : words1.filter isCode = codes1 := rfl
theorem w_codes : ∀ c ∈ words1.filter isCode, c.before args0 about1 = true := by
  rw [codes_eq]
  intro c hc
  simp only [codes1, List.mem_cons, List.not_mem_nil, or_false] at hc
  rcases hc with rfl | rfl | rfl | rfl | rfl
  · exact w_c0
  · exact w_c1
  · exact w_c2
  · exact w_c3
  · exact w_c4
set_option maxRecDepth 65536 in
theorem w_t1 : (words1.take 24).all (fun c => isCode c || c.before args0 about1) = true := by decide +kernel
set_option maxRecDepth 65536 in
theorem w_t2 : (words1.drop 24).all (fun c => isCode c || c.before args0 about1) = true := by decide +kernel
theorem w_tables : (allAtoms (Jvm.Cond.code x code maxLocals ret :: tables_1)).before args0 about1 = true := by
  rw [allAtoms_all]
  show words1.all (fun c => c.before args0 about1) = true
  refine all_split ?_ w_codes
  rw [← List.take_append_drop 24 words1, List.all_append, w_t1, w_t2]
  rfl
set_option maxRecDepth 65536 in
theorem w_case : (Jvm.Cond.and given_1 narrow_1).before args0 about1 = true := by decide +kernel
theorem w_applies : (headSpec (Jvm.Cond.code x code maxLocals ret :: tables_1) room_1).applies x e0.platform about1 = true :=
  (Spec.applies_iff w_frames).mpr ⟨w_running, w_runnable, w_alone, w_named, w_hears, w_ripe, w_room, w_tables⟩
theorem atStart : AtStart classFile x code maxLocals ret World_1 tables_1 room_1 Calls_1 rest_1 Pre_1 launch0 p0 e0 about1 theMethod args0 below0 :=
  ⟨lists_1, trivial, launch0.admits_env _ _ _, launch0.least_env, fairChoices_fair.cas, fairChoices_fair.clock, w_frames, w_args, w_heap, w_applies, trivial, trivial, w_case⟩
end start1
theorem witness_1 : WitnessClaimed_1 := ⟨start1.p0, start1.e0, start1.about1, start1.theMethod, start1.args0, start1.below0, start1.atStart⟩
end Jvm.Pilot.@@N@@
